import Derived.Test.Qxb6606049aLaws
namespace Go.Proofs.Qxb6606049a
open Go.RowKit
set_option linter.unusedVariables false

theorem ret_int {k : IntKind} {a b : Int} (h : a = b) : Ending.returned (.int k a) = .returned (.int k b) := by rw [h]

set_option maxHeartbeats 400000 in
theorem dig_d (c : Int) (h0 : 48 ≤ c) (h1 : c ≤ 57) (w : World) : Calls Try.prog 10 #[.int .u8 c] w fun e w' => e = .returned (.int .i32 (c - 48)) ∧ w' = w := by
  go_enter Try.func10, Try.ntmps10
  go_wp2
  go_ret
  exact ⟨rfl, rfl⟩
set_option maxHeartbeats 1000000 in
theorem dig_h (c o : Int) (ho : bits BinOp.or IntKind.u8 c 32 = o) (hd : c < 48 ∨ 57 < c) (h0 : 97 ≤ o) (h1 : o ≤ 102) (w : World) : Calls Try.prog 10 #[.int .u8 c] w fun e w' => e = .returned (.int .i32 (o - 97 + 10)) ∧ w' = w := by
  rcases hd with hd | hd
  · go_enter Try.func10, Try.ntmps10
    go_wp2
    go_ret
    exact ⟨ret_int (by omega), rfl⟩
  · have hd' : 48 ≤ c := by omega
    go_enter Try.func10, Try.ntmps10
    go_wp2
    go_ret
    exact ⟨ret_int (by omega), rfl⟩
set_option maxHeartbeats 1000000 in
theorem dig_n (c o : Int) (ho : bits BinOp.or IntKind.u8 c 32 = o) (hd : c < 48 ∨ 57 < c) (hx : o < 97 ∨ 102 < o) (w : World) : Calls Try.prog 10 #[.int .u8 c] w fun e w' => e = .returned (.int .i32 (-1)) ∧ w' = w := by
  rcases hd with hd | hd <;> rcases hx with hx | hx
  · go_enter Try.func10, Try.ntmps10
    go_wp2
    go_ret
    exact ⟨rfl, rfl⟩
  · have hx' : 97 ≤ o := by omega
    go_enter Try.func10, Try.ntmps10
    go_wp2
    go_ret
    exact ⟨rfl, rfl⟩
  · have hd' : 48 ≤ c := by omega
    go_enter Try.func10, Try.ntmps10
    go_wp2
    go_ret
    exact ⟨rfl, rfl⟩
  · have hd' : 48 ≤ c := by omega
    have hx' : 97 ≤ o := by omega
    go_enter Try.func10, Try.ntmps10
    go_wp2
    go_ret
    exact ⟨rfl, rfl⟩

/-- THE CONTRACT of digitValue. -/
theorem dig_any (c : Int) (h0 : 0 ≤ c) (h1 : c ≤ 255) (w : World) : Calls Try.prog 10 #[.int .u8 c] w fun e w' => e = .returned (.int .i32 (dval c)) ∧ w' = w := by
  by_cases hd : 48 ≤ c ∧ c ≤ 57
  · have e : dval c = c - 48 := by unfold dval; rw [if_pos hd]
    rw [e]; exact dig_d c hd.1 hd.2 w
  · by_cases hx : 97 ≤ or32 c ∧ or32 c ≤ 102
    · have e : dval c = or32 c - 97 + 10 := by unfold dval; rw [if_neg hd, if_pos hx]
      rw [e]; exact dig_h c (or32 c) rfl (by omega) hx.1 hx.2 w
    · have e : dval c = -1 := by unfold dval; rw [if_neg hd, if_neg hx]
      rw [e]; exact dig_n c (or32 c) rfl (by omega) (by omega) w
theorem zzdig_any (c : Int) (h0 : 0 ≤ c) (h1 : c ≤ 255) (w : World) : Calls Try.prog 8 #[.int .u8 c] w fun e w' => e = .returned (.int .i32 (dval c)) ∧ w' = w := by
  go_enter Try.func8, Try.ntmps8
  go_wp2_with (go_at_call 10; go_must (refine (dig_any c h0 h1 _).mono ?_; rintro e w' ⟨rfl, rfl⟩))
  go_ret
  exact ⟨rfl, rfl⟩

set_option maxHeartbeats 400000 in
theorem hex_neg (c : Int) (h0 : 0 ≤ c) (h1 : c ≤ 255) (hn : dval c < 0) (w : World) : Calls Try.prog 5 #[.int .u8 c] w fun e w' => e = .returned (.bool true) ∧ w' = w := by
  go_enter Try.func5, Try.ntmps5
  go_wp2_with (go_at_call 8; go_must (refine (zzdig_any c h0 h1 _).mono ?_; rintro e w' ⟨rfl, rfl⟩))
  go_ret
  exact ⟨rfl, rfl⟩
set_option maxHeartbeats 400000 in
theorem hex_pub (c : Int) (h0 : 0 ≤ c) (h1 : c ≤ 255) (hn : 0 ≤ dval c) (hp : pub c = true) (w : World) : Calls Try.prog 5 #[.int .u8 c] w fun e w' => e = .returned (.bool true) ∧ w' = w := by
  go_enter Try.func5, Try.ntmps5
  go_wp2_with (first
    | (go_at_call 8; go_must (refine (zzdig_any c h0 h1 _).mono ?_; rintro e w' ⟨rfl, rfl⟩))
    | (go_at_call 6; go_must (refine (zzpub_any c _ h0 h1).mono ?_; rintro e w' ⟨rfl, rfl⟩)))
  go_ret
  exact ⟨ret_bool (by simp), rfl⟩
theorem hex_walk (c : Int) (h0 : 0 ≤ c) (h1 : c ≤ 255) (w : World) : Calls Try.prog 5 #[.int .u8 c] w fun e w' => e = .returned (.bool true) ∧ w' = w := by
  by_cases hn : dval c < 0
  · exact hex_neg c h0 h1 hn w
  · exact hex_pub c h0 h1 (by omega) ((hex_is c h0 h1).2.2.resolve_left hn) w
end Go.Proofs.Qxb6606049a
