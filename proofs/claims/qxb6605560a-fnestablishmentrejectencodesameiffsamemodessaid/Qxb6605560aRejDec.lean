import Derived.Test.Qxb6605560aRejEnc
namespace Go.Proofs.Qxb6605560a
open Go.RowKit
set_option linter.unusedVariables false

theorem rejL_len (i p c : Int) (l : List Int) : 5 ≤ (rejL i p c l).length ∧ (rejL i p c l).length ≤ 6 := by unfold rejL; split <;> simp

/-- THE CONTRACT of EstablishmentReject.Encode. -/
theorem rej_any (i p c : Int) (ad : Option Addr) (n cap : Nat) (l : List Int) (hn : n ≤ 65536) (w : World) (h : SRow w ad n l) :
    Calls Try.prog 11 #[.agg #[.int .u8 i, .int .u8 p, .int .u8 c, .slice ad n cap]] w fun e w' => ∃ v, e = .returned v ∧ Owns w' w.heap.size v (rejL i p c l) ∧ Below w.heap.size w w' := by
  obtain ⟨h1, h2, h3⟩ := h
  unfold Owns
  by_cases hz : n = 0
  · subst hz
    obtain rfl : l = [] := List.length_eq_zero_iff.1 h1
    exact rej_zero i p c ad cap w
  · rcases h3 with h3 | ⟨b, off, rfl, hlt, hc⟩
    · exact absurd h3 hz
    have e : rejL i p c l = [46, i, p, 195, c, 240 + mask l] := by
      have : l ≠ [] := fun e => by subst e; exact hz (by simpa using h1.symm)
      simp [rejL, this]
    rw [e]
    exact rej_pos i p c b off n cap l h1 (by omega) hn h2 w hlt hc

set_option maxHeartbeats 400000 in
theorem by9 (i p c : Int) (ad : Option Addr) (n cap : Nat) (w : World) (hn : n ≤ 1048576) :
    Calls Try.prog 9 #[.int .u8 i, .int .u8 p, .int .u8 c, .slice ad n cap] w fun e w' => e = .returned (.bool true) ∧ w' = w := by
  go_enter Try.func9, Try.ntmps9
  go_wp2
  go_ret
  exact ⟨rfl, rfl⟩
set_option maxHeartbeats 400000 in
theorem by9n (i p c : Int) (ad : Option Addr) (n cap : Nat) (w : World) (hn : 1048576 < n) :
    Calls Try.prog 9 #[.int .u8 i, .int .u8 p, .int .u8 c, .slice ad n cap] w fun e w' => e = .returned (.bool false) ∧ w' = w := by
  go_enter Try.func9, Try.ntmps9
  go_wp2
  go_ret
  exact ⟨rfl, rfl⟩

set_option maxHeartbeats 400000 in
theorem rd_far (i p c : Int) (ad : Option Addr) (n cap : Nat) (w : World) (hn : 1048576 < n) :
    Calls Try.prog 5 #[.int .u8 i, .int .u8 p, .int .u8 c, .slice ad n cap] w fun e w' => e = .returned (.bool true) ∧ Below w.heap.size w w' := by
  go_enter Try.func5, Try.ntmps5
  go_wp2_with (go_at_call 9; refine (by9n i p c ad n cap _ hn).mono ?_; rintro e w' ⟨rfl, rfl⟩)
  go_ret
  exact ⟨rfl, Below.refl _ _⟩
set_option maxHeartbeats 400000 in
theorem rd_long (i p c : Int) (ad : Option Addr) (n cap : Nat) (w : World) (hn : n ≤ 1048576) (hn' : 65536 < n) :
    Calls Try.prog 5 #[.int .u8 i, .int .u8 p, .int .u8 c, .slice ad n cap] w fun e w' => e = .returned (.bool true) ∧ Below w.heap.size w w' := by
  go_enter Try.func5, Try.ntmps5
  go_wp2_with (go_at_call 9; refine (by9 i p c ad n cap _ hn).mono ?_; rintro e w' ⟨rfl, rfl⟩)
  go_ret
  exact ⟨rfl, Below.refl _ _⟩

/-- A struct of the call's own laid between two calls that leave what was there. -/
theorem bel_mid {w w1 w2 : World} {o : Obj} (b1 : Below w.heap.size w w1) (b2 : Below (w1.alloc o).heap.size (w1.alloc o) w2) : Below w.heap.size w w2 :=
  (b1.alloc b1.size o).trans (b2.mono (by have := b1.size; simp; omega))

/-- What the walk is told of Encode: five or six octets at the head of a new block. -/
def RejK5 (i p c : Int) (l : List Int) : Prop := ∀ ad1 c1 w0, SRow w0 ad1 0 l → Calls Try.prog 11 #[.agg #[.int .u8 i, .int .u8 p, .int .u8 c, .slice ad1 0 c1]] w0 fun e w' => ∃ g cap, e = .returned (.slice (some ⟨g, 0, none⟩) 5 cap) ∧
  w'.cell? ⟨g, 0, none⟩ = some (.int .u8 46) ∧ w'.cell? ⟨g, 1, none⟩ = some (.int .u8 i) ∧ w'.cell? ⟨g, 2, none⟩ = some (.int .u8 p) ∧ w'.cell? ⟨g, 3, none⟩ = some (.int .u8 195) ∧ w'.cell? ⟨g, 4, none⟩ = some (.int .u8 c) ∧ Below w0.heap.size w0 w'
def RejK6 (i p c : Int) (n : Nat) (l : List Int) (ie : Int) : Prop := ∀ ad1 c1 w0, SRow w0 ad1 n l → Calls Try.prog 11 #[.agg #[.int .u8 i, .int .u8 p, .int .u8 c, .slice ad1 n c1]] w0 fun e w' => ∃ g cap, e = .returned (.slice (some ⟨g, 0, none⟩) 6 cap) ∧
  w'.cell? ⟨g, 0, none⟩ = some (.int .u8 46) ∧ w'.cell? ⟨g, 1, none⟩ = some (.int .u8 i) ∧ w'.cell? ⟨g, 2, none⟩ = some (.int .u8 p) ∧ w'.cell? ⟨g, 3, none⟩ = some (.int .u8 195) ∧ w'.cell? ⟨g, 4, none⟩ = some (.int .u8 c) ∧ w'.cell? ⟨g, 5, none⟩ = some (.int .u8 ie) ∧ Below w0.heap.size w0 w'

theorem owns_cells {w : World} {B n : Nat} {v : Value} {l : List Int} (h : w.ownsRow B 5 1 v (n + 1) (ints8 l)) :
    ∃ g cap, v = .slice (some ⟨g, 0, none⟩) (n + 1) cap ∧ ∀ j, j < n + 1 → w.cell? ⟨g, j, none⟩ = some (.int .u8 (l.getD j 0)) := by
  rcases h.2 with ⟨_, hn⟩ | ⟨g, cap, cur, rfl, hB, hg, hnc, _, hcs, htake⟩
  · omega
  refine ⟨g, cap, rfl, fun j hj => ?_⟩
  have hl : l.length = n + 1 := by simpa [ints8] using h.1
  rw [h.cellAt j (by omega)]
  simp [ints8, List.getElem?_map, List.getD_eq_getElem?_getD, List.getElem?_eq_getElem (show j < l.length by omega)]

theorem rejK5 (i p c : Int) (l : List Int) : RejK5 i p c l := by
  intro ad1 c1 w0 h
  refine (rej_zero i p c ad1 c1 w0).mono ?_
  rintro e w' ⟨v, rfl, own, bel⟩
  obtain ⟨g, cap, rfl, hc⟩ := owns_cells own
  exact ⟨g, cap, rfl, hc 0 (by decide), hc 1 (by decide), hc 2 (by decide), hc 3 (by decide), hc 4 (by decide), bel⟩
theorem rejK6 (i p c : Int) (n : Nat) (l : List Int) (hn0 : 0 < n) (hn : n ≤ 65536) : RejK6 i p c n l (240 + mask l) := by
  intro ad1 c1 w0 h
  obtain ⟨h1, h2, h3⟩ := h
  rcases h3 with h3 | ⟨b, off, rfl, hlt, hcl⟩
  · omega
  refine (rej_pos i p c b off n c1 l h1 hn0 hn h2 w0 hlt hcl).mono ?_
  rintro e w' ⟨v, rfl, own, bel⟩
  obtain ⟨g, cap, rfl, hc⟩ := owns_cells own
  exact ⟨g, cap, rfl, hc 0 (by decide), hc 1 (by decide), hc 2 (by decide), hc 3 (by decide), hc 4 (by decide), hc 5 (by decide), bel⟩

set_option maxHeartbeats 400000 in
theorem rd_zero (i p c : Int) (ad : Option Addr) (cap : Nat) (l : List Int) (w : World) (hrow : SRow w ad 0 l) (K : RejK5 i p c l) :
    Calls Try.prog 5 #[.int .u8 i, .int .u8 p, .int .u8 c, .slice ad 0 cap] w fun e w' => e = .returned (.bool true) ∧ Below w.heap.size w w' := by
  go_enter Try.func5, Try.ntmps5
  go_wp2_with (first
    | (go_at_call 9; go_must (refine (by9 i p c ad 0 cap _ (by decide)).mono ?_; rintro e w' ⟨rfl, rfl⟩))
    | (go_at_call 10; go_must (refine (modes_any ad 0 cap l (by decide) _ (fun _ => rfl) hrow).mono ?_; rintro e w1 ⟨ad1, c1, rfl, r1, b1⟩))
    | (go_at_call 11; go_must (refine (K ad1 c1 _ (r1.below ((Below.refl _ _).alloc (Nat.le_refl _) _) (Nat.le_refl _))).mono ?_; rintro e w2 ⟨g, cap2, rfl, c0, c1, c2, c3, c4, b2⟩)))
  go_ret
  exact ⟨rfl, bel_mid b1 b2⟩
end Go.Proofs.Qxb6605560a
