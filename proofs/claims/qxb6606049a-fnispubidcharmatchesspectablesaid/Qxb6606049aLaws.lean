import Derived.Test.Qxb6606049aPub
namespace Go.Proofs.Qxb6606049a
open Go.RowKit
set_option linter.unusedVariables false

/-! ### The count -/
def cnt (k : Nat) : Int := ((List.range k).filter (fun i : Nat => pub (i : Int))).length
theorem cnt_succ (k : Nat) : cnt (k + 1) = cnt k + if pub (k : Int) = true then 1 else 0 := by
  unfold cnt
  rw [List.range_succ, List.filter_append]
  by_cases h : pub (k : Int) = true <;> simp [h]
theorem cnt_bd (k : Nat) : 0 ≤ cnt k ∧ cnt k ≤ k := by
  unfold cnt
  have := List.length_filter_le (fun i : Nat => pub (i : Int)) (List.range k)
  simp at this
  exact ⟨by omega, by omega⟩
theorem cnt_all : cnt 256 = 84 := by decide +kernel

set_option maxHeartbeats 400000 in
theorem count_walk (w : World) : Calls Try.prog 4 #[] w fun e w' => e = .returned (.bool true) ∧ w' = w := by
  go_enter Try.func4, Try.ntmps4
  go_wp2
  go_loop [1, 2] (fun n c => ∃ k : Nat, k ≤ 256 ∧ c = .int .i64 k ∧ n = .int .i64 (cnt k)) (fun _ c => 256 - (intOf c).toNat)
  case atStart => exact ⟨0, Nat.zero_le _, rfl, rfl⟩
  case round =>
    obtain ⟨k, hk, rfl, rfl⟩ := hrel
    obtain ⟨hb1, hb2⟩ := cnt_bd k
    by_cases hlt : k < 256
    · have HS : Hid (cnt (k + 1) = cnt k + if pub (k : Int) = true then 1 else 0) := cnt_succ k
      have hlt' : (k : Int) < 256 := by omega
      cases hp : pub (k : Int) with
      | true =>
        go_wp2_with (go_at_call 6; go_must (refine (zzpub_any _ _ (by omega) (by omega)).mono ?_; rintro e w' ⟨rfl, rfl⟩))
        go_round
        case rel => exact ⟨k + 1, by omega, by go_num, by rw [HS.out, if_pos hp]⟩
        case measure => simp [intOf]; omega
      | false =>
        go_wp2_with (go_at_call 6; go_must (refine (zzpub_any _ _ (by omega) (by omega)).mono ?_; rintro e w' ⟨rfl, rfl⟩))
        go_round
        case rel => exact ⟨k + 1, by omega, by go_num, by rw [HS.out, if_neg (by simp [hp])]; simp⟩
        case measure => simp [intOf]; omega
    · obtain rfl : k = 256 := by omega
      have e := cnt_all
      go_wp2
      go_ret
      exact ⟨rfl, rfl⟩

/-! ### zzInSet -/
def inS (s : ByteArray) (c : Int) : Bool := s.data.toList.any (fun x => decide ((x.toNat : Int) = c))
theorem in_miss {s : ByteArray} {c : Int} (h : ∀ j (hj : j < s.size), ¬ ((s[j].toNat : Int) = c)) : inS s c = false := by
  unfold inS
  rw [List.any_eq_false]
  intro x hx
  obtain ⟨j, hj, rfl⟩ := List.mem_iff_getElem.1 hx
  have hj' : j < s.size := by simpa using hj
  have := h j hj'
  rw [decide_eq_true_eq]
  exact this
theorem in_hit {s : ByteArray} {c : Int} {j : Nat} (hj : j < s.size) (h : (s[j].toNat : Int) = c) : inS s c = true := by
  unfold inS
  rw [List.any_eq_true]
  exact ⟨s[j], List.mem_iff_getElem.2 ⟨j, by simpa using hj, rfl⟩, by simpa using h⟩

set_option maxHeartbeats 400000 in
theorem inset_any (s : ByteArray) (c : Int) (hs : s.size ≤ 1000) (w : World) :
    Calls Try.prog 7 #[.string s, .int .u8 c] w fun e w' => e = .returned (.bool (inS s c)) ∧ w' = w := by
  go_enter Try.func7, Try.ntmps7
  go_wp2
  go_loop [5] (fun i => ∃ k : Nat, k ≤ s.size ∧ i = .int .i64 k ∧ ∀ j (hj : j < s.size), j < k → ¬ ((s[j].toNat : Int) = c)) (fun i => s.size - (intOf i).toNat)
  case atStart => exact ⟨0, Nat.zero_le _, rfl, fun j hj h => by omega⟩
  case round =>
    obtain ⟨k, hk, rfl, hm⟩ := hrel
    have H : Hid (∀ j (hj : j < s.size), j < k → ¬ ((s[j].toNat : Int) = c)) := hm
    clear hm
    by_cases hlt : k < s.size
    · go_wp2
      · have e : (s[k].toNat : Int) = c := by simpa using ‹((s[k].toNat : Int) == c) = true›
        go_ret
        exact ⟨ret_bool (in_hit hlt e).symm, rfl⟩
      · have e : ¬ (s[k].toNat : Int) = c := by simpa using ‹((s[k].toNat : Int) == c) = false›
        have T : ∀ j (hj : j < s.size), j < k + 1 → ¬ ((s[j].toNat : Int) = c) := by
          intro j hj hjk
          by_cases hjk' : j = k
          · subst hjk'; exact e
          · exact H.out j hj (by omega)
        go_round
        case rel => exact ⟨k + 1, by omega, by go_num, T⟩
        case measure => simp [intOf]; omega
    · go_wp2
      go_ret
      exact ⟨ret_bool (in_miss (fun j hj => H.out j hj (by omega))).symm, rfl⟩

/-! ### The table -/
def table : ByteArray := ⟨#[97, 98, 99, 100, 101, 102, 103, 104, 105, 106, 107, 108, 109, 110, 111, 112, 113, 114, 115, 116, 117, 118, 119, 120, 121, 122, 65, 66, 67, 68, 69, 70, 71, 72, 73, 74, 75, 76, 77, 78, 79, 80, 81, 82, 83, 84, 85, 86, 87, 88, 89, 90, 48, 49, 50, 51, 52, 53, 54, 55, 56, 57, 32, 13, 10, 45, 39, 40, 41, 43, 44, 46, 47, 58, 61, 63, 59, 33, 42, 35, 64, 36, 95, 37]⟩
theorem table_all : ∀ c : Fin 256, inS table (c.val : Int) = pub (c.val : Int) := by decide +kernel
theorem table_is (c : Int) (h0 : 0 ≤ c) (h1 : c ≤ 255) : inS table c = pub c := by
  have := table_all ⟨c.toNat, by omega⟩
  simpa [Int.toNat_of_nonneg h0] using this

set_option maxHeartbeats 400000 in
theorem table_walk (c : Int) (h0 : 0 ≤ c) (h1 : c ≤ 255) (w : World) : Calls Try.prog 3 #[.int .u8 c] w fun e w' => e = .returned (.bool true) ∧ w' = w := by
  have T : Hid (inS table c = pub c) := table_is c h0 h1
  go_enter Try.func3, Try.ntmps3
  go_wp2_with (first
    | (go_at_call 6; go_must (refine (zzpub_any c _ h0 h1).mono ?_; rintro e w' ⟨rfl, rfl⟩))
    | (go_at_call 7; go_must (refine (inset_any table c (by decide) _).mono ?_; rintro e w' ⟨rfl, rfl⟩)))
  go_ret
  exact ⟨ret_bool (by simp [T.out]), rfl⟩

/-! ### digitValue -/
def or32 (c : Int) : Int := bits BinOp.or IntKind.u8 c 32
def dval (c : Int) : Int := if 48 ≤ c ∧ c ≤ 57 then c - 48 else if 97 ≤ or32 c ∧ or32 c ≤ 102 then or32 c - 97 + 10 else -1
theorem hex_all : ∀ c : Fin 256, 0 ≤ or32 (c.val : Int) ∧ or32 (c.val : Int) ≤ 255 ∧ (dval (c.val : Int) < 0 ∨ pub (c.val : Int) = true) := by decide +kernel
theorem hex_is (c : Int) (h0 : 0 ≤ c) (h1 : c ≤ 255) : 0 ≤ or32 c ∧ or32 c ≤ 255 ∧ (dval c < 0 ∨ pub c = true) := by
  have := hex_all ⟨c.toNat, by omega⟩
  simpa [Int.toNat_of_nonneg h0] using this
end Go.Proofs.Qxb6606049a
