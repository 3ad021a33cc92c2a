import Derived.Test.Qxb6605560aEnc
import Derived.Deep.QuietTactic
import Derived.BigQuiet
namespace Go.Proofs.Qxb6605560a
open Go.RowKit
set_option linter.unusedVariables false

theorem take_step {l1 l2 : List Int} {k : Nat} (h1 : k < l1.length) (h2 : k < l2.length) (h : l1.take k = l2.take k) (e : l1[k]?.getD 0 = l2[k]?.getD 0) : l1.take (k + 1) = l2.take (k + 1) := by
  rw [List.take_succ_eq_append_getElem h1, List.take_succ_eq_append_getElem h2, h]
  simp [List.getElem?_eq_getElem h1, List.getElem?_eq_getElem h2] at e
  rw [e]
theorem differ {l1 l2 : List Int} {k : Nat} (e : ¬ l1[k]?.getD 0 = l2[k]?.getD 0) : decide (l1 = l2) = false := by
  simp only [decide_eq_false_iff_not]; rintro rfl; exact e rfl
theorem ret_bool {a b : Bool} (h : a = b) : Ending.returned (.bool a) = .returned (.bool b) := by rw [h]

set_option maxHeartbeats 400000 in
theorem same_len (a1 a2 : Option Addr) (n1 n2 c1 c2 : Nat) (hn : n1 ≠ n2) (w : World) :
    Calls Try.prog 8 #[.slice a1 n1 c1, .slice a2 n2 c2] w fun e w' => e = .returned (.bool false) ∧ w' = w := by
  have h : ((n1 : Int) != (n2 : Int)) = true := by simp; omega
  go_enter Try.func8, Try.ntmps8
  go_wp2
  go_ret
  exact ⟨rfl, rfl⟩

set_option maxHeartbeats 400000 in
theorem same_walk (g1 g2 n c1 c2 : Nat) (l1 l2 : List Int) (h1 : l1.length = n) (h2 : l2.length = n) (hn : n ≤ 1000) (w : World)
    (hc1 : ∀ j, j < n → w.cell? ⟨g1, j, none⟩ = some (.int .u8 (l1.getD j 0))) (hc2 : ∀ j, j < n → w.cell? ⟨g2, j, none⟩ = some (.int .u8 (l2.getD j 0))) :
    Calls Try.prog 8 #[.slice (some ⟨g1, 0, none⟩) n c1, .slice (some ⟨g2, 0, none⟩) n c2] w fun e w' => e = .returned (.bool (decide (l1 = l2))) ∧ ∃ q, w' = w.drewN q := by
  go_enter Try.func8, Try.ntmps8
  go_wp2
  go_loopw [5] (fun i wr => ∃ k : Nat, k ≤ n ∧ i = .int .i64 k ∧ l1.take k = l2.take k ∧ ∃ q, wr = w.drewN q) (fun i _ => n - (intOf i).toNat)
  case atStart => exact ⟨0, Nat.zero_le _, rfl, rfl, 0, rfl⟩
  case round =>
    obtain ⟨k, hk, rfl, htk, q, rfl⟩ := hrel
    have H : Hid (l1.take k = l2.take k) := htk
    clear htk
    by_cases hlt : k < n
    · have d1 := hc1 k hlt
      have d2 := hc2 k hlt
      have L : Hid (k < l1.length ∧ k < l2.length) := ⟨by omega, by omega⟩
      clear hc1 hc2 h1 h2
      go_wp2
      go_quiet (fail)
      go_wp2
      · go_ret
        have e : ¬ l1[k]?.getD 0 = l2[k]?.getD 0 := by simpa using ‹(l1[k]?.getD 0 != l2[k]?.getD 0) = true›
        exact ⟨ret_bool (differ e).symm, q + nq, by simp⟩
      · have e : l1[k]?.getD 0 = l2[k]?.getD 0 := by simpa using ‹(l1[k]?.getD 0 != l2[k]?.getD 0) = false›
        have T := take_step L.out.1 L.out.2 H.out e
        go_roundw
        case rel => exact ⟨k + 1, by omega, by go_num, T, _, rfl⟩
        case measure => simp [intOf]; omega
    · go_wp2
      go_ret
      have hkn : k = n := by omega
      have e : l1 = l2 := by
        have := H.out
        rwa [List.take_of_length_le (by omega), List.take_of_length_le (by omega)] at this
      exact ⟨ret_bool (by simp [e]), _, rfl⟩

/-- THE CONTRACT of zzSameBytes over two rows that lie at the heads of their blocks. -/
theorem same_any (g1 g2 n1 n2 c1 c2 : Nat) (l1 l2 : List Int) (h1 : l1.length = n1) (h2 : l2.length = n2) (hn : n1 ≤ 1000) (w : World)
    (hc1 : ∀ j, j < n1 → w.cell? ⟨g1, j, none⟩ = some (.int .u8 (l1.getD j 0))) (hc2 : ∀ j, j < n2 → w.cell? ⟨g2, j, none⟩ = some (.int .u8 (l2.getD j 0))) :
    Calls Try.prog 8 #[.slice (some ⟨g1, 0, none⟩) n1 c1, .slice (some ⟨g2, 0, none⟩) n2 c2] w fun e w' => e = .returned (.bool (decide (l1 = l2))) ∧ ∃ q, w' = w.drewN q := by
  by_cases hne : n1 = n2
  · subst hne; exact same_walk g1 g2 n1 c1 c2 l1 l2 h1 h2 hn w hc1 hc2
  · refine (same_len _ _ n1 n2 c1 c2 hne w).mono ?_
    rintro e w' ⟨rfl, rfl⟩
    refine ⟨ret_bool ?_, 0, rfl⟩
    symm
    simp only [decide_eq_false_iff_not]
    rintro rfl
    omega
end Go.Proofs.Qxb6605560a
