import Derived.Test.Qxb6606049aRows
import Derived.WalkKit
import Derived.WalkSpells
import Derived.ProofKit
import Derived.OpenShut
import Derived.Outline
import Derived.Deep.Light
namespace Go.Proofs.Qxb6606049a
open Go.RowKit
set_option linter.unusedVariables false
set_option linter.unusedSimpArgs false

/-- Is c a PubidChar, as isPubidChar has it? -/
def pub (c : Int) : Bool := decide ((97 ≤ c ∧ c ≤ 122) ∨ (65 ≤ c ∧ c ≤ 90) ∨ (48 ≤ c ∧ c ≤ 57) ∨ c = 32 ∨ c = 13 ∨ c = 10 ∨ c = 45 ∨ c = 39 ∨ c = 40 ∨ c = 41 ∨ c = 43 ∨ c = 44 ∨ c = 46 ∨ c = 47 ∨ c = 58 ∨ c = 61 ∨ c = 63 ∨ c = 59 ∨ c = 33 ∨ c = 42 ∨ c = 35 ∨ c = 64 ∨ c = 36 ∨ c = 95 ∨ c = 37)
theorem ret_bool {a b : Bool} (h : a = b) : Ending.returned (.bool a) = .returned (.bool b) := by rw [h]

set_option maxHeartbeats 400000 in
theorem pub_low (c : Int) (w : World) (h1 : 97 ≤ c) (h2 : c ≤ 122) :
    Calls Try.prog 9 #[.int .u8 c] w fun e w' => e = .returned (.bool (pub c)) ∧ w' = w := by
  have hp : pub c = true := by unfold pub; simp only [decide_eq_true_eq]; omega
  have H : Hid (pub c = true) := hp
  clear hp
  go_enter Try.func9, Try.ntmps9
  go_wp2
  go_ret
  exact ⟨ret_bool H.out.symm, rfl⟩
set_option maxHeartbeats 400000 in
theorem pub_up (c : Int) (w : World) (h1 : 65 ≤ c) (h2 : c ≤ 90) :
    Calls Try.prog 9 #[.int .u8 c] w fun e w' => e = .returned (.bool (pub c)) ∧ w' = w := by
  have hp : pub c = true := by unfold pub; simp only [decide_eq_true_eq]; omega
  have H : Hid (pub c = true) := hp
  clear hp
  go_enter Try.func9, Try.ntmps9
  go_wp2
  go_ret
  exact ⟨ret_bool H.out.symm, rfl⟩
set_option maxHeartbeats 400000 in
theorem pub_dig (c : Int) (w : World) (h1 : 48 ≤ c) (h2 : c ≤ 57) :
    Calls Try.prog 9 #[.int .u8 c] w fun e w' => e = .returned (.bool (pub c)) ∧ w' = w := by
  have hp : pub c = true := by unfold pub; simp only [decide_eq_true_eq]; omega
  have H : Hid (pub c = true) := hp
  clear hp
  go_enter Try.func9, Try.ntmps9
  go_wp2
  go_ret
  exact ⟨ret_bool H.out.symm, rfl⟩
set_option maxHeartbeats 1000000 in
theorem pub_a (c : Int) (w : World) (h0 : 0 ≤ c) (h1 : c < 48) :
    Calls Try.prog 9 #[.int .u8 c] w fun e w' => e = .returned (.bool (pub c)) ∧ w' = w := by
  go_enter Try.func9, Try.ntmps9
  go_wp2
  all_goals
    go_ret
    refine ⟨ret_bool ?_, rfl⟩
    go_light
    simp only [beq_iff_eq, beq_eq_false_iff_ne, ne_eq] at *
    unfold pub
    symm
    first
    | (simp only [decide_eq_true_eq]; omega)
    | (simp only [decide_eq_false_iff_not]; omega)
set_option maxHeartbeats 1000000 in
theorem pub_b (c : Int) (w : World) (h0 : 57 < c) (h1 : c < 65) :
    Calls Try.prog 9 #[.int .u8 c] w fun e w' => e = .returned (.bool (pub c)) ∧ w' = w := by
  go_enter Try.func9, Try.ntmps9
  go_wp2
  all_goals
    go_ret
    refine ⟨ret_bool ?_, rfl⟩
    go_light
    simp only [beq_iff_eq, beq_eq_false_iff_ne, ne_eq] at *
    unfold pub
    symm
    first
    | (simp only [decide_eq_true_eq]; omega)
    | (simp only [decide_eq_false_iff_not]; omega)
set_option maxHeartbeats 1000000 in
theorem pub_c (c : Int) (w : World) (h0 : 90 < c) (h1 : c < 97) :
    Calls Try.prog 9 #[.int .u8 c] w fun e w' => e = .returned (.bool (pub c)) ∧ w' = w := by
  go_enter Try.func9, Try.ntmps9
  go_wp2
  all_goals
    go_ret
    refine ⟨ret_bool ?_, rfl⟩
    go_light
    simp only [beq_iff_eq, beq_eq_false_iff_ne, ne_eq] at *
    unfold pub
    symm
    first
    | (simp only [decide_eq_true_eq]; omega)
    | (simp only [decide_eq_false_iff_not]; omega)
set_option maxHeartbeats 1000000 in
theorem pub_d (c : Int) (w : World) (h0 : 122 < c) (h1 : c ≤ 255) :
    Calls Try.prog 9 #[.int .u8 c] w fun e w' => e = .returned (.bool (pub c)) ∧ w' = w := by
  go_enter Try.func9, Try.ntmps9
  go_wp2
  all_goals
    go_ret
    refine ⟨ret_bool ?_, rfl⟩
    go_light
    simp only [beq_iff_eq, beq_eq_false_iff_ne, ne_eq] at *
    unfold pub
    symm
    first
    | (simp only [decide_eq_true_eq]; omega)
    | (simp only [decide_eq_false_iff_not]; omega)
/-- THE CONTRACT of isPubidChar. -/
theorem pub_any (c : Int) (w : World) (h0 : 0 ≤ c) (h1 : c ≤ 255) :
    Calls Try.prog 9 #[.int .u8 c] w fun e w' => e = .returned (.bool (pub c)) ∧ w' = w := by
  by_cases g1 : c < 48
  · exact pub_a c w h0 g1
  by_cases g2 : c ≤ 57
  · exact pub_dig c w (by omega) g2
  by_cases g3 : c < 65
  · exact pub_b c w (by omega) g3
  by_cases g4 : c ≤ 90
  · exact pub_up c w (by omega) g4
  by_cases g5 : c < 97
  · exact pub_c c w (by omega) g5
  by_cases g6 : c ≤ 122
  · exact pub_low c w (by omega) g6
  · exact pub_d c w (by omega) h1
/-- THE CONTRACT of ZZIsPubidChar. -/
theorem zzpub_any (c : Int) (w : World) (h0 : 0 ≤ c) (h1 : c ≤ 255) :
    Calls Try.prog 6 #[.int .u8 c] w fun e w' => e = .returned (.bool (pub c)) ∧ w' = w := by
  go_enter Try.func6, Try.ntmps6
  go_wp2_with (go_at_call 9; go_must (refine (pub_any c _ h0 h1).mono ?_; rintro e w' ⟨rfl, rfl⟩))
  go_ret
  exact ⟨rfl, rfl⟩
end Go.Proofs.Qxb6606049a
