import Derived.Test.Qxb6605560aEnc
namespace Go.Proofs.Qxb6605560a
open Go.RowKit
set_option linter.unusedVariables false

theorem owns_cells {w : World} {B n : Nat} {v : Value} {l : List Int} (h : w.ownsRow B 5 1 v (n + 1) (ints8 l)) :
    ∃ g cap, v = .slice (some ⟨g, 0, none⟩) (n + 1) cap ∧ B ≤ g ∧ ∀ j, j < n + 1 → w.cell? ⟨g, j, none⟩ = some (.int .u8 (l.getD j 0)) := by
  rcases h.2 with ⟨_, hn⟩ | ⟨g, cap, cur, rfl, hB, hg, hnc, _, hcs, htake⟩
  · omega
  refine ⟨g, cap, rfl, hB, fun j hj => ?_⟩
  have hl : l.length = n + 1 := by simpa [ints8] using h.1
  rw [h.cellAt j (by omega)]
  simp [ints8, List.getElem?_map, List.getD_eq_getElem?_getD, List.getElem?_eq_getElem (show j < l.length by omega)]

set_option maxHeartbeats 400000 in
theorem dec_tt (a b t s : Int) (w : World) (ht0 : 1 ≤ t) (ht : t ≤ 255) (hs0 : 1 ≤ s) (hs : s ≤ 255) :
    Calls Try.prog 3 #[.int .u8 a, .int .u8 b, .int .u8 t, .int .u8 s] w fun e w' => e = .returned (.bool true) ∧ Below w.heap.size w w' := by
  have K : ∀ w0, Calls Try.prog 7 #[.agg #[.int .u8 a, .int .u8 b, .int .u8 t, .int .u8 s]] w0 fun e w' => ∃ g cap, e = .returned (.slice (some ⟨g, 0, none⟩) 8 cap) ∧
      w'.cell? ⟨g, 0, none⟩ = some (.int .u8 46) ∧ w'.cell? ⟨g, 1, none⟩ = some (.int .u8 a) ∧ w'.cell? ⟨g, 2, none⟩ = some (.int .u8 b) ∧ w'.cell? ⟨g, 3, none⟩ = some (.int .u8 193) ∧
      w'.cell? ⟨g, 4, none⟩ = some (.int .u8 255) ∧ w'.cell? ⟨g, 5, none⟩ = some (.int .u8 255) ∧ w'.cell? ⟨g, 6, none⟩ = some (.int .u8 (144 + t % 8)) ∧ w'.cell? ⟨g, 7, none⟩ = some (.int .u8 (160 + s % 8)) ∧ Below w0.heap.size w0 w' := by
    intro w0
    refine (enc_tt a b t s w0 ht0 ht hs0 hs).mono ?_
    rintro e w' ⟨v, rfl, own, bel⟩
    obtain ⟨g, cap, rfl, _, hc⟩ := owns_cells own
    exact ⟨g, cap, rfl, hc 0 (by decide), hc 1 (by decide), hc 2 (by decide), hc 3 (by decide), hc 4 (by decide), hc 5 (by decide), hc 6 (by decide), hc 7 (by decide), bel⟩
  have q1 : (t != 0) = true := by simp; omega
  have q2 : (s != 0) = true := by simp; omega
  go_enter Try.func3, Try.ntmps3
  go_wp2_with (go_at_call 7; refine (K _).mono ?_; rintro e w1 ⟨g, cap, rfl, c0, c1, c2, c3, c4, c5, c6, c7, bel⟩)
  refine wp_loop_rounds 3 ?_
  rw [rounds_succ]
  go_wp2
  rw [rounds_succ]
  go_wp2
  rw [rounds_succ]
  go_wp2
  go_ret
  exact ⟨rfl, ((Below.refl _ _).alloc (Nat.le_refl _) _).trans (bel.mono (by simp))⟩

set_option maxHeartbeats 400000 in
theorem dec_tf (a b t : Int) (w : World) (ht0 : 1 ≤ t) (ht : t ≤ 255) :
    Calls Try.prog 3 #[.int .u8 a, .int .u8 b, .int .u8 t, .int .u8 0] w fun e w' => e = .returned (.bool true) ∧ Below w.heap.size w w' := by
  have K : ∀ w0, Calls Try.prog 7 #[.agg #[.int .u8 a, .int .u8 b, .int .u8 t, .int .u8 0]] w0 fun e w' => ∃ g cap, e = .returned (.slice (some ⟨g, 0, none⟩) 7 cap) ∧
      w'.cell? ⟨g, 0, none⟩ = some (.int .u8 46) ∧ w'.cell? ⟨g, 1, none⟩ = some (.int .u8 a) ∧ w'.cell? ⟨g, 2, none⟩ = some (.int .u8 b) ∧ w'.cell? ⟨g, 3, none⟩ = some (.int .u8 193) ∧
      w'.cell? ⟨g, 4, none⟩ = some (.int .u8 255) ∧ w'.cell? ⟨g, 5, none⟩ = some (.int .u8 255) ∧ w'.cell? ⟨g, 6, none⟩ = some (.int .u8 (144 + t % 8)) ∧ Below w0.heap.size w0 w' := by
    intro w0
    refine (enc_tf a b t w0 ht0 ht).mono ?_
    rintro e w' ⟨v, rfl, own, bel⟩
    obtain ⟨g, cap, rfl, _, hc⟩ := owns_cells own
    exact ⟨g, cap, rfl, hc 0 (by decide), hc 1 (by decide), hc 2 (by decide), hc 3 (by decide), hc 4 (by decide), hc 5 (by decide), hc 6 (by decide), bel⟩
  have q1 : (t != 0) = true := by simp; omega
  go_enter Try.func3, Try.ntmps3
  go_wp2_with (go_at_call 7; refine (K _).mono ?_; rintro e w1 ⟨g, cap, rfl, c0, c1, c2, c3, c4, c5, c6, bel⟩)
  refine wp_loop_rounds 2 ?_
  rw [rounds_succ]
  go_wp2
  rw [rounds_succ]
  go_wp2
  go_ret
  exact ⟨rfl, ((Below.refl _ _).alloc (Nat.le_refl _) _).trans (bel.mono (by simp))⟩

set_option maxHeartbeats 400000 in
theorem dec_ft (a b s : Int) (w : World) (hs0 : 1 ≤ s) (hs : s ≤ 255) :
    Calls Try.prog 3 #[.int .u8 a, .int .u8 b, .int .u8 0, .int .u8 s] w fun e w' => e = .returned (.bool true) ∧ Below w.heap.size w w' := by
  have K : ∀ w0, Calls Try.prog 7 #[.agg #[.int .u8 a, .int .u8 b, .int .u8 0, .int .u8 s]] w0 fun e w' => ∃ g cap, e = .returned (.slice (some ⟨g, 0, none⟩) 7 cap) ∧
      w'.cell? ⟨g, 0, none⟩ = some (.int .u8 46) ∧ w'.cell? ⟨g, 1, none⟩ = some (.int .u8 a) ∧ w'.cell? ⟨g, 2, none⟩ = some (.int .u8 b) ∧ w'.cell? ⟨g, 3, none⟩ = some (.int .u8 193) ∧
      w'.cell? ⟨g, 4, none⟩ = some (.int .u8 255) ∧ w'.cell? ⟨g, 5, none⟩ = some (.int .u8 255) ∧ w'.cell? ⟨g, 6, none⟩ = some (.int .u8 (160 + s % 8)) ∧ Below w0.heap.size w0 w' := by
    intro w0
    refine (enc_ft a b s w0 hs0 hs).mono ?_
    rintro e w' ⟨v, rfl, own, bel⟩
    obtain ⟨g, cap, rfl, _, hc⟩ := owns_cells own
    exact ⟨g, cap, rfl, hc 0 (by decide), hc 1 (by decide), hc 2 (by decide), hc 3 (by decide), hc 4 (by decide), hc 5 (by decide), hc 6 (by decide), bel⟩
  have q2 : (s != 0) = true := by simp; omega
  go_enter Try.func3, Try.ntmps3
  go_wp2_with (go_at_call 7; refine (K _).mono ?_; rintro e w1 ⟨g, cap, rfl, c0, c1, c2, c3, c4, c5, c6, bel⟩)
  refine wp_loop_rounds 2 ?_
  rw [rounds_succ]
  go_wp2
  rw [rounds_succ]
  go_wp2
  go_ret
  exact ⟨rfl, ((Below.refl _ _).alloc (Nat.le_refl _) _).trans (bel.mono (by simp))⟩

set_option maxHeartbeats 400000 in
theorem dec_ff (a b : Int) (w : World) :
    Calls Try.prog 3 #[.int .u8 a, .int .u8 b, .int .u8 0, .int .u8 0] w fun e w' => e = .returned (.bool true) ∧ Below w.heap.size w w' := by
  have K : ∀ w0, Calls Try.prog 7 #[.agg #[.int .u8 a, .int .u8 b, .int .u8 0, .int .u8 0]] w0 fun e w' => ∃ g cap, e = .returned (.slice (some ⟨g, 0, none⟩) 6 cap) ∧
      w'.cell? ⟨g, 0, none⟩ = some (.int .u8 46) ∧ w'.cell? ⟨g, 1, none⟩ = some (.int .u8 a) ∧ w'.cell? ⟨g, 2, none⟩ = some (.int .u8 b) ∧ w'.cell? ⟨g, 3, none⟩ = some (.int .u8 193) ∧
      w'.cell? ⟨g, 4, none⟩ = some (.int .u8 255) ∧ w'.cell? ⟨g, 5, none⟩ = some (.int .u8 255) ∧ Below w0.heap.size w0 w' := by
    intro w0
    refine (enc_ff a b w0).mono ?_
    rintro e w' ⟨v, rfl, own, bel⟩
    obtain ⟨g, cap, rfl, _, hc⟩ := owns_cells own
    exact ⟨g, cap, rfl, hc 0 (by decide), hc 1 (by decide), hc 2 (by decide), hc 3 (by decide), hc 4 (by decide), hc 5 (by decide), bel⟩
  go_enter Try.func3, Try.ntmps3
  go_wp2_with (go_at_call 7; refine (K _).mono ?_; rintro e w1 ⟨g, cap, rfl, c0, c1, c2, c3, c4, c5, bel⟩)
  refine wp_loop_rounds 1 ?_
  rw [rounds_succ]
  go_wp2
  go_ret
  exact ⟨rfl, ((Below.refl _ _).alloc (Nat.le_refl _) _).trans (bel.mono (by simp))⟩

theorem dec_any (a b t s : Int) (w : World) (ht0 : 0 ≤ t) (ht : t ≤ 255) (hs0 : 0 ≤ s) (hs : s ≤ 255) :
    Calls Try.prog 3 #[.int .u8 a, .int .u8 b, .int .u8 t, .int .u8 s] w fun e w' => e = .returned (.bool true) ∧ Below w.heap.size w w' := by
  by_cases h1 : t = 0 <;> by_cases h2 : s = 0
  · subst h1; subst h2; exact dec_ff a b w
  · subst h1; exact dec_ft a b s w (by omega) hs
  · subst h2; exact dec_tf a b t w (by omega) ht
  · exact dec_tt a b t s w (by omega) ht (by omega) hs
end Go.Proofs.Qxb6605560a
