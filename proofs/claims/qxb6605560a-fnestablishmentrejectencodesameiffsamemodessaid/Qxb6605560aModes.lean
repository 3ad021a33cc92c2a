import Derived.Test.Qxb6605560aRej
namespace Go.Proofs.Qxb6605560a
open Go.RowKit
set_option linter.unusedVariables false

theorem info23 : (Try.prog.info? 23).map (fun i => (i.zero, i.size, i.bytes)) = some (some (.int .u8 0), 1, 1) := by kernel_rfl

set_option maxHeartbeats 400000 in
theorem modes_nil (n c : Nat) (w : World) :
    Calls Try.prog 10 #[.slice none n c] w fun e w' => e = .returned (.slice none 0 0) ∧ w' = w := by
  have hq := fun w => Lib.run_eql_slice_nil (P := Try.prog) w 26 5 none n c 0 0 Try.underlying26
  go_enter Try.func10, Try.ntmps10
  go_wp2
  go_ret
  exact ⟨rfl, rfl⟩

theorem row_all {xs : List Value} {l : List Int} {n : Nat} (h1 : xs.length = n * 1) (h2 : l.length = n) (h : ∀ j, j < n → xs[j]? = some (.int .u8 (l.getD j 0))) : xs = ints8 l := by
  apply List.ext_getElem?
  intro j
  by_cases hj : j < n
  · rw [h j hj]
    simp [ints8, List.getElem?_map, List.getD_eq_getElem?_getD, List.getElem?_eq_getElem (show j < l.length by omega)]
  · rw [List.getElem?_eq_none (by omega), List.getElem?_eq_none (by simp [ints8]; omega)]

set_option maxHeartbeats 400000 in
theorem modes_zero (x : Addr) (c : Nat) (w : World) :
    Calls Try.prog 10 #[.slice (some x) 0 c] w fun e w' => e = .returned (.slice (some ⟨w.heap.size, 0, none⟩) 0 0) ∧ Below w.heap.size w w' := by
  obtain ⟨i0, hi, hz0, hz1, hz2⟩ := info_parts info23
  have hq := fun w => Lib.run_eql_slice_nil (P := Try.prog) w 26 5 (some x) 0 c 0 0 Try.underlying26
  go_enter Try.func10, Try.ntmps10
  go_wp2_with (at_make; go_must (refine wpList_make_full _ rfl (.tmp 8) (.tmp 8) 34 rfl w.heap.size 23 i0 (.int .u8 0) 1 Try.underlying34 hi hz0 hz1 .i64 .i64 _ _ 0 rfl rfl rfl rfl (by rw [hz2]; omega) (by unfold maxLen; omega) (Nat.le_refl _) ?_; intro w1 own1 g1))
  refine wp_loop_rounds 1 ?_
  rw [rounds_succ]
  go_wp2
  go_ret
  exact ⟨rfl, (Below.refl _ _).grown g1 (Nat.le_refl _) (fun k hk => by cases hk)⟩

theorem stored_row {w : World} {B g n cap k : Nat} {xs : List Value} {l : List Int} (h : w.ownsRow B 23 1 (.slice (some ⟨g, 0, none⟩) n cap) n xs) (hk : k < n)
    (hx : ∀ j, j < k → xs[j]? = some (.int .u8 (l.getD j 0))) :
    ∃ ys, (w.setCell ⟨g, k, none⟩ (.int .u8 (l.getD k 0))).ownsRow B 23 1 (.slice (some ⟨g, 0, none⟩) n cap) n ys ∧ ∀ j, j < k + 1 → ys[j]? = some (.int .u8 (l.getD j 0)) := by
  have hs := (h.stored k (.int .u8 (l.getD k 0))).1
  refine ⟨_, hs, fun j hj => ?_⟩
  have hlen : xs.length = n * 1 := h.1
  rw [List.getElem?_set]
  by_cases e : k = j
  · subst e; rw [if_pos rfl, if_pos (by omega)]
  · rw [if_neg e]; exact hx j (by omega)

set_option maxHeartbeats 400000 in
theorem modes_pos (b off n c : Nat) (l : List Int) (hn : n ≤ 65536) (w : World) (hl : l.length = n) (hb : b < w.heap.size)
    (hc : ∀ j, j < n → w.cell? ⟨b, off + j, none⟩ = some (.int .u8 (l.getD j 0))) :
    Calls Try.prog 10 #[.slice (some ⟨b, off, none⟩) n c] w fun e w' => e = .returned (.slice (some ⟨w.heap.size, 0, none⟩) n n) ∧ w'.ownsRow w.heap.size 23 1 (.slice (some ⟨w.heap.size, 0, none⟩) n n) n (ints8 l) ∧ Below w.heap.size w w' := by
  obtain ⟨i0, hi, hz0, hz1, hz2⟩ := info_parts info23
  have hq := fun w => Lib.run_eql_slice_nil (P := Try.prog) w 26 5 (some ⟨b, off, none⟩) n c 0 0 Try.underlying26
  go_enter Try.func10, Try.ntmps10
  go_wp2_with (at_make; go_must (refine wpList_make_full _ rfl (.tmp 8) (.tmp 8) 34 rfl w.heap.size 23 i0 (.int .u8 0) 1 Try.underlying34 hi hz0 hz1 .i64 .i64 _ _ n rfl rfl rfl rfl (by rw [hz2]; omega) (by unfold maxLen; omega) (Nat.le_refl _) ?_; intro w1 own1 g1))
  go_loopw [4] (fun i wr => ∃ (k : Nat) (xs : List Value), k ≤ n ∧ i = .int .i64 k ∧ wr.ownsRow w.heap.size 23 1 (.slice (some ⟨w.heap.size, 0, none⟩) n n) n xs ∧ (∀ j, j < k → xs[j]? = some (.int .u8 (l.getD j 0))) ∧ Below w.heap.size w wr) (fun i _ => n - (intOf i).toNat)
  case atStart => exact ⟨0, _, Nat.zero_le _, rfl, own1, fun j hj => by omega, (Below.refl _ _).grown g1 (Nat.le_refl _) (fun k hk => by cases hk)⟩
  case round =>
    obtain ⟨k, xs, hk, rfl, own, hxs, bel⟩ := hrel
    by_cases hlt : k < n
    · have d : wr.cell? ⟨b, off + k, none⟩ = some (.int .u8 (l.getD k 0)) := (bel.cell (p := ⟨b, off + k, none⟩) hb).trans (hc k hlt)
      obtain ⟨u, hu⟩ : ∃ u, wr.cell? ⟨w.heap.size, k, none⟩ = some u := by
        have h1 : xs.length = n * 1 := own.1
        rw [own.cellAt k (by omega)]
        exact ⟨_, List.getElem?_eq_getElem (by omega)⟩
      have hf := own.frozenAt k
      obtain ⟨ys, own', hys⟩ := stored_row own hlt hxs
      have bel' := bel.setCell (p := ⟨w.heap.size, k, none⟩) (Nat.le_refl _) (.int .u8 (l.getD k 0))
      have R : Hid ((wr.setCell ⟨w.heap.size, k, none⟩ (.int .u8 (l.getD k 0))).ownsRow w.heap.size 23 1 (.slice (some ⟨w.heap.size, 0, none⟩) n n) n ys ∧ (∀ j, j < k + 1 → ys[j]? = some (.int .u8 (l.getD j 0))) ∧ Below w.heap.size w (wr.setCell ⟨w.heap.size, k, none⟩ (.int .u8 (l.getD k 0)))) := ⟨own', hys, bel'⟩
      clear own' hys bel' own hxs hc own1 g1
      obtain ⟨y, hy⟩ : ∃ y, l.getD k 0 = y := ⟨_, rfl⟩
      rw [hy] at d R
      clear hy
      go_wp2
      go_roundw
      case rel => exact ⟨k + 1, ys, by omega, by go_num, R.out⟩
      case measure => simp [intOf]; omega
    · have hkn : n = k := by omega
      go_wp2
      go_ret
      have e : xs = ints8 l := row_all own.1 hl (fun j hj => hxs j (by omega))
      subst e
      exact ⟨rfl, own, bel⟩

/-- THE CONTRACT of zzModes. -/
theorem modes_any (ad : Option Addr) (n c : Nat) (l : List Int) (hn : n ≤ 65536) (w : World) (h0 : ad = none → n = 0) (h : SRow w ad n l) :
    Calls Try.prog 10 #[.slice ad n c] w fun e w' => ∃ ad' c', e = .returned (.slice ad' n c') ∧ SRow w' ad' n l ∧ Below w.heap.size w w' := by
  obtain ⟨h1, h2, h3⟩ := h
  cases ad with
  | none =>
    have hn0 := h0 rfl
    subst hn0
    refine (modes_nil 0 c w).mono ?_
    rintro e w' ⟨rfl, rfl⟩
    exact ⟨none, 0, rfl, ⟨h1, h2, .inl rfl⟩, Below.refl _ _⟩
  | some x =>
    rcases h3 with rfl | ⟨b, off, e, hlt, hc⟩
    · refine (modes_zero x c w).mono ?_
      rintro e w' ⟨rfl, bel⟩
      exact ⟨_, 0, rfl, ⟨h1, h2, .inl rfl⟩, bel⟩
    · obtain rfl : x = ⟨b, off, none⟩ := by simpa using e
      refine (modes_pos b off n c l hn w h1 hlt hc).mono ?_
      rintro e w' ⟨rfl, own, bel⟩
      refine ⟨_, n, rfl, ⟨h1, h2, .inr ⟨w.heap.size, 0, rfl, (own.lt _ rfl).2, fun j hj => ?_⟩⟩, bel⟩
      rw [Nat.zero_add, own.cellAt j (by omega)]
      simp [ints8, List.getElem?_map, List.getD_eq_getElem?_getD, List.getElem?_eq_getElem (show j < l.length by omega)]
end Go.Proofs.Qxb6605560a
