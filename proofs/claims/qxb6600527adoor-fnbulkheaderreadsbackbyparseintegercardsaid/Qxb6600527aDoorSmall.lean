import Derived.Test.Qxb6600527aDoorRows
import Derived.WalkKit
import Derived.WalkSpells
import Derived.ProofKit
import Derived.OpenShut
import Derived.Outline
import Derived.Lib.SliceRun
import Derived.Deep.QuietTactic
import Derived.BigQuiet
namespace Go.Proofs.Qxb6600527aDoor
open Go.RowKit
set_option linter.unusedVariables false

theorem info5 : (Tryd.prog.info? 5).map (fun i => (i.zero, i.size, i.bytes)) = some (some (.int .u8 0), 1, 1) := by kernel_rfl
def ints8 (l : List Int) : List Value := l.map (Value.int .u8)
theorem ret_bool {a b : Bool} (h : a = b) : Ending.returned (.bool a) = .returned (.bool b) := by rw [h]

/-- A slice of octets: its elements are l. -/
def SRow (w : World) (ad : Option Addr) (n : Nat) (l : List Int) : Prop :=
  l.length = n ∧ (∀ x ∈ l, 0 ≤ x ∧ x ≤ 255) ∧ (n = 0 ∨ ∃ b off, ad = some ⟨b, off, none⟩ ∧ b < w.heap.size ∧ ∀ j, j < n → w.cell? ⟨b, off + j, none⟩ = some (.int .u8 (l.getD j 0)))

/-! ### zzBytes -/
set_option maxHeartbeats 400000 in
theorem by12 (ad : Option Addr) (n cap : Nat) (w : World) (hn : n ≤ 1048576) :
    Calls Tryd.prog 12 #[.slice ad n cap] w fun e w' => e = .returned (.bool true) ∧ w' = w := by
  go_enter Tryd.func12, Tryd.ntmps12
  go_wp2
  go_ret
  exact ⟨rfl, rfl⟩
set_option maxHeartbeats 400000 in
theorem by12n (ad : Option Addr) (n cap : Nat) (w : World) (hn : 1048576 < n) :
    Calls Tryd.prog 12 #[.slice ad n cap] w fun e w' => e = .returned (.bool false) ∧ w' = w := by
  go_enter Tryd.func12, Tryd.ntmps12
  go_wp2
  go_ret
  exact ⟨rfl, rfl⟩

/-! ### zzClone -/
set_option maxHeartbeats 400000 in
theorem clone_nil (n c : Nat) (w : World) :
    Calls Tryd.prog 11 #[.slice none n c] w fun e w' => e = .returned (.slice none 0 0) ∧ w' = w := by
  have hq := fun w => Lib.run_eql_slice_nil (P := Tryd.prog) w 24 5 none n c 0 0 Tryd.underlying24
  go_enter Tryd.func11, Tryd.ntmps11
  go_wp2
  go_ret
  exact ⟨rfl, rfl⟩

theorem row_all {xs : List Value} {l : List Int} {n : Nat} (h1 : xs.length = n * 1) (h2 : l.length = n) (h : ∀ j, j < n → xs[j]? = some (.int .u8 (l.getD j 0))) : xs = ints8 l := by
  apply List.ext_getElem?
  intro j
  by_cases hj : j < n
  · rw [h j hj]
    simp [ints8, List.getElem?_map, List.getD_eq_getElem?_getD, List.getElem?_eq_getElem (show j < l.length by omega)]
  · rw [List.getElem?_eq_none (by omega), List.getElem?_eq_none (by simp [ints8]; omega)]

set_option maxHeartbeats 400000 in
theorem clone_zero (x : Addr) (c : Nat) (w : World) :
    Calls Tryd.prog 11 #[.slice (some x) 0 c] w fun e w' => e = .returned (.slice (some ⟨w.heap.size, 0, none⟩) 0 0) ∧ w'.ownsRow w.heap.size 5 1 (.slice (some ⟨w.heap.size, 0, none⟩) 0 0) 0 (ints8 []) ∧ Below w.heap.size w w' := by
  obtain ⟨i0, hi, hz0, hz1, hz2⟩ := info_parts info5
  have hq := fun w => Lib.run_eql_slice_nil (P := Tryd.prog) w 24 5 (some x) 0 c 0 0 Tryd.underlying24
  go_enter Tryd.func11, Tryd.ntmps11
  go_wp2_with (at_make; go_must (refine wpList_make_full _ rfl (.tmp 8) (.tmp 8) 24 rfl w.heap.size 5 i0 (.int .u8 0) 1 Tryd.underlying24 hi hz0 hz1 .i64 .i64 _ _ 0 rfl rfl rfl rfl (by rw [hz2]; omega) (by unfold maxLen; omega) (Nat.le_refl _) ?_; intro w1 own1 g1))
  refine wp_loop_rounds 1 ?_
  rw [rounds_succ]
  go_wp2
  go_ret
  have hnil : (madeCells (Value.int IntKind.u8 0).cells (0 * 1)).toList = ints8 [] := List.eq_nil_of_length_eq_zero (by simpa using own1.1)
  rw [hnil] at own1
  exact ⟨rfl, own1, (Below.refl _ _).grown g1 (Nat.le_refl _) (fun k hk => by cases hk)⟩

theorem stored_row {w : World} {B g n cap k : Nat} {xs : List Value} {l : List Int} (h : w.ownsRow B 5 1 (.slice (some ⟨g, 0, none⟩) n cap) n xs) (hk : k < n)
    (hx : ∀ j, j < k → xs[j]? = some (.int .u8 (l.getD j 0))) :
    ∃ ys, (w.setCell ⟨g, k, none⟩ (.int .u8 (l.getD k 0))).ownsRow B 5 1 (.slice (some ⟨g, 0, none⟩) n cap) n ys ∧ ∀ j, j < k + 1 → ys[j]? = some (.int .u8 (l.getD j 0)) := by
  have hs := (h.stored k (.int .u8 (l.getD k 0))).1
  refine ⟨_, hs, fun j hj => ?_⟩
  have hlen : xs.length = n * 1 := h.1
  rw [List.getElem?_set]
  by_cases e : k = j
  · subst e; rw [if_pos rfl, if_pos (by omega)]
  · rw [if_neg e]; exact hx j (by omega)

set_option maxHeartbeats 400000 in
theorem clone_pos (b off n c : Nat) (l : List Int) (hn : n ≤ 1048576) (w : World) (hl : l.length = n) (hb : b < w.heap.size)
    (hc : ∀ j, j < n → w.cell? ⟨b, off + j, none⟩ = some (.int .u8 (l.getD j 0))) :
    Calls Tryd.prog 11 #[.slice (some ⟨b, off, none⟩) n c] w fun e w' => e = .returned (.slice (some ⟨w.heap.size, 0, none⟩) n n) ∧ w'.ownsRow w.heap.size 5 1 (.slice (some ⟨w.heap.size, 0, none⟩) n n) n (ints8 l) ∧ Below w.heap.size w w' := by
  obtain ⟨i0, hi, hz0, hz1, hz2⟩ := info_parts info5
  have hq := fun w => Lib.run_eql_slice_nil (P := Tryd.prog) w 24 5 (some ⟨b, off, none⟩) n c 0 0 Tryd.underlying24
  go_enter Tryd.func11, Tryd.ntmps11
  go_wp2_with (at_make; go_must (refine wpList_make_full _ rfl (.tmp 8) (.tmp 8) 24 rfl w.heap.size 5 i0 (.int .u8 0) 1 Tryd.underlying24 hi hz0 hz1 .i64 .i64 _ _ n rfl rfl rfl rfl (by rw [hz2]; omega) (by unfold maxLen; omega) (Nat.le_refl _) ?_; intro w1 own1 g1))
  go_loopw [4] (fun i wr => ∃ (k : Nat) (xs : List Value), k ≤ n ∧ i = .int .i64 k ∧ wr.ownsRow w.heap.size 5 1 (.slice (some ⟨w.heap.size, 0, none⟩) n n) n xs ∧ (∀ j, j < k → xs[j]? = some (.int .u8 (l.getD j 0))) ∧ Below w.heap.size w wr) (fun i _ => n - (intOf i).toNat)
  case atStart => exact ⟨0, _, Nat.zero_le _, rfl, own1, fun j hj => by omega, (Below.refl _ _).grown g1 (Nat.le_refl _) (fun k hk => by cases hk)⟩
  case round =>
    obtain ⟨k, xs, hk, rfl, own, hxs, bel⟩ := hrel
    by_cases hlt : k < n
    · have d : wr.cell? ⟨b, off + k, none⟩ = some (.int .u8 (l.getD k 0)) := (bel.cell (p := ⟨b, off + k, none⟩) hb).trans (hc k hlt)
      obtain ⟨u, hu⟩ : ∃ u, wr.cell? ⟨w.heap.size, k, none⟩ = some u := by
        have h1 : xs.length = n * 1 := own.1
        rw [own.cellAt k (by omega)]
        exact ⟨_, List.getElem?_eq_getElem (by omega)⟩
      have hf := own.frozenAt k
      obtain ⟨ys, own', hys⟩ := stored_row own hlt hxs
      have bel' := bel.setCell (p := ⟨w.heap.size, k, none⟩) (Nat.le_refl _) (.int .u8 (l.getD k 0))
      have R : Hid ((wr.setCell ⟨w.heap.size, k, none⟩ (.int .u8 (l.getD k 0))).ownsRow w.heap.size 5 1 (.slice (some ⟨w.heap.size, 0, none⟩) n n) n ys ∧ (∀ j, j < k + 1 → ys[j]? = some (.int .u8 (l.getD j 0))) ∧ Below w.heap.size w (wr.setCell ⟨w.heap.size, k, none⟩ (.int .u8 (l.getD k 0)))) := ⟨own', hys, bel'⟩
      clear own' hys bel' own hxs hc own1 g1
      obtain ⟨y, hy⟩ : ∃ y, l.getD k 0 = y := ⟨_, rfl⟩
      rw [hy] at d R
      clear hy
      go_wp2
      go_roundw
      case rel => exact ⟨k + 1, ys, by omega, by go_num, R.out⟩
      case measure => simp [intOf]; omega
    · have hkn : n = k := by omega
      go_wp2
      go_ret
      have e : xs = ints8 l := row_all own.1 hl (fun j hj => hxs j (by omega))
      subst e
      exact ⟨rfl, own, bel⟩

/-- THE CONTRACT of zzClone at a slice that is not nil: the same octets at the head of a new block. -/
theorem clone_addr (ad : Option Addr) (n c : Nat) (l : List Int) (hn : n ≤ 1048576) (w : World) (hne : ¬ ad = none) (h : SRow w ad n l) :
    Calls Tryd.prog 11 #[.slice ad n c] w fun e w' => e = .returned (.slice (some ⟨w.heap.size, 0, none⟩) n n) ∧ w'.ownsRow w.heap.size 5 1 (.slice (some ⟨w.heap.size, 0, none⟩) n n) n (ints8 l) ∧ Below w.heap.size w w' := by
  obtain ⟨h1, h2, h3⟩ := h
  cases ad with
  | none => exact absurd rfl hne
  | some x =>
    rcases h3 with rfl | ⟨b, off, e, hlt, hc⟩
    · obtain rfl : l = [] := List.length_eq_zero_iff.1 h1
      exact clone_zero x c w
    · obtain rfl : x = ⟨b, off, none⟩ := by simpa using e
      exact clone_pos b off n c l hn w h1 hlt hc

/-! ### zzEqual, where the two hold the same -/
set_option maxHeartbeats 400000 in
theorem eq_zero (a1 a2 : Option Addr) (c1 c2 : Nat) (w : World) :
    Calls Tryd.prog 15 #[.slice a1 0 c1, .slice a2 0 c2] w fun e w' => e = .returned (.bool true) ∧ ∃ q, w' = w.drewN q := by
  go_enter Tryd.func15, Tryd.ntmps15
  go_wp2
  refine wp_loop_rounds 1 ?_
  rw [rounds_succ]
  go_wp2
  go_ret
  exact ⟨rfl, 0, rfl⟩

set_option maxHeartbeats 400000 in
theorem eq_pos (g1 o1 g2 o2 n c1 c2 : Nat) (f : Nat → Int) (hn : n ≤ 1048576) (w : World)
    (hc1 : ∀ j, j < n → w.cell? ⟨g1, o1 + j, none⟩ = some (.int .u8 (f j))) (hc2 : ∀ j, j < n → w.cell? ⟨g2, o2 + j, none⟩ = some (.int .u8 (f j))) :
    Calls Tryd.prog 15 #[.slice (some ⟨g1, o1, none⟩) n c1, .slice (some ⟨g2, o2, none⟩) n c2] w fun e w' => e = .returned (.bool true) ∧ ∃ q, w' = w.drewN q := by
  go_enter Tryd.func15, Tryd.ntmps15
  go_wp2
  go_loopw [5] (fun i wr => ∃ k : Nat, k ≤ n ∧ i = .int .i64 k ∧ ∃ q, wr = w.drewN q) (fun i _ => n - (intOf i).toNat)
  case atStart => exact ⟨0, Nat.zero_le _, rfl, 0, rfl⟩
  case round =>
    obtain ⟨k, hk, rfl, q, rfl⟩ := hrel
    by_cases hlt : k < n
    · have d1 := hc1 k hlt
      have d2 := hc2 k hlt
      clear hc1 hc2
      go_wp2
      go_quiet (fail)
      go_wp2
      go_roundw
      case rel => exact ⟨k + 1, by omega, by go_num, _, rfl⟩
      case measure => simp [intOf]; omega
    · go_wp2
      go_ret
      exact ⟨rfl, _, rfl⟩
end Go.Proofs.Qxb6600527aDoor
