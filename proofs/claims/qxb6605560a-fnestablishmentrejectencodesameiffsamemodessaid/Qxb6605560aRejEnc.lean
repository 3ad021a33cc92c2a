import Derived.Test.Qxb6605560aModes
namespace Go.Proofs.Qxb6605560a
open Go.RowKit
set_option linter.unusedVariables false

/-- The low half of the Allowed SSC mode octet. -/
def mask (l : List Int) : Int := (if (1 : Int) ∈ l then 1 else 0) + (if (2 : Int) ∈ l then 2 else 0) + (if (3 : Int) ∈ l then 4 else 0)
theorem mask_bd (l : List Int) : 0 ≤ mask l ∧ mask l ≤ 7 := by unfold mask; split <;> split <;> split <;> decide
theorem mask_same {l : List Int} {k : Nat} (hk : k < l.length) (h : l.getD k 0 < 1 ∨ 3 < l.getD k 0) : mask (l.take (k + 1)) = mask (l.take k) := by
  have h' : l[k]?.getD 0 < 1 ∨ 3 < l[k]?.getD 0 := by simpa [List.getD_eq_getElem?_getD] using h
  unfold mask
  have a1 : ¬ (1 : Int) = l[k]?.getD 0 := by omega
  have a2 : ¬ (2 : Int) = l[k]?.getD 0 := by omega
  have a3 : ¬ (3 : Int) = l[k]?.getD 0 := by omega
  simp only [mem_take_succ hk, a1, a2, a3, or_false]
theorem mask_1 {l : List Int} {k : Nat} (hk : k < l.length) (h : l.getD k 0 = 1) : bits BinOp.or IntKind.u8 (240 + mask (l.take k)) 1 = 240 + mask (l.take (k + 1)) := by
  have h' : l[k]?.getD 0 = 1 := by simpa [List.getD_eq_getElem?_getD] using h
  unfold mask
  simp only [mem_take_succ hk, h']
  by_cases m1 : (1 : Int) ∈ l.take k <;> by_cases m2 : (2 : Int) ∈ l.take k <;> by_cases m3 : (3 : Int) ∈ l.take k <;> simp [m1, m2, m3] <;> decide
theorem mask_2 {l : List Int} {k : Nat} (hk : k < l.length) (h : l.getD k 0 = 2) : bits BinOp.or IntKind.u8 (240 + mask (l.take k)) 2 = 240 + mask (l.take (k + 1)) := by
  have h' : l[k]?.getD 0 = 2 := by simpa [List.getD_eq_getElem?_getD] using h
  unfold mask
  simp only [mem_take_succ hk, h']
  by_cases m1 : (1 : Int) ∈ l.take k <;> by_cases m2 : (2 : Int) ∈ l.take k <;> by_cases m3 : (3 : Int) ∈ l.take k <;> simp [m1, m2, m3] <;> decide
theorem mask_3 {l : List Int} {k : Nat} (hk : k < l.length) (h : l.getD k 0 = 3) : bits BinOp.or IntKind.u8 (240 + mask (l.take k)) 4 = 240 + mask (l.take (k + 1)) := by
  have h' : l[k]?.getD 0 = 3 := by simpa [List.getD_eq_getElem?_getD] using h
  unfold mask
  simp only [mem_take_succ hk, h']
  by_cases m1 : (1 : Int) ∈ l.take k <;> by_cases m2 : (2 : Int) ∈ l.take k <;> by_cases m3 : (3 : Int) ∈ l.take k <;> simp [m1, m2, m3] <;> decide

def rejL (i p c : Int) (l : List Int) : List Int := [46, i, p, 195, c] ++ (if l = [] then [] else [240 + mask l])

set_option maxHeartbeats 400000 in
theorem rej_zero (i p c : Int) (ad : Option Addr) (cap : Nat) (w : World) :
    Calls Try.prog 11 #[.agg #[.int .u8 i, .int .u8 p, .int .u8 c, .slice ad 0 cap]] w fun e w' => ∃ v, e = .returned v ∧ w'.ownsRow w.heap.size 5 1 v 5 (ints8 [46, i, p, 195, c]) ∧ Below w.heap.size w w' := by
  go_enter Try.func11, Try.ntmps11
  go_wp2
  go_ret
  exact ⟨_, rfl, own_lit2 w _ _ _ 5 (by decide) rfl, ((Below.refl _ _).alloc (Nat.le_refl _) _).alloc (by simp) _⟩

set_option maxHeartbeats 1000000 in
theorem rej_pos (i p c : Int) (b off n cap : Nat) (l : List Int) (hl : l.length = n) (hn0 : 0 < n) (hn : n ≤ 65536) (hu : ∀ x ∈ l, 0 ≤ x ∧ x ≤ 255) (w : World) (hb : b < w.heap.size)
    (hc : ∀ j, j < n → w.cell? ⟨b, off + j, none⟩ = some (.int .u8 (l.getD j 0))) :
    Calls Try.prog 11 #[.agg #[.int .u8 i, .int .u8 p, .int .u8 c, .slice (some ⟨b, off, none⟩) n cap]] w fun e w' => ∃ v, e = .returned v ∧ w'.ownsRow w.heap.size 5 1 v 6 (ints8 [46, i, p, 195, c, 240 + mask l]) ∧ Below w.heap.size w w' := by
  obtain ⟨i0, hi, hz0, hz1, hz2⟩ := info_parts info5
  have hcc : ∀ o1 o2 j, j < n → ((w.alloc o1).alloc o2).cell? ⟨b, off + j, none⟩ = some (.int .u8 (l.getD j 0)) := fun o1 o2 j hj =>
    ((((Below.refl _ _).alloc (Nat.le_refl _) o1).alloc (by simp) o2).cell (p := ⟨b, off + j, none⟩) hb).trans (hc j hj)
  go_enter Try.func11, Try.ntmps11
  go_wp2
  go_loop [4, 21] (fun ie x => ∃ k : Nat, k ≤ n ∧ x = .int .i64 k ∧ ie = .int .u8 (240 + mask (l.take k))) (fun _ x => n - (intOf x).toNat)
  case atStart => exact ⟨0, Nat.zero_le _, rfl, rfl⟩
  case round =>
    obtain ⟨k, hk, rfl, rfl⟩ := hrel
    by_cases hlt : k < n
    · have hk' : k < l.length := by omega
      have HK : Hid (k < l.length) := hk'
      clear hk'
      have hx : 0 ≤ l.getD k 0 ∧ l.getD k 0 ≤ 255 := by
        rw [List.getD_eq_getElem?_getD, List.getElem?_eq_getElem HK.out]; exact hu _ (List.getElem_mem HK.out)
      have d := fun o1 o2 => hcc o1 o2 k hlt
      clear hcc hc hu
      obtain ⟨y, hy⟩ : ∃ y, l.getD k 0 = y := ⟨_, rfl⟩
      rw [hy] at hx
      have d' : ∀ o1 o2, ((w.alloc o1).alloc o2).cell? ⟨b, off + k, none⟩ = some (.int .u8 y) := fun o1 o2 => by rw [d o1 o2, hy]
      clear d
      have HY : Hid (l.getD k 0 = y) := hy
      clear hy
      have HL : Hid (l.length = n) := hl
      clear hl
      by_cases y1 : y = 1
      · subst y1
        have o := mask_1 HK.out HY.out
        go_wp2
        go_round
        case rel => exact ⟨k + 1, by omega, by go_num, rfl⟩
        case measure => simp [intOf]; omega
      by_cases y2 : y = 2
      · subst y2
        have o := mask_2 HK.out HY.out
        clear y1
        go_wp2
        go_round
        case rel => exact ⟨k + 1, by omega, by go_num, rfl⟩
        case measure => simp [intOf]; omega
      by_cases y3 : y = 3
      · subst y3
        have o := mask_3 HK.out HY.out
        clear y1 y2
        go_wp2
        go_round
        case rel => exact ⟨k + 1, by omega, by go_num, rfl⟩
        case measure => simp [intOf]; omega
      have hy' : y < 1 ∨ 3 < y := by omega
      have HM : Hid (mask (l.take (k + 1)) = mask (l.take k)) := mask_same HK.out (by rw [HY.out]; exact hy')
      clear y1 y2 y3
      rcases hy' with hy' | hy'
      · go_wp2
        go_round
        case rel => exact ⟨k + 1, by omega, by go_num, by rw [HM.out]⟩
        case measure => simp [intOf]; omega
      · have hy1 : 1 ≤ y := by omega
        go_wp2
        go_round
        case rel => exact ⟨k + 1, by omega, by go_num, by rw [HM.out]⟩
        case measure => simp [intOf]; omega
    · have hkn : n = k := by omega
      have HT : Hid (l.take k = l) := List.take_of_length_le (by omega)
      clear hcc hc hu
      rw [HT.out]
      go_wp2_with (at_builtin; go_must (refine wpList_append_own _ rfl (.tmp 37) (.tmp 39) 26 rfl w.heap.size 5 i0 (.int .u8 0) 1 1 Try.underlying26 hi hz0 hz1 hz2 rfl (by decide) _ 5 (ints8 [46, i, p, 195, c]) rfl ((own_lit2 w _ _ _ 5 (by decide) rfl).alloc _) ⟨w.heap.size + 1 + 1, 0, none⟩ 1 1 [.int .u8 (240 + mask l)] rfl rfl (new_at _ _ _ (by simp)) (by simp [Value.oneCell']) (by decide) (by decide) (by simp; omega) ?_; intro v1 w1 own1 g1 _))
      go_ret
      exact ⟨v1, rfl, own1, bel3g _ _ _ _ _ _ _ g1⟩
end Go.Proofs.Qxb6605560a
