/-
  THE PROOF OF 'Rows.FnEstablishmentRejectEncodeSameIffSameModesSaid': the frame is the seat's shell; the walks come from Qxb6605560aRejSame.lean, Qxb6605560aRejSame2.lean.
-/
import Derived.Test.Qxb6605560aRejSame2
import Derived.WalkKit
import Derived.ProofKit
import Derived.OpenShut
import Derived.ShutString
import Derived.ChangeOld
import Derived.Below
namespace Go.Proofs.Qxb6605560a.fnEstablishmentRejectEncodeSameIffSameModes
open Go.ChangeShapes Go.WideShapes Go.ChangeAt Go.RowKit
open Go.ChangeMaps (open_string shut_string)
set_option linter.unusedVariables false

theorem own : ownKnob Try.prog.godebug = none := by kernel_rfl
theorem laidOut : laidOutB Try.prog = true := by kernel_rfl

/-- WHAT THE WALK IS TOLD OF A SLICE OF INTEGERS THAT CAME IN: it is nil; or it leads to a row of 'cap' cells, the numbers 'zs' (the first 'len' are its elements, the rest its spare room), each fitting its kind. -/
def IsRow (k : IntKind) (w : World) (a : Option Addr) (len cap : Nat) (zs : List Int) : Prop :=
  (a = none ∧ len = 0 ∧ cap = 0 ∧ zs = []) ∨
  ∃ x, a = some x ∧ len ≤ cap ∧ cap ≤ maxLen ∧ zs.length = cap ∧ (∀ i, i < zs.length → w.cell? (x.add i) = some (.int k (zs.getD i 0))) ∧ ∀ n ∈ zs, (Lit.int k n).wf = true

theorem srow {w : World} {a : Option Addr} {len cap : Nat} {zs : List Int} (h : IsRow .u8 w a len cap zs) : SRow w a len (zs.take len) ∧ (a = none → len = 0) := by
  rcases h with ⟨rfl, rfl, rfl, rfl⟩ | ⟨x, rfl, hl, hm, hz, hc, hw⟩
  · exact ⟨⟨rfl, by simp, .inl rfl⟩, fun _ => rfl⟩
  refine ⟨⟨by simp; omega, fun y hy => bounds_u8 (hw y (List.mem_of_mem_take hy)), ?_⟩, fun h => by cases h⟩
  by_cases h0 : len = 0
  · exact .inl h0
  right
  obtain ⟨b, off, spot⟩ := x
  have c0 := hc 0 (by omega)
  have hs : spot = none := by simpa [Addr.add] using World.cell?_spot c0
  subst hs
  rw [add_plain] at c0
  refine ⟨b, off, rfl, block_lt_of_cell c0, fun j hj => ?_⟩
  have := hc j (by omega)
  rw [List.getD_eq_getElem?_getD, List.getElem?_take, if_pos hj, ← List.getD_eq_getElem?_getD, ← this, add_plain]

theorem walk (a0 : Int) (a1 : Int) (a2 : Int) (a3 : Option Addr) (len3 cap3 : Nat) (z3 : List Int) (a4 : Option Addr) (len4 cap4 : Nat) (z4 : List Int) (w : World) (w0 : (Lit.int .u8 a0).wf = true) (w1 : (Lit.int .u8 a1).wf = true) (w2 : (Lit.int .u8 a2).wf = true) (w3 : IsRow .u8 w a3 len3 cap3 z3) (w4 : IsRow .u8 w a4 len4 cap4 z4) :
    Calls Try.prog 6 #[.int .u8 a0, .int .u8 a1, .int .u8 a2, .slice a3 len3 cap3, .slice a4 len4 cap4] w fun e w' => e = .returned (.bool true) ∧ Below w.heap.size w w' := by
  obtain ⟨hA, y1⟩ := srow w3
  obtain ⟨hB, y2⟩ := srow w4
  by_cases g0 : 1048576 < len3 + len4
  · exact rs_far a0 a1 a2 a3 a4 len3 len4 cap3 cap4 w g0
  by_cases g1 : 65536 < len3
  · exact rs_long a0 a1 a2 a3 a4 len3 len4 cap3 cap4 w (by omega) g1
  by_cases g2 : 65536 < len4
  · exact rs_long2 a0 a1 a2 a3 a4 len3 len4 cap3 cap4 w (by omega) (by omega) g2
  have hn : len3 ≤ 65536 := by omega
  have hm : len4 ≤ 65536 := by omega
  have k3 : (rejL a0 a1 a2 (z3.take len3)).length ≤ 1000 := by have := (rejL_len a0 a1 a2 (z3.take len3)).2; omega
  have Ka : HasR a3 len3 cap3 (z3.take len3) (fun x => decide (x ∈ z3.take len3)) := fun x w0 hr => has_any a3 len3 cap3 x _ hn w0 hr
  have Kb : HasR a4 len4 cap4 (z4.take len4) (fun x => decide (x ∈ z4.take len4)) := fun x w0 hr => has_any a4 len4 cap4 x _ hm w0 hr
  have Ra := rejK a0 a1 a2 len3 (z3.take len3) hn
  have Rb := rejK a0 a1 a2 len4 (z4.take len4) hm
  have W := rej_want a0 a1 a2 (z3.take len3) (z4.take len4)
  have lA : (z3.take len3).length = len3 := hA.1
  have lB : (z4.take len4).length = len4 := hB.1
  generalize z3.take len3 = l at *
  generalize z4.take len4 = l' at *
  by_cases n0 : len3 = 0
  · subst n0
    obtain rfl : l = [] := List.length_eq_zero_iff.1 lA
    by_cases m0 : len4 = 0
    · subst m0
      obtain rfl : l' = [] := List.length_eq_zero_iff.1 lB
      exact rs_zz a0 a1 a2 a3 a4 0 0 cap3 cap4 _ _ _ _ _ _ _ _ hn hm w y1 y2 hA hB (by unfold Hid; rw [W]; rfl) rfl rfl k3 Ka Kb Ra Rb rfl rfl rfl
    · have e : decide (l' = []) = false := by simp only [decide_eq_false_iff_not]; rintro rfl; exact m0 lB.symm
      exact rs_zp a0 a1 a2 a3 a4 0 len4 cap3 cap4 _ _ _ _ _ _ _ _ hn hm w y1 y2 hA hB (by unfold Hid; rw [W, e]; rfl) rfl rfl k3 Ka Kb Ra Rb (by omega)
  · have e : decide (l = []) = false := by simp only [decide_eq_false_iff_not]; rintro rfl; exact n0 lA.symm
    by_cases m0 : len4 = 0
    · subst m0
      obtain rfl : l' = [] := List.length_eq_zero_iff.1 lB
      exact rs_pz a0 a1 a2 a3 a4 len3 0 cap3 cap4 _ _ _ _ _ _ _ _ hn hm w y1 y2 hA hB (by unfold Hid; rw [W, e]; rfl) rfl rfl k3 Ka Kb Ra Rb (by omega)
    · have e' : decide (l' = []) = false := by simp only [decide_eq_false_iff_not]; rintro rfl; exact m0 lB.symm
      rw [e, e'] at W
      cases t1 : (decide ((1 : Int) ∈ l) == decide ((1 : Int) ∈ l')) with
      | false => exact rs_p1 a0 a1 a2 a3 a4 len3 len4 cap3 cap4 _ _ _ _ _ _ _ _ hn hm w y1 y2 hA hB (by unfold Hid; rw [W, t1]; rfl) rfl rfl k3 Ka Kb Ra Rb (by omega) (by omega) t1
      | true =>
      cases t2 : (decide ((2 : Int) ∈ l) == decide ((2 : Int) ∈ l')) with
      | false => exact rs_p2 a0 a1 a2 a3 a4 len3 len4 cap3 cap4 _ _ _ _ _ _ _ _ hn hm w y1 y2 hA hB (by unfold Hid; rw [W, t1, t2]; rfl) rfl rfl k3 Ka Kb Ra Rb (by omega) (by omega) t1 t2
      | true =>
      cases t3 : (decide ((3 : Int) ∈ l) == decide ((3 : Int) ∈ l')) with
      | false => exact rs_p3 a0 a1 a2 a3 a4 len3 len4 cap3 cap4 _ _ _ _ _ _ _ _ hn hm w y1 y2 hA hB (by unfold Hid; rw [W, t1, t2, t3]; rfl) rfl rfl k3 Ka Kb Ra Rb (by omega) (by omega) t1 t2 t3
      | true => exact rs_p4 a0 a1 a2 a3 a4 len3 len4 cap3 cap4 _ _ _ _ _ _ _ _ hn hm w y1 y2 hA hB (by unfold Hid; rw [W, t1, t2, t3]; rfl) rfl rfl k3 Ka Kb Ra Rb (by omega) (by omega) t1 t2 t3

/-! ### THE ROW's STEP: WRITTEN OUT: LEAVE IT -/
set_option maxRecDepth 100000 in
theorem lifted (os : Os) (started : os.Started) (H : Type) (enc : TypeId × Value → H) :
    ReturnsInHanded {} Try.checked os 6 .any (Rows.fnEstablishmentRejectEncodeSameIffSameModesSpec.pre6 enc Try.prog Try.f6 Rows.fnEstablishmentRejectEncodeSameIffSameModesRow.domain false) (Rows.fnEstablishmentRejectEncodeSameIffSameModesSpec.post enc Try.prog Try.f6 false true false false) := by
  refine returnsInHanded_of_change (C := Try.checked) own started (by kernel_rfl) Try.func6
    (ChangeSpec.witness6 (enc := enc) (C := Try.checked) false ⟨#[], #[.int .u8 0, .int .u8 0, .int .u8 0, .slice none 0 0, .slice none 0 0], []⟩ 8 (by kernel_rfl) (by kernel_rfl) (by kernel_rfl) (by kernel_rfl)) ?_
  intro W base args ds gs before hval0 hW hcnd _
  have hval : ∀ (j : Nat) t v, Try.f6.params[j]? = some t → args[j]? = some v → Value.okWide Try.prog W .any base t v := hval0
  have hW' := hW
  obtain ⟨p, q, hA0, hV, rfl, hfz, hnd⟩ := hW
  have hA : DataW.TrodAll enc Try.prog W 0 (fun _ => true) true Try.f6.params.toList args.toList ds p := hA0
  rw [Try.params6] at hA hval
  obtain ⟨v0, vs0, d0, ds0, p0, q0, hargs, rfl, rfl, h0, r0⟩ := trodAll_cons hA
  obtain ⟨v1, vs1, d1, ds1, p1, q1, rfl, rfl, rfl, h1, r1⟩ := trodAll_cons r0
  obtain ⟨v2, vs2, d2, ds2, p2, q2, rfl, rfl, rfl, h2, r2⟩ := trodAll_cons r1
  obtain ⟨v3, vs3, d3, ds3, p3, q3, rfl, rfl, rfl, h3, r3⟩ := trodAll_cons r2
  obtain ⟨v4, vs4, d4, ds4, p4, q4, rfl, rfl, rfl, h4, r4⟩ := trodAll_cons r3
  obtain ⟨rfl, rfl, rfl⟩ := trodAll_nil r4
  obtain rfl : args = #[v0, v1, v2, v3, v4] := by cases args; simp_all
  obtain ⟨rfl, rfl⟩ := trodVars_none hV
  obtain ⟨a0, rfl, rfl, rfl, w0⟩ := open_int Try.underlying5 (hval 0 5 v0 rfl rfl) h0
  obtain ⟨a1, rfl, rfl, rfl, w1⟩ := open_int Try.underlying5 (hval 1 5 v1 rfl rfl) h1
  obtain ⟨a2, rfl, rfl, rfl, w2⟩ := open_int Try.underlying5 (hval 2 5 v2 rfl rfl) h2
  obtain ⟨a3, len3, cap3, rfl⟩ := okWide_slice Try.underlying26 (hval 3 26 v3 rfl rfl)
  have k3 := h3
  have lt3 : ∀ x ∈ p3, x.block < W.heap.size := by obtain ⟨m, hm⟩ := k3; exact DataW.trod_lt m _ _ _ hm
  obtain ⟨z3, w3⟩ : ∃ zs, IsRow .u8 W a3 len3 cap3 zs := by
    obtain ⟨fuel, hf⟩ := h3
    rcases open_ints Try.underlying26 Try.underlying5 (by kernel_rfl) hf with ⟨hcs, _⟩ | ⟨x, l, c, zs, hcs, _, hl, hm, hz, _, hcell, hwz⟩
    · simp [Value.cells] at hcs
      obtain ⟨rfl, rfl, rfl⟩ := hcs
      exact ⟨[], .inl ⟨rfl, rfl, rfl, rfl⟩⟩
    · simp [Value.cells] at hcs
      obtain ⟨rfl, rfl, rfl⟩ := hcs
      exact ⟨zs, .inr ⟨_, rfl, hl, hm, by simpa using hz, hcell, hwz⟩⟩
  obtain ⟨a4, len4, cap4, rfl⟩ := okWide_slice Try.underlying26 (hval 4 26 v4 rfl rfl)
  have k4 := h4
  have lt4 : ∀ x ∈ p4, x.block < W.heap.size := by obtain ⟨m, hm⟩ := k4; exact DataW.trod_lt m _ _ _ hm
  obtain ⟨z4, w4⟩ : ∃ zs, IsRow .u8 W a4 len4 cap4 zs := by
    obtain ⟨fuel, hf⟩ := h4
    rcases open_ints Try.underlying26 Try.underlying5 (by kernel_rfl) hf with ⟨hcs, _⟩ | ⟨x, l, c, zs, hcs, _, hl, hm, hz, _, hcell, hwz⟩
    · simp [Value.cells] at hcs
      obtain ⟨rfl, rfl, rfl⟩ := hcs
      exact ⟨[], .inl ⟨rfl, rfl, rfl, rfl⟩⟩
    · simp [Value.cells] at hcs
      obtain ⟨rfl, rfl, rfl⟩ := hcs
      exact ⟨zs, .inr ⟨_, rfl, hl, hm, by simpa using hz, hcell, hwz⟩⟩
  clear hA0 hval0
  refine (walk a0 a1 a2 a3 len3 cap3 z3 a4 len4 cap4 z4 W w0 w1 w2 w3 w4).mono fun e W' ⟨he, bel⟩ => ?_
  subst he
  exact ⟨_, rfl, _, _, _, [], _, [], hW', trodAll_mk1 (shut_bool Try.underlying4 _), (trodAll_cons_mk (shut_int Try.underlying5 w0) (trodAll_cons_mk (shut_int Try.underlying5 w1) (trodAll_cons_mk (shut_int Try.underlying5 w2) (trodAll_cons_mk (Below.trod laidOut (by kernel_rfl) (of_decide_eq_true (by kernel_rfl)) k3 bel lt3) (trodAll_cons_mk (Below.trod laidOut (by kernel_rfl) (of_decide_eq_true (by kernel_rfl)) k4 bel lt4) trodAll_mk0))))), rfl, bel.frame _, fun h => by cases h⟩

theorem over : Rows.fnEstablishmentRejectEncodeSameIffSameModesRow.holds Try.pinned (OpenSpec.ofChange Rows.fnEstablishmentRejectEncodeSameIffSameModesSpec) :=
  OpenClaim.holds_of_wide 6 Try.f6 rfl rfl rfl rfl rfl rfl rfl ⟨rfl, rfl, rfl, rfl, rfl⟩ rfl rfl rfl rfl rfl (by kernel_rfl) Try.func6 (by kernel_rfl)
    (of_decide_eq_true (by kernel_rfl)) (by unfold Func.isWrapper; first | (rw [if_pos (by decide +kernel)]; kernel_rfl) | (rw [if_neg (by decide +kernel)]; exact ⟨rfl, rfl⟩))
    (fun os started H enc _ => lifted os started H enc)

/-- ████ THE STATEMENT ████ -/
theorem proved : Rows.FnEstablishmentRejectEncodeSameIffSameModesSaid := over
end Go.Proofs.Qxb6605560a.fnEstablishmentRejectEncodeSameIffSameModes
