/-
  THE PROOF OF 'Rows.FnBulkHeaderReadsBackByParseIntegerSaid' (the row): the frame after the guide's worked examples (a law over a slice; a listed row whose witness is the door's own heap).
-/
import Derived.Test.Qxb6600527aDoorTop
import Derived.LaidMore
import Derived.Stop.Joined
import Derived.Lib.LaidTab
import Derived.Stop.LaidErr
namespace Go.Proofs.Qxb6600527aDoor
open Go.ChangeShapes Go.WideShapes Go.ChangeAt Go.RowKit
set_option linter.unusedVariables false

theorem own : ownKnob Tryd.prog.godebug = none := by kernel_rfl
theorem laidOut : laidOutB Tryd.prog = true := by kernel_rfl
abbrev laid5 : List (String × DataW Unit) := Rows.fnBulkHeaderReadsBackByParseIntegerRow.laid

/-- The door's own heap meets the condition: closed facts. -/
theorem door_met (os : Os) (args : Array Value) : laidMetH Tryd.prog laid5 ((World.doorLaid Tryd.prog 62 os).forCall (fun _ _ => 0) ⟨#[], args, []⟩).memory :=
  laidMetH_of_parts3 (fuel := 8) (laidMet_of_run' 8 (by kernel_rfl) (by kernel_rfl)) (by kernel_rfl) (by kernel_rfl)

theorem gPow : Tryd.prog.globalNamed powName = some 2 := by kernel_rfl
theorem tPow : (Tryd.prog.globals[2]?).map (·.type) = some 77 := by kernel_rfl
theorem powDatum : (Rows.laid_internal_strconv_uint64pow10 : DataW Unit) = Lib.tabData .u64 Lib.pow10Tab := by kernel_rfl

/-- WHAT THE CONDITION GIVES THE WALK: the table of powers of ten. -/
theorem pow_of_laid {W : World} (h : laidMetH Tryd.prog laid5 W) : Pow W.heap.size W := by
  rw [MakeChecks.laidMetH_plain _ _ _ (by kernel_rfl)] at h
  have h2 := h.tail.tail
  rw [powDatum] at h2
  exact Lib.tabBelow_of_tabIs (Lib.tabIs_of_head gPow tPow Tryd.underlying77 Tryd.underlying44 (by kernel_rfl) (by kernel_rfl) h2)

/-! ### The law's walk, whatever its length -/
set_option maxHeartbeats 400000 in
theorem law_long (ad : Option Addr) (n cap : Nat) (w : World) (hn : 1048576 < n) :
    Calls Tryd.prog 5 #[.slice ad n cap] w fun e w' => e = .returned (.bool true) ∧ Below w.heap.size w w' := by
  go_enter Tryd.func5, Tryd.ntmps5
  go_wp2_with (go_at_call 12; go_must (refine (by12n ad n cap _ hn).mono ?_; rintro e w' ⟨rfl, rfl⟩))
  go_ret
  exact ⟨rfl, Below.refl _ _⟩

/-- What is told of a slice of octets that came in (the seat's shells' word for it). -/
def IsRow (k : IntKind) (w : World) (a : Option Addr) (len cap : Nat) (zs : List Int) : Prop :=
  (a = none ∧ len = 0 ∧ cap = 0 ∧ zs = []) ∨
  ∃ x, a = some x ∧ len ≤ cap ∧ cap ≤ maxLen ∧ zs.length = cap ∧ (∀ i, i < zs.length → w.cell? (x.add i) = some (.int k (zs.getD i 0))) ∧ ∀ n ∈ zs, (Lit.int k n).wf = true
theorem srow {w : World} {a : Option Addr} {len cap : Nat} {zs : List Int} (h : IsRow .u8 w a len cap zs) : SRow w a len (zs.take len) ∧ (a = none → len = 0) := by
  rcases h with ⟨rfl, rfl, rfl, rfl⟩ | ⟨x, rfl, hl, hm, hz, hc, hw⟩
  · exact ⟨⟨rfl, by simp, .inl rfl⟩, fun _ => rfl⟩
  refine ⟨⟨by simp; omega, fun y hy => bounds_u8 (hw y (List.mem_of_mem_take hy)), ?_⟩, fun h => by cases h⟩
  by_cases h0 : len = 0
  · exact .inl h0
  right
  obtain ⟨b, off, spot⟩ := x
  have c0 := hc 0 (by omega)
  have hs : spot = none := by simpa [Addr.add] using World.cell?_spot c0
  subst hs
  rw [add_plain] at c0
  refine ⟨b, off, rfl, block_lt_of_cell c0, fun j hj => ?_⟩
  have := hc j (by omega)
  rw [List.getD_eq_getElem?_getD, List.getElem?_take, if_pos hj, ← List.getD_eq_getElem?_getD, ← this, add_plain]

theorem walk (a : Option Addr) (len cap : Nat) (zs : List Int) (w : World) (h : IsRow .u8 w a len cap zs) (hL : laidMetH Tryd.prog laid5 w) :
    Calls Tryd.prog 5 #[.slice a len cap] w fun e w' => e = .returned (.bool true) ∧ Below w.heap.size w w' := by
  obtain ⟨hrow, h0⟩ := srow h
  by_cases hn : 1048576 < len
  · exact law_long a len cap w hn
  · exact law_short a len cap _ (by omega) w h0 hrow (pow_of_laid hL)

set_option maxRecDepth 100000 in
theorem lifted (os : Os) (started : os.Started) (H : Type) (enc : TypeId × Value → H) :
    ReturnsInHanded {} Tryd.checked os 5 .any (fun w args => (Rows.fnBulkHeaderReadsBackByParseIntegerSpec.pre enc Tryd.prog Tryd.f5 [] false w args ∧ laidMetH Tryd.prog laid5 w) ∧ sizedMet enc Tryd.prog Tryd.f5 (OpenSpec.ofChange Rows.fnBulkHeaderReadsBackByParseIntegerSpec) false w args)
      (Rows.fnBulkHeaderReadsBackByParseIntegerSpec.post enc Tryd.prog Tryd.f5 false true false false) := by
  refine returnsInHanded_of_change_and (C := Tryd.checked) (X := fun w _ => laidMetH Tryd.prog laid5 w) (fun _ _ _ hh h => h.of_heap hh) own started (by kernel_rfl) Tryd.func5
    (ChangeSpec.witness_shaped (enc := enc) (C := Tryd.checked) (os := os) (X := fun w _ => laidMetH Tryd.prog laid5 w) false (World.doorLaid Tryd.prog 62 os) #[.slice none 0 0] 8 rfl (World.shaped_of_RefB (by kernel_rfl) (by kernel_rfl)) (by kernel_rfl) (by kernel_rfl) (by kernel_rfl) (door_met os _)) ?_
  intro W base args ds gs before hval0 hW _ _ hL _
  have hval : ∀ (j : Nat) t v, Tryd.f5.params[j]? = some t → args[j]? = some v → Value.okWide Tryd.prog W .any base t v := hval0
  have hW' := hW
  obtain ⟨p, q, hA0, hV, rfl, hfz, hnd⟩ := hW
  have hA : DataW.TrodAll enc Tryd.prog W 0 (fun _ => true) true Tryd.f5.params.toList args.toList ds p := hA0
  rw [Tryd.params5] at hA hval
  obtain ⟨v0, vs0, d0, ds0, p0, q0, hargs, rfl, rfl, h0, r0⟩ := trodAll_cons hA
  obtain ⟨rfl, rfl, rfl⟩ := trodAll_nil r0
  obtain rfl : args = #[v0] := by cases args; simp_all
  obtain ⟨rfl, rfl⟩ := trodVars_none hV
  obtain ⟨a0, len0, cap0, rfl⟩ := okWide_slice Tryd.underlying24 (hval 0 24 v0 rfl rfl)
  have k0 := h0
  have lt0 : ∀ x ∈ p0, x.block < W.heap.size := by obtain ⟨m, hm⟩ := k0; exact DataW.trod_lt m _ _ _ hm
  obtain ⟨z0, w0⟩ : ∃ zs, IsRow .u8 W a0 len0 cap0 zs := by
    obtain ⟨fuel, hf⟩ := h0
    rcases open_ints Tryd.underlying24 Tryd.underlying5 (by kernel_rfl) hf with ⟨hcs, _⟩ | ⟨x, l, c, zs, hcs, _, hl, hm, hz, _, hcell, hwz⟩
    · simp [Value.cells] at hcs
      obtain ⟨rfl, rfl, rfl⟩ := hcs
      exact ⟨[], .inl ⟨rfl, rfl, rfl, rfl⟩⟩
    · simp [Value.cells] at hcs
      obtain ⟨rfl, rfl, rfl⟩ := hcs
      exact ⟨zs, .inr ⟨_, rfl, hl, hm, by simpa using hz, hcell, hwz⟩⟩
  clear hA0 hval0
  refine (walk a0 len0 cap0 z0 W w0 hL).mono fun e W' ⟨he, bel⟩ => ?_
  subst he
  exact ⟨_, rfl, _, _, _, [], _, [], hW', trodAll_mk1 (shut_bool Tryd.underlying4 _), (trodAll_cons_mk (Below.trod laidOut (by kernel_rfl) (of_decide_eq_true (by kernel_rfl)) k0 bel lt0) trodAll_mk0), rfl, bel.frame _, fun h => by cases h⟩

theorem row_holds : Rows.FnBulkHeaderReadsBackByParseIntegerSaid :=
  OpenClaim.holds_of_wide 5 Tryd.f5 rfl rfl rfl rfl rfl rfl rfl ⟨rfl, rfl, rfl, rfl, rfl⟩ rfl rfl rfl rfl rfl (by kernel_rfl) Tryd.func5 (by kernel_rfl)
    (of_decide_eq_true (by kernel_rfl)) (by unfold Func.isWrapper; first | (rw [if_pos (by decide +kernel)]; kernel_rfl) | (rw [if_neg (by decide +kernel)]; exact ⟨rfl, rfl⟩))
    (fun os started H enc _ => lifted os started H enc)
end Go.Proofs.Qxb6600527aDoor
