/-
  THE PROOF OF 'Rows.FnEstablishmentRequestEncodeSameIffSameFieldsSaid': the frame is the seat's shell; the walk comes from Qxb6605560aReqSame.lean.
-/
import Derived.Test.Qxb6605560aReqSame
import Derived.WalkKit
import Derived.ProofKit
import Derived.OpenShut
import Derived.ShutString
namespace Go.Proofs.Qxb6605560a.fnEstablishmentRequestEncodeSameIffSameFields
open Go.ChangeShapes Go.WideShapes Go.ChangeAt Go.RowKit
open Go.ChangeMaps (open_string shut_string)
set_option linter.unusedVariables false      -- a walk need not use every 'w<i>' (that an integer argument fits its kind)

theorem own : ownKnob Try.prog.godebug = none := by kernel_rfl

theorem walk (a0 : Int) (a1 : Int) (a2 : Int) (a3 : Int) (a4 : Int) (a5 : Int) (a6 : Int) (a7 : Int) (w0 : (Lit.int .u8 a0).wf = true) (w1 : (Lit.int .u8 a1).wf = true) (w2 : (Lit.int .u8 a2).wf = true) (w3 : (Lit.int .u8 a3).wf = true) (w4 : (Lit.int .u8 a4).wf = true) (w5 : (Lit.int .u8 a5).wf = true) (w6 : (Lit.int .u8 a6).wf = true) (w7 : (Lit.int .u8 a7).wf = true) (w : World) :
    Calls Try.prog 4 #[.int .u8 a0, .int .u8 a1, .int .u8 a2, .int .u8 a3, .int .u8 a4, .int .u8 a5, .int .u8 a6, .int .u8 a7] w fun e w' => e = .returned (.bool true) ∧ Below w.heap.size w w' := by
  have b2 := bounds_u8 w2
  have b3 := bounds_u8 w3
  have b6 := bounds_u8 w6
  have b7 := bounds_u8 w7
  have K1 := encK a0 a1 a2 a3 b2.1 b2.2 b3.1 b3.2
  have K2 := encK a4 a5 a6 a7 b6.1 b6.2 b7.1 b7.2
  have hn : (encL a0 a1 a2 a3).length ≤ 1000 := by have := (encL_len a0 a1 a2 a3).2; omega
  have hW := req_want a0 a1 a2 a3 a4 a5 a6 a7
  cases e1 : (a0 == a4) with
  | false => exact same_0 _ _ _ _ _ _ _ _ _ _ _ _ rfl rfl hn w b2 b3 b6 b7 (by unfold Hid; rw [hW]; simp [e1]) e1 K1 K2
  | true =>
  cases e2 : (a1 == a5) with
  | false => exact same_1 _ _ _ _ _ _ _ _ _ _ _ _ rfl rfl hn w b2 b3 b6 b7 (by unfold Hid; rw [hW]; simp [e2]) e1 e2 K1 K2
  | true =>
  cases e3 : ((a2 == 0) == (a6 == 0)) with
  | false => exact same_2 _ _ _ _ _ _ _ _ _ _ _ _ rfl rfl hn w b2 b3 b6 b7 (by unfold Hid; rw [hW]; simp [e3]) e1 e2 e3 K1 K2
  | true =>
  cases e4 : (a2 % 8 == a6 % 8) with
  | false => exact same_3 _ _ _ _ _ _ _ _ _ _ _ _ rfl rfl hn w b2 b3 b6 b7 (by unfold Hid; rw [hW]; simp [e4]) e1 e2 e3 e4 K1 K2
  | true =>
  cases e5 : ((a3 == 0) == (a7 == 0)) with
  | false => exact same_4 _ _ _ _ _ _ _ _ _ _ _ _ rfl rfl hn w b2 b3 b6 b7 (by unfold Hid; rw [hW]; simp [e5]) e1 e2 e3 e4 e5 K1 K2
  | true =>
  cases e6 : (a3 % 8 == a7 % 8) with
  | false => exact same_5 _ _ _ _ _ _ _ _ _ _ _ _ rfl rfl hn w b2 b3 b6 b7 (by unfold Hid; rw [hW]; simp [e6]) e1 e2 e3 e4 e5 e6 K1 K2
  | true => exact same_6 _ _ _ _ _ _ _ _ _ _ _ _ rfl rfl hn w b2 b3 b6 b7 (by unfold Hid; rw [hW, e1, e2, e3, e4, e5, e6]; rfl) e1 e2 e3 e4 e5 e6 K1 K2

/-! ### THE ROW's STEP: WRITTEN OUT: LEAVE IT -/
set_option maxRecDepth 100000 in
theorem lifted (os : Os) (started : os.Started) (H : Type) (enc : TypeId × Value → H) :
    ReturnsInHanded {} Try.checked os 4 .any (Rows.fnEstablishmentRequestEncodeSameIffSameFieldsSpec.pre6 enc Try.prog Try.f4 Rows.fnEstablishmentRequestEncodeSameIffSameFieldsRow.domain false) (Rows.fnEstablishmentRequestEncodeSameIffSameFieldsSpec.post enc Try.prog Try.f4 false true false false) := by
  refine returnsInHanded_of_change (C := Try.checked) own started (by kernel_rfl) Try.func4
    (ChangeSpec.witness6 (enc := enc) (C := Try.checked) false ⟨#[], #[.int .u8 0, .int .u8 0, .int .u8 0, .int .u8 0, .int .u8 0, .int .u8 0, .int .u8 0, .int .u8 0], []⟩ 8 (by kernel_rfl) (by kernel_rfl) (by kernel_rfl) (by kernel_rfl)) ?_
  intro W base args ds gs before hval0 hW hcnd _
  have hval : ∀ (j : Nat) t v, Try.f4.params[j]? = some t → args[j]? = some v → Value.okWide Try.prog W .any base t v := hval0
  have hW' := hW
  obtain ⟨p, q, hA0, hV, rfl, hfz, hnd⟩ := hW
  have hA : DataW.TrodAll enc Try.prog W 0 (fun _ => true) true Try.f4.params.toList args.toList ds p := hA0
  rw [Try.params4] at hA hval
  obtain ⟨v0, vs0, d0, ds0, p0, q0, hargs, rfl, rfl, h0, r0⟩ := trodAll_cons hA
  obtain ⟨v1, vs1, d1, ds1, p1, q1, rfl, rfl, rfl, h1, r1⟩ := trodAll_cons r0
  obtain ⟨v2, vs2, d2, ds2, p2, q2, rfl, rfl, rfl, h2, r2⟩ := trodAll_cons r1
  obtain ⟨v3, vs3, d3, ds3, p3, q3, rfl, rfl, rfl, h3, r3⟩ := trodAll_cons r2
  obtain ⟨v4, vs4, d4, ds4, p4, q4, rfl, rfl, rfl, h4, r4⟩ := trodAll_cons r3
  obtain ⟨v5, vs5, d5, ds5, p5, q5, rfl, rfl, rfl, h5, r5⟩ := trodAll_cons r4
  obtain ⟨v6, vs6, d6, ds6, p6, q6, rfl, rfl, rfl, h6, r6⟩ := trodAll_cons r5
  obtain ⟨v7, vs7, d7, ds7, p7, q7, rfl, rfl, rfl, h7, r7⟩ := trodAll_cons r6
  obtain ⟨rfl, rfl, rfl⟩ := trodAll_nil r7
  obtain rfl : args = #[v0, v1, v2, v3, v4, v5, v6, v7] := by cases args; simp_all
  obtain ⟨rfl, rfl⟩ := trodVars_none hV
  obtain ⟨a0, rfl, rfl, rfl, w0⟩ := open_int Try.underlying5 (hval 0 5 v0 rfl rfl) h0
  obtain ⟨a1, rfl, rfl, rfl, w1⟩ := open_int Try.underlying5 (hval 1 5 v1 rfl rfl) h1
  obtain ⟨a2, rfl, rfl, rfl, w2⟩ := open_int Try.underlying5 (hval 2 5 v2 rfl rfl) h2
  obtain ⟨a3, rfl, rfl, rfl, w3⟩ := open_int Try.underlying5 (hval 3 5 v3 rfl rfl) h3
  obtain ⟨a4, rfl, rfl, rfl, w4⟩ := open_int Try.underlying5 (hval 4 5 v4 rfl rfl) h4
  obtain ⟨a5, rfl, rfl, rfl, w5⟩ := open_int Try.underlying5 (hval 5 5 v5 rfl rfl) h5
  obtain ⟨a6, rfl, rfl, rfl, w6⟩ := open_int Try.underlying5 (hval 6 5 v6 rfl rfl) h6
  obtain ⟨a7, rfl, rfl, rfl, w7⟩ := open_int Try.underlying5 (hval 7 5 v7 rfl rfl) h7
  clear hA0 hval0
  simp only [List.append_nil] at hW'
  refine (walk a0 a1 a2 a3 a4 a5 a6 a7 w0 w1 w2 w3 w4 w5 w6 w7 W).mono fun e W' ⟨he, hg⟩ => ?_
  subst he
  exact ⟨_, rfl, _, _, _, [], _, [], hW', trodAll_mk1 (shut_bool Try.underlying4 _), (trodAll_cons_mk (shut_int Try.underlying5 w0) (trodAll_cons_mk (shut_int Try.underlying5 w1) (trodAll_cons_mk (shut_int Try.underlying5 w2) (trodAll_cons_mk (shut_int Try.underlying5 w3) (trodAll_cons_mk (shut_int Try.underlying5 w4) (trodAll_cons_mk (shut_int Try.underlying5 w5) (trodAll_cons_mk (shut_int Try.underlying5 w6) (trodAll_cons_mk (shut_int Try.underlying5 w7) trodAll_mk0)))))))), rfl, hg.frame _, fun h => by cases h⟩

theorem over : Rows.fnEstablishmentRequestEncodeSameIffSameFieldsRow.holds Try.pinned (OpenSpec.ofChange Rows.fnEstablishmentRequestEncodeSameIffSameFieldsSpec) :=
  OpenClaim.holds_of_wide 4 Try.f4 rfl rfl rfl rfl rfl rfl rfl ⟨rfl, rfl, rfl, rfl, rfl⟩ rfl rfl rfl rfl rfl (by kernel_rfl) Try.func4 (by kernel_rfl)
    (of_decide_eq_true (by kernel_rfl)) (by unfold Func.isWrapper; first | (rw [if_pos (by decide +kernel)]; kernel_rfl) | (rw [if_neg (by decide +kernel)]; exact ⟨rfl, rfl⟩))
    (fun os started H enc _ => lifted os started H enc)

/-- ████ THE STATEMENT ████ -/
theorem proved : Rows.FnEstablishmentRequestEncodeSameIffSameFieldsSaid :=
  over
end Go.Proofs.Qxb6605560a.fnEstablishmentRequestEncodeSameIffSameFields
