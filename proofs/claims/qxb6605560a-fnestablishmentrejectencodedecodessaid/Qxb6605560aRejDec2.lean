import Derived.Test.Qxb6605560aRejDec
namespace Go.Proofs.Qxb6605560a
open Go.RowKit
set_option linter.unusedVariables false

/-- What the walk is told of zzHasMode: it answers 'hb', whatever that is. -/
def HasK (ad : Option Addr) (n cap : Nat) (l : List Int) (hb : Int → Bool) : Prop := ∀ x w0, SRow w0 ad n l → Calls Try.prog 12 #[.slice ad n cap, .int .u8 x] w0 fun e w' => e = .returned (.bool (hb x)) ∧ w' = w0

set_option maxHeartbeats 4000000 in
theorem rd_pos (i p c : Int) (ad : Option Addr) (n cap : Nat) (l : List Int) (ie : Int) (hb : Int → Bool) (hn0 : 1 ≤ n) (hn : n ≤ 65536) (w : World) (h0 : Hid (ad = none → n = 0)) (hrow : SRow w ad n l) (K : RejK6 i p c n l ie) (K' : HasK ad n cap l hb)
    (b1 b2 b3 : Bool) (e1 : hb 1 = b1) (e2 : hb 2 = b2) (e3 : hb 3 = b3) (hie : ie = 240 + (if b1 then 1 else 0) + (if b2 then 2 else 0) + (if b3 then 4 else 0)) :
    Calls Try.prog 5 #[.int .u8 i, .int .u8 p, .int .u8 c, .slice ad n cap] w fun e w' => e = .returned (.bool true) ∧ Below w.heap.size w w' := by
  subst hie
  cases b1 <;> cases b2 <;> cases b3
  all_goals
    simp only [if_true, if_false, Bool.false_eq_true, Int.reduceAdd, Int.add_zero] at K
    go_enter Try.func5, Try.ntmps5
    go_wp2_with (first
      | (go_at_call 9; go_must (refine (by9 i p c ad n cap _ (by omega)).mono ?_; rintro e w' ⟨rfl, rfl⟩))
      | (go_at_call 10; go_must (refine (modes_any ad n cap l hn _ h0 hrow).mono ?_; rintro e w1 ⟨ad1, c1, rfl, r1, b1⟩))
      | (go_at_call 11; go_must (refine (K ad1 c1 _ (r1.below ((Below.refl _ _).alloc (Nat.le_refl _) _) (Nat.le_refl _))).mono ?_; rintro e w2 ⟨g, cap2, rfl, c0, c1, c2, c3, c4, c5, b2⟩; have rw2 := hrow.below (bel_mid b1 b2) (Nat.le_refl _))))
    refine wp_loop_rounds 4 ?_
    rw [rounds_succ]
    go_wp2_with (go_at_call 12; go_must (refine (K' _ _ rw2).mono ?_; rintro e w' ⟨rfl, rfl⟩))
    rw [rounds_succ]
    go_wp2_with (go_at_call 12; go_must (refine (K' _ _ rw2).mono ?_; rintro e w' ⟨rfl, rfl⟩))
    rw [rounds_succ]
    go_wp2_with (go_at_call 12; go_must (refine (K' _ _ rw2).mono ?_; rintro e w' ⟨rfl, rfl⟩))
    rw [rounds_succ]
    go_wp2
    go_ret
    exact ⟨rfl, bel_mid b1 b2⟩
end Go.Proofs.Qxb6605560a
