import Derived.Test.Qxb6605560aRejSame
namespace Go.Proofs.Qxb6605560a
open Go.RowKit
set_option linter.unusedVariables false

/-- What the walk is told of zzHasMode: it answers 'hb', whatever that is. -/
def HasR (ad : Option Addr) (n cap : Nat) (l : List Int) (hb : Int → Bool) : Prop := ∀ x w0, SRow w0 ad n l → Calls Try.prog 12 #[.slice ad n cap, .int .u8 x] w0 fun e w' => e = .returned (.bool (hb x)) ∧ w' = w0

theorem SRow.drew {w : World} {ad : Option Addr} {n : Nat} {l : List Int} (h : SRow w ad n l) : SRow w.drew ad n l := h

theorem rows_at {w w1 w2 : World} {oA : Obj} {ad ad1 bd : Option Addr} {n m : Nat} {l l' : List Int} (hA : SRow w ad n l) (hB : SRow w bd m l') (r1 : SRow w1 ad1 n l)
    (b1 : Below w.heap.size w w1) (b2 : Below (w1.alloc oA).heap.size (w1.alloc oA) w2) (oB : Obj) : SRow (w2.alloc oB) ad n l ∧ SRow (w2.alloc oB) bd m l' ∧ SRow (w2.alloc oB) ad1 n l ∧ Below w.heap.size w (w2.alloc oB) := by
  have h2 : Below w.heap.size w (w2.alloc oB) := (bel_mid b1 b2).alloc (bel_mid b1 b2).size oB
  have h1 : Below w1.heap.size w1 (w2.alloc oB) := (((Below.refl w1.heap.size w1).alloc (Nat.le_refl _) oA).trans (b2.mono (by simp))).alloc (by have := b2.size; simp at this; omega) oB
  exact ⟨hA.below h2 (Nat.le_refl _), hB.below h2 (Nat.le_refl _), r1.below h1 (Nat.le_refl _), h2⟩

theorem bel_last {w w2 w3 w4 : World} {oB : Obj} {q : Nat} (h : Below w.heap.size w (w2.alloc oB)) (b3 : Below ((w2.alloc oB).drew).heap.size ((w2.alloc oB).drew) w3) (b4 : Below w3.heap.size w3 w4) : Below w.heap.size w (w4.drewN q) := by
  have h1 := h.drew.trans (b3.mono (B' := w.heap.size) h.size)
  have h2 := h1.trans (b4.mono h1.size)
  exact ⟨h2.os, h2.tape, h2.output, h2.size, h2.block⟩

set_option maxHeartbeats 1000000 in
theorem rs_zz (i p c : Int) (ad bd : Option Addr) (n m cn cm : Nat) (l l' : List Int) (n1 n2 : Nat) (r r' : List Int) (ha hb : Int → Bool) (hn : n ≤ 65536) (hm : m ≤ 65536) (w : World)
    (z1 : Hid (ad = none → 0 = 0)) (z2 : Hid (bd = none → 0 = 0)) (hA : SRow w ad 0 l) (hB : SRow w bd 0 l') (hw : Hid (decide (r = r') = true))
    (k1 : r.length = n1) (k2 : r'.length = n2) (k3 : n1 ≤ 1000) (Ka : HasR ad 0 cn l ha) (Kb : HasR bd 0 cm l' hb) (Ra : RejK i p c 0 l n1 r) (Rb : RejK i p c 0 l' n2 r') (t1 : (ha 1 == hb 1) = true) (t2 : (ha 2 == hb 2) = true) (t3 : (ha 3 == hb 3) = true) :
    Calls Try.prog 6 #[.int .u8 i, .int .u8 p, .int .u8 c, .slice ad 0 cn, .slice bd 0 cm] w fun e w' => e = .returned (.bool true) ∧ Below w.heap.size w w' := by
  have tok1 : True := trivial
  have tok2 : True := trivial
  go_enter Try.func6, Try.ntmps6
  go_wp2_with (first
    | (go_at_call 13; go_must (refine (by13 i p c ad bd 0 0 cn cm _ (by omega)).mono ?_; rintro e w' ⟨rfl, rfl⟩))
    | (go_at_call 10; have _t := tok1; clear tok1; go_must (refine (modes_any ad 0 cn l (by omega) _ (fun _ => rfl) hA).mono ?_; rintro e w1 ⟨ad1, c1, rfl, r1, b1⟩))
    | (go_at_call 10; go_must (refine (modes_any bd 0 cm l' (by omega) _ (fun _ => rfl) (hB.below (b1.alloc b1.size _) (Nat.le_refl _))).mono ?_; rintro e w2 ⟨ad2, c2, rfl, r2, b2⟩; have f2 := fun o => b2.cell (p := ⟨w1.heap.size, o, none⟩) (by simp); have s2 : w1.heap.size < w2.heap.size := (by have := b2.size; simp at this; omega))))
  go_at_call 12
  refine (Ka _ _ (rows_at hA hB r1 b1 b2 _).1).mono ?_
  rintro e w' ⟨rfl, rfl⟩
  go_wp2_with (fail)
  go_at_call 12
  refine (Kb _ _ (rows_at hA hB r1 b1 b2 _).2.1).mono ?_
  rintro e w' ⟨rfl, rfl⟩
  go_wp2_with (fail)
  go_at_call 12
  refine (Ka _ _ (rows_at hA hB r1 b1 b2 _).1).mono ?_
  rintro e w' ⟨rfl, rfl⟩
  go_wp2_with (fail)
  go_at_call 12
  refine (Kb _ _ (rows_at hA hB r1 b1 b2 _).2.1).mono ?_
  rintro e w' ⟨rfl, rfl⟩
  go_wp2_with (fail)
  go_at_call 12
  refine (Ka _ _ (rows_at hA hB r1 b1 b2 _).1).mono ?_
  rintro e w' ⟨rfl, rfl⟩
  go_wp2_with (fail)
  go_at_call 12
  refine (Kb _ _ (rows_at hA hB r1 b1 b2 _).2.1).mono ?_
  rintro e w' ⟨rfl, rfl⟩
  go_wp2_with (fail)
  go_region_held3 (fun w' => w'.cell? ⟨w1.heap.size, 0, none⟩ = some (.int .u8 i) ∧ w'.cell? ⟨w1.heap.size, 1, none⟩ = some (.int .u8 p) ∧ w'.cell? ⟨w1.heap.size, 2, none⟩ = some (.int .u8 c) ∧ w'.cell? ⟨w1.heap.size, 3, none⟩ = some (.slice ad1 0 c1) ∧ w'.cell? ⟨w2.heap.size, 0, none⟩ = some (.int .u8 i) ∧ w'.cell? ⟨w2.heap.size, 1, none⟩ = some (.int .u8 p) ∧ w'.cell? ⟨w2.heap.size, 2, none⟩ = some (.int .u8 c) ∧ w'.cell? ⟨w2.heap.size, 3, none⟩ = some (.slice ad2 0 c2)) (go_keep)
    (first
      | (go_at_call 11; have _t := tok2; clear tok2; go_must (refine (Ra ad1 c1 _ (rows_at hA hB r1 b1 b2 _).2.2.1.drew).mono ?_; rintro e w3 ⟨g3, cap3, rfl, q3, b3⟩; have s3 : w2.heap.size < w3.heap.size := (by have := b3.size; simp at this; omega); have f3 := fun o => b3.cell (p := ⟨w1.heap.size, o, none⟩) (by simp; omega); have f3' := fun o => b3.cell (p := ⟨w2.heap.size, o, none⟩) (by simp)))
      | (go_at_call 11; go_must (refine (Rb ad2 c2 _ ((r2.below ((Below.refl _ _).alloc (Nat.le_refl _) _) (Nat.le_refl _)).drew.below b3 (Nat.le_refl _))).mono ?_; rintro e w4 ⟨g4, cap4, rfl, q4, b4⟩; have f4 := fun o => b4.cell (p := ⟨w1.heap.size, o, none⟩) (by dsimp only; omega); have f4' := fun o => b4.cell (p := ⟨w2.heap.size, o, none⟩) (by dsimp only; omega)))
      | (go_at_call 8; go_must (refine (same_any g3 g4 n1 n2 cap3 cap4 r r' k1 k2 k3 _ (k1 ▸ (q3.below b4).2) (k2 ▸ q4.2)).mono ?_; rintro e w5 ⟨rfl, q, rfl⟩)))
  go_wp2
  go_ret
  exact ⟨ret_bool (by simp [hw.out]), bel_last (rows_at hA hB r1 b1 b2 _).2.2.2 b3 b4⟩

set_option maxHeartbeats 1000000 in
theorem rs_zp (i p c : Int) (ad bd : Option Addr) (n m cn cm : Nat) (l l' : List Int) (n1 n2 : Nat) (r r' : List Int) (ha hb : Int → Bool) (hn : n ≤ 65536) (hm : m ≤ 65536) (w : World)
    (z1 : Hid (ad = none → 0 = 0)) (z2 : Hid (bd = none → m = 0)) (hA : SRow w ad 0 l) (hB : SRow w bd m l') (hw : Hid (decide (r = r') = false))
    (k1 : r.length = n1) (k2 : r'.length = n2) (k3 : n1 ≤ 1000) (Ka : HasR ad 0 cn l ha) (Kb : HasR bd m cm l' hb) (Ra : RejK i p c 0 l n1 r) (Rb : RejK i p c m l' n2 r') (hm0 : 0 < m) :
    Calls Try.prog 6 #[.int .u8 i, .int .u8 p, .int .u8 c, .slice ad 0 cn, .slice bd m cm] w fun e w' => e = .returned (.bool true) ∧ Below w.heap.size w w' := by
  have tok1 : True := trivial
  have tok2 : True := trivial
  go_enter Try.func6, Try.ntmps6
  go_wp2_with (first
    | (go_at_call 13; go_must (refine (by13 i p c ad bd 0 m cn cm _ (by omega)).mono ?_; rintro e w' ⟨rfl, rfl⟩))
    | (go_at_call 10; have _t := tok1; clear tok1; go_must (refine (modes_any ad 0 cn l (by omega) _ (fun _ => rfl) hA).mono ?_; rintro e w1 ⟨ad1, c1, rfl, r1, b1⟩))
    | (go_at_call 10; go_must (refine (modes_any bd m cm l' (by omega) _ z2 (hB.below (b1.alloc b1.size _) (Nat.le_refl _))).mono ?_; rintro e w2 ⟨ad2, c2, rfl, r2, b2⟩; have f2 := fun o => b2.cell (p := ⟨w1.heap.size, o, none⟩) (by simp); have s2 : w1.heap.size < w2.heap.size := (by have := b2.size; simp at this; omega))))
  go_region_held3 (fun w' => w'.cell? ⟨w1.heap.size, 0, none⟩ = some (.int .u8 i) ∧ w'.cell? ⟨w1.heap.size, 1, none⟩ = some (.int .u8 p) ∧ w'.cell? ⟨w1.heap.size, 2, none⟩ = some (.int .u8 c) ∧ w'.cell? ⟨w1.heap.size, 3, none⟩ = some (.slice ad1 0 c1) ∧ w'.cell? ⟨w2.heap.size, 0, none⟩ = some (.int .u8 i) ∧ w'.cell? ⟨w2.heap.size, 1, none⟩ = some (.int .u8 p) ∧ w'.cell? ⟨w2.heap.size, 2, none⟩ = some (.int .u8 c) ∧ w'.cell? ⟨w2.heap.size, 3, none⟩ = some (.slice ad2 m c2)) (go_keep)
    (first
      | (go_at_call 11; have _t := tok2; clear tok2; go_must (refine (Ra ad1 c1 _ (rows_at hA hB r1 b1 b2 _).2.2.1.drew).mono ?_; rintro e w3 ⟨g3, cap3, rfl, q3, b3⟩; have s3 : w2.heap.size < w3.heap.size := (by have := b3.size; simp at this; omega); have f3 := fun o => b3.cell (p := ⟨w1.heap.size, o, none⟩) (by simp; omega); have f3' := fun o => b3.cell (p := ⟨w2.heap.size, o, none⟩) (by simp)))
      | (go_at_call 11; go_must (refine (Rb ad2 c2 _ ((r2.below ((Below.refl _ _).alloc (Nat.le_refl _) _) (Nat.le_refl _)).drew.below b3 (Nat.le_refl _))).mono ?_; rintro e w4 ⟨g4, cap4, rfl, q4, b4⟩; have f4 := fun o => b4.cell (p := ⟨w1.heap.size, o, none⟩) (by dsimp only; omega); have f4' := fun o => b4.cell (p := ⟨w2.heap.size, o, none⟩) (by dsimp only; omega)))
      | (go_at_call 8; go_must (refine (same_any g3 g4 n1 n2 cap3 cap4 r r' k1 k2 k3 _ (k1 ▸ (q3.below b4).2) (k2 ▸ q4.2)).mono ?_; rintro e w5 ⟨rfl, q, rfl⟩)))
  go_wp2
  go_ret
  exact ⟨ret_bool (by simp [hw.out]), bel_last (rows_at hA hB r1 b1 b2 _).2.2.2 b3 b4⟩

set_option maxHeartbeats 1000000 in
theorem rs_pz (i p c : Int) (ad bd : Option Addr) (n m cn cm : Nat) (l l' : List Int) (n1 n2 : Nat) (r r' : List Int) (ha hb : Int → Bool) (hn : n ≤ 65536) (hm : m ≤ 65536) (w : World)
    (z1 : Hid (ad = none → n = 0)) (z2 : Hid (bd = none → 0 = 0)) (hA : SRow w ad n l) (hB : SRow w bd 0 l') (hw : Hid (decide (r = r') = false))
    (k1 : r.length = n1) (k2 : r'.length = n2) (k3 : n1 ≤ 1000) (Ka : HasR ad n cn l ha) (Kb : HasR bd 0 cm l' hb) (Ra : RejK i p c n l n1 r) (Rb : RejK i p c 0 l' n2 r') (hn0 : 0 < n) :
    Calls Try.prog 6 #[.int .u8 i, .int .u8 p, .int .u8 c, .slice ad n cn, .slice bd 0 cm] w fun e w' => e = .returned (.bool true) ∧ Below w.heap.size w w' := by
  have tok1 : True := trivial
  have tok2 : True := trivial
  go_enter Try.func6, Try.ntmps6
  go_wp2_with (first
    | (go_at_call 13; go_must (refine (by13 i p c ad bd n 0 cn cm _ (by omega)).mono ?_; rintro e w' ⟨rfl, rfl⟩))
    | (go_at_call 10; have _t := tok1; clear tok1; go_must (refine (modes_any ad n cn l (by omega) _ z1 hA).mono ?_; rintro e w1 ⟨ad1, c1, rfl, r1, b1⟩))
    | (go_at_call 10; go_must (refine (modes_any bd 0 cm l' (by omega) _ (fun _ => rfl) (hB.below (b1.alloc b1.size _) (Nat.le_refl _))).mono ?_; rintro e w2 ⟨ad2, c2, rfl, r2, b2⟩; have f2 := fun o => b2.cell (p := ⟨w1.heap.size, o, none⟩) (by simp); have s2 : w1.heap.size < w2.heap.size := (by have := b2.size; simp at this; omega))))
  go_region_held3 (fun w' => w'.cell? ⟨w1.heap.size, 0, none⟩ = some (.int .u8 i) ∧ w'.cell? ⟨w1.heap.size, 1, none⟩ = some (.int .u8 p) ∧ w'.cell? ⟨w1.heap.size, 2, none⟩ = some (.int .u8 c) ∧ w'.cell? ⟨w1.heap.size, 3, none⟩ = some (.slice ad1 n c1) ∧ w'.cell? ⟨w2.heap.size, 0, none⟩ = some (.int .u8 i) ∧ w'.cell? ⟨w2.heap.size, 1, none⟩ = some (.int .u8 p) ∧ w'.cell? ⟨w2.heap.size, 2, none⟩ = some (.int .u8 c) ∧ w'.cell? ⟨w2.heap.size, 3, none⟩ = some (.slice ad2 0 c2)) (go_keep)
    (first
      | (go_at_call 11; have _t := tok2; clear tok2; go_must (refine (Ra ad1 c1 _ (rows_at hA hB r1 b1 b2 _).2.2.1.drew).mono ?_; rintro e w3 ⟨g3, cap3, rfl, q3, b3⟩; have s3 : w2.heap.size < w3.heap.size := (by have := b3.size; simp at this; omega); have f3 := fun o => b3.cell (p := ⟨w1.heap.size, o, none⟩) (by simp; omega); have f3' := fun o => b3.cell (p := ⟨w2.heap.size, o, none⟩) (by simp)))
      | (go_at_call 11; go_must (refine (Rb ad2 c2 _ ((r2.below ((Below.refl _ _).alloc (Nat.le_refl _) _) (Nat.le_refl _)).drew.below b3 (Nat.le_refl _))).mono ?_; rintro e w4 ⟨g4, cap4, rfl, q4, b4⟩; have f4 := fun o => b4.cell (p := ⟨w1.heap.size, o, none⟩) (by dsimp only; omega); have f4' := fun o => b4.cell (p := ⟨w2.heap.size, o, none⟩) (by dsimp only; omega)))
      | (go_at_call 8; go_must (refine (same_any g3 g4 n1 n2 cap3 cap4 r r' k1 k2 k3 _ (k1 ▸ (q3.below b4).2) (k2 ▸ q4.2)).mono ?_; rintro e w5 ⟨rfl, q, rfl⟩)))
  go_wp2
  go_ret
  exact ⟨ret_bool (by simp [hw.out]), bel_last (rows_at hA hB r1 b1 b2 _).2.2.2 b3 b4⟩

set_option maxHeartbeats 1000000 in
theorem rs_p1 (i p c : Int) (ad bd : Option Addr) (n m cn cm : Nat) (l l' : List Int) (n1 n2 : Nat) (r r' : List Int) (ha hb : Int → Bool) (hn : n ≤ 65536) (hm : m ≤ 65536) (w : World)
    (z1 : Hid (ad = none → n = 0)) (z2 : Hid (bd = none → m = 0)) (hA : SRow w ad n l) (hB : SRow w bd m l') (hw : Hid (decide (r = r') = false))
    (k1 : r.length = n1) (k2 : r'.length = n2) (k3 : n1 ≤ 1000) (Ka : HasR ad n cn l ha) (Kb : HasR bd m cm l' hb) (Ra : RejK i p c n l n1 r) (Rb : RejK i p c m l' n2 r') (hn0 : 0 < n) (hm0 : 0 < m) (t1 : (ha 1 == hb 1) = false) :
    Calls Try.prog 6 #[.int .u8 i, .int .u8 p, .int .u8 c, .slice ad n cn, .slice bd m cm] w fun e w' => e = .returned (.bool true) ∧ Below w.heap.size w w' := by
  have tok1 : True := trivial
  have tok2 : True := trivial
  go_enter Try.func6, Try.ntmps6
  go_wp2_with (first
    | (go_at_call 13; go_must (refine (by13 i p c ad bd n m cn cm _ (by omega)).mono ?_; rintro e w' ⟨rfl, rfl⟩))
    | (go_at_call 10; have _t := tok1; clear tok1; go_must (refine (modes_any ad n cn l (by omega) _ z1 hA).mono ?_; rintro e w1 ⟨ad1, c1, rfl, r1, b1⟩))
    | (go_at_call 10; go_must (refine (modes_any bd m cm l' (by omega) _ z2 (hB.below (b1.alloc b1.size _) (Nat.le_refl _))).mono ?_; rintro e w2 ⟨ad2, c2, rfl, r2, b2⟩; have f2 := fun o => b2.cell (p := ⟨w1.heap.size, o, none⟩) (by simp); have s2 : w1.heap.size < w2.heap.size := (by have := b2.size; simp at this; omega))))
  go_at_call 12
  refine (Ka _ _ (rows_at hA hB r1 b1 b2 _).1).mono ?_
  rintro e w' ⟨rfl, rfl⟩
  go_wp2_with (fail)
  go_at_call 12
  refine (Kb _ _ (rows_at hA hB r1 b1 b2 _).2.1).mono ?_
  rintro e w' ⟨rfl, rfl⟩
  go_wp2_with (fail)
  go_region_held3 (fun w' => w'.cell? ⟨w1.heap.size, 0, none⟩ = some (.int .u8 i) ∧ w'.cell? ⟨w1.heap.size, 1, none⟩ = some (.int .u8 p) ∧ w'.cell? ⟨w1.heap.size, 2, none⟩ = some (.int .u8 c) ∧ w'.cell? ⟨w1.heap.size, 3, none⟩ = some (.slice ad1 n c1) ∧ w'.cell? ⟨w2.heap.size, 0, none⟩ = some (.int .u8 i) ∧ w'.cell? ⟨w2.heap.size, 1, none⟩ = some (.int .u8 p) ∧ w'.cell? ⟨w2.heap.size, 2, none⟩ = some (.int .u8 c) ∧ w'.cell? ⟨w2.heap.size, 3, none⟩ = some (.slice ad2 m c2)) (go_keep)
    (first
      | (go_at_call 11; have _t := tok2; clear tok2; go_must (refine (Ra ad1 c1 _ (rows_at hA hB r1 b1 b2 _).2.2.1.drew).mono ?_; rintro e w3 ⟨g3, cap3, rfl, q3, b3⟩; have s3 : w2.heap.size < w3.heap.size := (by have := b3.size; simp at this; omega); have f3 := fun o => b3.cell (p := ⟨w1.heap.size, o, none⟩) (by simp; omega); have f3' := fun o => b3.cell (p := ⟨w2.heap.size, o, none⟩) (by simp)))
      | (go_at_call 11; go_must (refine (Rb ad2 c2 _ ((r2.below ((Below.refl _ _).alloc (Nat.le_refl _) _) (Nat.le_refl _)).drew.below b3 (Nat.le_refl _))).mono ?_; rintro e w4 ⟨g4, cap4, rfl, q4, b4⟩; have f4 := fun o => b4.cell (p := ⟨w1.heap.size, o, none⟩) (by dsimp only; omega); have f4' := fun o => b4.cell (p := ⟨w2.heap.size, o, none⟩) (by dsimp only; omega)))
      | (go_at_call 8; go_must (refine (same_any g3 g4 n1 n2 cap3 cap4 r r' k1 k2 k3 _ (k1 ▸ (q3.below b4).2) (k2 ▸ q4.2)).mono ?_; rintro e w5 ⟨rfl, q, rfl⟩)))
  go_wp2
  go_ret
  exact ⟨ret_bool (by simp [hw.out]), bel_last (rows_at hA hB r1 b1 b2 _).2.2.2 b3 b4⟩

set_option maxHeartbeats 1000000 in
theorem rs_p2 (i p c : Int) (ad bd : Option Addr) (n m cn cm : Nat) (l l' : List Int) (n1 n2 : Nat) (r r' : List Int) (ha hb : Int → Bool) (hn : n ≤ 65536) (hm : m ≤ 65536) (w : World)
    (z1 : Hid (ad = none → n = 0)) (z2 : Hid (bd = none → m = 0)) (hA : SRow w ad n l) (hB : SRow w bd m l') (hw : Hid (decide (r = r') = false))
    (k1 : r.length = n1) (k2 : r'.length = n2) (k3 : n1 ≤ 1000) (Ka : HasR ad n cn l ha) (Kb : HasR bd m cm l' hb) (Ra : RejK i p c n l n1 r) (Rb : RejK i p c m l' n2 r') (hn0 : 0 < n) (hm0 : 0 < m) (t1 : (ha 1 == hb 1) = true) (t2 : (ha 2 == hb 2) = false) :
    Calls Try.prog 6 #[.int .u8 i, .int .u8 p, .int .u8 c, .slice ad n cn, .slice bd m cm] w fun e w' => e = .returned (.bool true) ∧ Below w.heap.size w w' := by
  have tok1 : True := trivial
  have tok2 : True := trivial
  go_enter Try.func6, Try.ntmps6
  go_wp2_with (first
    | (go_at_call 13; go_must (refine (by13 i p c ad bd n m cn cm _ (by omega)).mono ?_; rintro e w' ⟨rfl, rfl⟩))
    | (go_at_call 10; have _t := tok1; clear tok1; go_must (refine (modes_any ad n cn l (by omega) _ z1 hA).mono ?_; rintro e w1 ⟨ad1, c1, rfl, r1, b1⟩))
    | (go_at_call 10; go_must (refine (modes_any bd m cm l' (by omega) _ z2 (hB.below (b1.alloc b1.size _) (Nat.le_refl _))).mono ?_; rintro e w2 ⟨ad2, c2, rfl, r2, b2⟩; have f2 := fun o => b2.cell (p := ⟨w1.heap.size, o, none⟩) (by simp); have s2 : w1.heap.size < w2.heap.size := (by have := b2.size; simp at this; omega))))
  go_at_call 12
  refine (Ka _ _ (rows_at hA hB r1 b1 b2 _).1).mono ?_
  rintro e w' ⟨rfl, rfl⟩
  go_wp2_with (fail)
  go_at_call 12
  refine (Kb _ _ (rows_at hA hB r1 b1 b2 _).2.1).mono ?_
  rintro e w' ⟨rfl, rfl⟩
  go_wp2_with (fail)
  go_at_call 12
  refine (Ka _ _ (rows_at hA hB r1 b1 b2 _).1).mono ?_
  rintro e w' ⟨rfl, rfl⟩
  go_wp2_with (fail)
  go_at_call 12
  refine (Kb _ _ (rows_at hA hB r1 b1 b2 _).2.1).mono ?_
  rintro e w' ⟨rfl, rfl⟩
  go_wp2_with (fail)
  go_region_held3 (fun w' => w'.cell? ⟨w1.heap.size, 0, none⟩ = some (.int .u8 i) ∧ w'.cell? ⟨w1.heap.size, 1, none⟩ = some (.int .u8 p) ∧ w'.cell? ⟨w1.heap.size, 2, none⟩ = some (.int .u8 c) ∧ w'.cell? ⟨w1.heap.size, 3, none⟩ = some (.slice ad1 n c1) ∧ w'.cell? ⟨w2.heap.size, 0, none⟩ = some (.int .u8 i) ∧ w'.cell? ⟨w2.heap.size, 1, none⟩ = some (.int .u8 p) ∧ w'.cell? ⟨w2.heap.size, 2, none⟩ = some (.int .u8 c) ∧ w'.cell? ⟨w2.heap.size, 3, none⟩ = some (.slice ad2 m c2)) (go_keep)
    (first
      | (go_at_call 11; have _t := tok2; clear tok2; go_must (refine (Ra ad1 c1 _ (rows_at hA hB r1 b1 b2 _).2.2.1.drew).mono ?_; rintro e w3 ⟨g3, cap3, rfl, q3, b3⟩; have s3 : w2.heap.size < w3.heap.size := (by have := b3.size; simp at this; omega); have f3 := fun o => b3.cell (p := ⟨w1.heap.size, o, none⟩) (by simp; omega); have f3' := fun o => b3.cell (p := ⟨w2.heap.size, o, none⟩) (by simp)))
      | (go_at_call 11; go_must (refine (Rb ad2 c2 _ ((r2.below ((Below.refl _ _).alloc (Nat.le_refl _) _) (Nat.le_refl _)).drew.below b3 (Nat.le_refl _))).mono ?_; rintro e w4 ⟨g4, cap4, rfl, q4, b4⟩; have f4 := fun o => b4.cell (p := ⟨w1.heap.size, o, none⟩) (by dsimp only; omega); have f4' := fun o => b4.cell (p := ⟨w2.heap.size, o, none⟩) (by dsimp only; omega)))
      | (go_at_call 8; go_must (refine (same_any g3 g4 n1 n2 cap3 cap4 r r' k1 k2 k3 _ (k1 ▸ (q3.below b4).2) (k2 ▸ q4.2)).mono ?_; rintro e w5 ⟨rfl, q, rfl⟩)))
  go_wp2
  go_ret
  exact ⟨ret_bool (by simp [hw.out]), bel_last (rows_at hA hB r1 b1 b2 _).2.2.2 b3 b4⟩

set_option maxHeartbeats 1000000 in
theorem rs_p3 (i p c : Int) (ad bd : Option Addr) (n m cn cm : Nat) (l l' : List Int) (n1 n2 : Nat) (r r' : List Int) (ha hb : Int → Bool) (hn : n ≤ 65536) (hm : m ≤ 65536) (w : World)
    (z1 : Hid (ad = none → n = 0)) (z2 : Hid (bd = none → m = 0)) (hA : SRow w ad n l) (hB : SRow w bd m l') (hw : Hid (decide (r = r') = false))
    (k1 : r.length = n1) (k2 : r'.length = n2) (k3 : n1 ≤ 1000) (Ka : HasR ad n cn l ha) (Kb : HasR bd m cm l' hb) (Ra : RejK i p c n l n1 r) (Rb : RejK i p c m l' n2 r') (hn0 : 0 < n) (hm0 : 0 < m) (t1 : (ha 1 == hb 1) = true) (t2 : (ha 2 == hb 2) = true) (t3 : (ha 3 == hb 3) = false) :
    Calls Try.prog 6 #[.int .u8 i, .int .u8 p, .int .u8 c, .slice ad n cn, .slice bd m cm] w fun e w' => e = .returned (.bool true) ∧ Below w.heap.size w w' := by
  have tok1 : True := trivial
  have tok2 : True := trivial
  go_enter Try.func6, Try.ntmps6
  go_wp2_with (first
    | (go_at_call 13; go_must (refine (by13 i p c ad bd n m cn cm _ (by omega)).mono ?_; rintro e w' ⟨rfl, rfl⟩))
    | (go_at_call 10; have _t := tok1; clear tok1; go_must (refine (modes_any ad n cn l (by omega) _ z1 hA).mono ?_; rintro e w1 ⟨ad1, c1, rfl, r1, b1⟩))
    | (go_at_call 10; go_must (refine (modes_any bd m cm l' (by omega) _ z2 (hB.below (b1.alloc b1.size _) (Nat.le_refl _))).mono ?_; rintro e w2 ⟨ad2, c2, rfl, r2, b2⟩; have f2 := fun o => b2.cell (p := ⟨w1.heap.size, o, none⟩) (by simp); have s2 : w1.heap.size < w2.heap.size := (by have := b2.size; simp at this; omega))))
  go_at_call 12
  refine (Ka _ _ (rows_at hA hB r1 b1 b2 _).1).mono ?_
  rintro e w' ⟨rfl, rfl⟩
  go_wp2_with (fail)
  go_at_call 12
  refine (Kb _ _ (rows_at hA hB r1 b1 b2 _).2.1).mono ?_
  rintro e w' ⟨rfl, rfl⟩
  go_wp2_with (fail)
  go_at_call 12
  refine (Ka _ _ (rows_at hA hB r1 b1 b2 _).1).mono ?_
  rintro e w' ⟨rfl, rfl⟩
  go_wp2_with (fail)
  go_at_call 12
  refine (Kb _ _ (rows_at hA hB r1 b1 b2 _).2.1).mono ?_
  rintro e w' ⟨rfl, rfl⟩
  go_wp2_with (fail)
  go_at_call 12
  refine (Ka _ _ (rows_at hA hB r1 b1 b2 _).1).mono ?_
  rintro e w' ⟨rfl, rfl⟩
  go_wp2_with (fail)
  go_at_call 12
  refine (Kb _ _ (rows_at hA hB r1 b1 b2 _).2.1).mono ?_
  rintro e w' ⟨rfl, rfl⟩
  go_wp2_with (fail)
  go_region_held3 (fun w' => w'.cell? ⟨w1.heap.size, 0, none⟩ = some (.int .u8 i) ∧ w'.cell? ⟨w1.heap.size, 1, none⟩ = some (.int .u8 p) ∧ w'.cell? ⟨w1.heap.size, 2, none⟩ = some (.int .u8 c) ∧ w'.cell? ⟨w1.heap.size, 3, none⟩ = some (.slice ad1 n c1) ∧ w'.cell? ⟨w2.heap.size, 0, none⟩ = some (.int .u8 i) ∧ w'.cell? ⟨w2.heap.size, 1, none⟩ = some (.int .u8 p) ∧ w'.cell? ⟨w2.heap.size, 2, none⟩ = some (.int .u8 c) ∧ w'.cell? ⟨w2.heap.size, 3, none⟩ = some (.slice ad2 m c2)) (go_keep)
    (first
      | (go_at_call 11; have _t := tok2; clear tok2; go_must (refine (Ra ad1 c1 _ (rows_at hA hB r1 b1 b2 _).2.2.1.drew).mono ?_; rintro e w3 ⟨g3, cap3, rfl, q3, b3⟩; have s3 : w2.heap.size < w3.heap.size := (by have := b3.size; simp at this; omega); have f3 := fun o => b3.cell (p := ⟨w1.heap.size, o, none⟩) (by simp; omega); have f3' := fun o => b3.cell (p := ⟨w2.heap.size, o, none⟩) (by simp)))
      | (go_at_call 11; go_must (refine (Rb ad2 c2 _ ((r2.below ((Below.refl _ _).alloc (Nat.le_refl _) _) (Nat.le_refl _)).drew.below b3 (Nat.le_refl _))).mono ?_; rintro e w4 ⟨g4, cap4, rfl, q4, b4⟩; have f4 := fun o => b4.cell (p := ⟨w1.heap.size, o, none⟩) (by dsimp only; omega); have f4' := fun o => b4.cell (p := ⟨w2.heap.size, o, none⟩) (by dsimp only; omega)))
      | (go_at_call 8; go_must (refine (same_any g3 g4 n1 n2 cap3 cap4 r r' k1 k2 k3 _ (k1 ▸ (q3.below b4).2) (k2 ▸ q4.2)).mono ?_; rintro e w5 ⟨rfl, q, rfl⟩)))
  go_wp2
  go_ret
  exact ⟨ret_bool (by simp [hw.out]), bel_last (rows_at hA hB r1 b1 b2 _).2.2.2 b3 b4⟩

set_option maxHeartbeats 1000000 in
theorem rs_p4 (i p c : Int) (ad bd : Option Addr) (n m cn cm : Nat) (l l' : List Int) (n1 n2 : Nat) (r r' : List Int) (ha hb : Int → Bool) (hn : n ≤ 65536) (hm : m ≤ 65536) (w : World)
    (z1 : Hid (ad = none → n = 0)) (z2 : Hid (bd = none → m = 0)) (hA : SRow w ad n l) (hB : SRow w bd m l') (hw : Hid (decide (r = r') = true))
    (k1 : r.length = n1) (k2 : r'.length = n2) (k3 : n1 ≤ 1000) (Ka : HasR ad n cn l ha) (Kb : HasR bd m cm l' hb) (Ra : RejK i p c n l n1 r) (Rb : RejK i p c m l' n2 r') (hn0 : 0 < n) (hm0 : 0 < m) (t1 : (ha 1 == hb 1) = true) (t2 : (ha 2 == hb 2) = true) (t3 : (ha 3 == hb 3) = true) :
    Calls Try.prog 6 #[.int .u8 i, .int .u8 p, .int .u8 c, .slice ad n cn, .slice bd m cm] w fun e w' => e = .returned (.bool true) ∧ Below w.heap.size w w' := by
  have tok1 : True := trivial
  have tok2 : True := trivial
  go_enter Try.func6, Try.ntmps6
  go_wp2_with (first
    | (go_at_call 13; go_must (refine (by13 i p c ad bd n m cn cm _ (by omega)).mono ?_; rintro e w' ⟨rfl, rfl⟩))
    | (go_at_call 10; have _t := tok1; clear tok1; go_must (refine (modes_any ad n cn l (by omega) _ z1 hA).mono ?_; rintro e w1 ⟨ad1, c1, rfl, r1, b1⟩))
    | (go_at_call 10; go_must (refine (modes_any bd m cm l' (by omega) _ z2 (hB.below (b1.alloc b1.size _) (Nat.le_refl _))).mono ?_; rintro e w2 ⟨ad2, c2, rfl, r2, b2⟩; have f2 := fun o => b2.cell (p := ⟨w1.heap.size, o, none⟩) (by simp); have s2 : w1.heap.size < w2.heap.size := (by have := b2.size; simp at this; omega))))
  go_at_call 12
  refine (Ka _ _ (rows_at hA hB r1 b1 b2 _).1).mono ?_
  rintro e w' ⟨rfl, rfl⟩
  go_wp2_with (fail)
  go_at_call 12
  refine (Kb _ _ (rows_at hA hB r1 b1 b2 _).2.1).mono ?_
  rintro e w' ⟨rfl, rfl⟩
  go_wp2_with (fail)
  go_at_call 12
  refine (Ka _ _ (rows_at hA hB r1 b1 b2 _).1).mono ?_
  rintro e w' ⟨rfl, rfl⟩
  go_wp2_with (fail)
  go_at_call 12
  refine (Kb _ _ (rows_at hA hB r1 b1 b2 _).2.1).mono ?_
  rintro e w' ⟨rfl, rfl⟩
  go_wp2_with (fail)
  go_at_call 12
  refine (Ka _ _ (rows_at hA hB r1 b1 b2 _).1).mono ?_
  rintro e w' ⟨rfl, rfl⟩
  go_wp2_with (fail)
  go_at_call 12
  refine (Kb _ _ (rows_at hA hB r1 b1 b2 _).2.1).mono ?_
  rintro e w' ⟨rfl, rfl⟩
  go_wp2_with (fail)
  go_region_held3 (fun w' => w'.cell? ⟨w1.heap.size, 0, none⟩ = some (.int .u8 i) ∧ w'.cell? ⟨w1.heap.size, 1, none⟩ = some (.int .u8 p) ∧ w'.cell? ⟨w1.heap.size, 2, none⟩ = some (.int .u8 c) ∧ w'.cell? ⟨w1.heap.size, 3, none⟩ = some (.slice ad1 n c1) ∧ w'.cell? ⟨w2.heap.size, 0, none⟩ = some (.int .u8 i) ∧ w'.cell? ⟨w2.heap.size, 1, none⟩ = some (.int .u8 p) ∧ w'.cell? ⟨w2.heap.size, 2, none⟩ = some (.int .u8 c) ∧ w'.cell? ⟨w2.heap.size, 3, none⟩ = some (.slice ad2 m c2)) (go_keep)
    (first
      | (go_at_call 11; have _t := tok2; clear tok2; go_must (refine (Ra ad1 c1 _ (rows_at hA hB r1 b1 b2 _).2.2.1.drew).mono ?_; rintro e w3 ⟨g3, cap3, rfl, q3, b3⟩; have s3 : w2.heap.size < w3.heap.size := (by have := b3.size; simp at this; omega); have f3 := fun o => b3.cell (p := ⟨w1.heap.size, o, none⟩) (by simp; omega); have f3' := fun o => b3.cell (p := ⟨w2.heap.size, o, none⟩) (by simp)))
      | (go_at_call 11; go_must (refine (Rb ad2 c2 _ ((r2.below ((Below.refl _ _).alloc (Nat.le_refl _) _) (Nat.le_refl _)).drew.below b3 (Nat.le_refl _))).mono ?_; rintro e w4 ⟨g4, cap4, rfl, q4, b4⟩; have f4 := fun o => b4.cell (p := ⟨w1.heap.size, o, none⟩) (by dsimp only; omega); have f4' := fun o => b4.cell (p := ⟨w2.heap.size, o, none⟩) (by dsimp only; omega)))
      | (go_at_call 8; go_must (refine (same_any g3 g4 n1 n2 cap3 cap4 r r' k1 k2 k3 _ (k1 ▸ (q3.below b4).2) (k2 ▸ q4.2)).mono ?_; rintro e w5 ⟨rfl, q, rfl⟩)))
  go_wp2
  go_ret
  exact ⟨ret_bool (by simp [hw.out]), bel_last (rows_at hA hB r1 b1 b2 _).2.2.2 b3 b4⟩

end Go.Proofs.Qxb6605560a
