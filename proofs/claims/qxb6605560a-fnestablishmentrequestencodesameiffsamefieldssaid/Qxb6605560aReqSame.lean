import Derived.Test.Qxb6605560aSame
import Derived.Deep.RegionHeld3
namespace Go.Proofs.Qxb6605560a
open Go.RowKit
set_option linter.unusedVariables false

theorem bcell {W w1 : World} (hb : Below W.heap.size W w1) : (∀ b o, b < W.heap.size → w1.cell? ⟨b, o, none⟩ = W.cell? ⟨b, o, none⟩) :=
  fun b o h => hb.cell (p := ⟨b, o, none⟩) h

/-- The row l of octets lies at the head of block g. -/
def Row8 (w : World) (g : Nat) (l : List Int) : Prop := g < w.heap.size ∧ ∀ j, j < l.length → w.cell? ⟨g, j, none⟩ = some (.int .u8 (l.getD j 0))
theorem Row8.below {w w' : World} {g : Nat} {l : List Int} (h : Row8 w g l) (b : Below w.heap.size w w') : Row8 w' g l :=
  ⟨Nat.lt_of_lt_of_le h.1 b.size, fun j hj => (b.cell (p := ⟨g, j, none⟩) h.1).trans (h.2 j hj)⟩

theorem owns_row8 {w : World} {B : Nat} {v : Value} {l : List Int} (hl : 0 < l.length) (h : Owns w B v l) :
    ∃ g cap, v = .slice (some ⟨g, 0, none⟩) l.length cap ∧ Row8 w g l := by
  rcases h.2 with ⟨_, hn⟩ | ⟨g, cap, cur, rfl, hB, hg, hnc, _, hcs, htake⟩
  · omega
  refine ⟨g, cap, rfl, ?_, fun j hj => ?_⟩
  · exact (h.lt g rfl).2
  rw [World.ownsRow.cellAt h j (by omega)]
  simp [ints8, List.getElem?_map, List.getD_eq_getElem?_getD, List.getElem?_eq_getElem hj]

theorem encL_len (a b t s : Int) : 6 ≤ (encL a b t s).length ∧ (encL a b t s).length ≤ 8 := by
  unfold encL tailT tailS; split <;> split <;> simp

theorem encL_iff (a b t s a' b' t' s' : Int) :
    encL a b t s = encL a' b' t' s' ↔ a = a' ∧ b = b' ∧ (t = 0 ↔ t' = 0) ∧ t % 8 = t' % 8 ∧ (s = 0 ↔ s' = 0) ∧ s % 8 = s' % 8 := by
  unfold encL tailT tailS
  by_cases h1 : t = 0 <;> by_cases h2 : t' = 0 <;> by_cases h3 : s = 0 <;> by_cases h4 : s' = 0 <;> simp [h1, h2, h3, h4] <;> omega

/-- What the walk of function 4 comes to, under the names that it takes: 'want' decided ahead. -/
theorem req_want (a b t s a' b' t' s' : Int) :
    decide (encL a b t s = encL a' b' t' s') = ((a == a') && (b == b') && ((t == 0) == (t' == 0)) && (t % 8 == t' % 8) && ((s == 0) == (s' == 0)) && (s % 8 == s' % 8)) := by
  rw [Bool.eq_iff_iff]
  simp only [decide_eq_true_eq, encL_iff, Bool.and_eq_true, beq_iff_eq]
  constructor
  · rintro ⟨h1, h2, h3, h4, h5, h6⟩
    refine ⟨⟨⟨⟨⟨h1, h2⟩, ?_⟩, h4⟩, ?_⟩, h6⟩ <;> rw [Bool.eq_iff_iff] <;> simpa
  · rintro ⟨⟨⟨⟨⟨h1, h2⟩, h3⟩, h4⟩, h5⟩, h6⟩
    rw [Bool.eq_iff_iff] at h3 h5
    exact ⟨h1, h2, by simpa using h3, h4, by simpa using h5, h6⟩

/-- Encode by its contract, as the walk wants it. -/
def EncK (a b t s : Int) (n : Nat) (l : List Int) : Prop := ∀ w0, Calls Try.prog 7 #[.agg #[.int .u8 a, .int .u8 b, .int .u8 t, .int .u8 s]] w0 fun e w' =>
  ∃ g cap, e = .returned (.slice (some ⟨g, 0, none⟩) n cap) ∧ Row8 w' g l ∧ Below w0.heap.size w0 w'
theorem encK (a b t s : Int) (ht0 : 0 ≤ t) (ht : t ≤ 255) (hs0 : 0 ≤ s) (hs : s ≤ 255) : EncK a b t s (encL a b t s).length (encL a b t s) := by
  intro w0
  refine (enc_any a b t s w0 ht0 ht hs0 hs).mono ?_
  rintro e w' ⟨v, rfl, own, bel⟩
  obtain ⟨g, cap, rfl, hr⟩ := owns_row8 (by have := (encL_len a b t s).1; omega) own
  exact ⟨g, cap, rfl, hr, bel⟩

theorem bel_end {w w1 w2 : World} {o1 o2 : Obj} {q : Nat} (b1 : Below (((w.alloc o1).alloc o2).drew).heap.size (((w.alloc o1).alloc o2).drew) w1) (b2 : Below w1.heap.size w1 w2) : Below w.heap.size w (w2.drewN q) := by
  have h1 : Below w.heap.size w (((w.alloc o1).alloc o2).drew) := (((Below.refl _ _).alloc (Nat.le_refl _) _).alloc (by simp) _).drew
  have h2 := h1.trans (b1.mono (B' := w.heap.size) (by simp <;> omega))
  have h3 := h2.trans (b2.mono h2.size)
  exact ⟨h3.os, h3.tape, h3.output, h3.size, h3.block⟩

set_option maxHeartbeats 1000000 in
theorem same_0 (i1 p1 t1 s1 i2 p2 t2 s2 : Int) (n1 n2 : Nat) (l1 l2 : List Int) (h1 : l1.length = n1) (h2 : l2.length = n2) (hn : n1 ≤ 1000) (w : World)
    (bt1 : 0 ≤ t1 ∧ t1 ≤ 255) (bs1 : 0 ≤ s1 ∧ s1 ≤ 255) (bt2 : 0 ≤ t2 ∧ t2 ≤ 255) (bs2 : 0 ≤ s2 ∧ s2 ≤ 255)
    (hw : Hid (decide (l1 = l2) = false)) (e1 : (i1 == i2) = false)
    (K1 : EncK i1 p1 t1 s1 n1 l1) (K2 : EncK i2 p2 t2 s2 n2 l2) :
    Calls Try.prog 4 #[.int .u8 i1, .int .u8 p1, .int .u8 t1, .int .u8 s1, .int .u8 i2, .int .u8 p2, .int .u8 t2, .int .u8 s2] w fun e w' => e = .returned (.bool true) ∧ Below w.heap.size w w' := by
  obtain ⟨bt1, bt1'⟩ := bt1; obtain ⟨bt2, bt2'⟩ := bt2; obtain ⟨bs1, bs1'⟩ := bs1; obtain ⟨bs2, bs2'⟩ := bs2
  have tok1 : True := trivial
  go_enter Try.func4, Try.ntmps4
  go_wp2
  go_region_held3 (fun w' => w'.cell? ⟨w.heap.size, 0, none⟩ = some (.int .u8 i1) ∧ w'.cell? ⟨w.heap.size, 1, none⟩ = some (.int .u8 p1) ∧ w'.cell? ⟨w.heap.size, 2, none⟩ = some (.int .u8 t1) ∧ w'.cell? ⟨w.heap.size, 3, none⟩ = some (.int .u8 s1) ∧ w'.cell? ⟨w.heap.size + 1, 0, none⟩ = some (.int .u8 i2) ∧ w'.cell? ⟨w.heap.size + 1, 1, none⟩ = some (.int .u8 p2) ∧ w'.cell? ⟨w.heap.size + 1, 2, none⟩ = some (.int .u8 t2) ∧ w'.cell? ⟨w.heap.size + 1, 3, none⟩ = some (.int .u8 s2)) (go_keep)
    (first
      | (go_at_call 7; have _t := tok1; clear tok1; go_must (refine (K1 _).mono ?_; rintro e w1 ⟨g1, cap1, rfl, r1, b1⟩; have z1 : w.heap.size + 2 ≤ w1.heap.size := (by have := b1.size; simp at this; omega); have q1 := fun o => b1.cell (p := ⟨w.heap.size, o, none⟩) (by simp <;> omega); have q1' := fun o => b1.cell (p := ⟨w.heap.size + 1, o, none⟩) (by simp)))
      | (go_at_call 7; go_must (refine (K2 _).mono ?_; rintro e w2 ⟨g2, cap2, rfl, r2, b2⟩; have q2 := fun o => b2.cell (p := ⟨w.heap.size, o, none⟩) (by dsimp only; omega); have q2' := fun o => b2.cell (p := ⟨w.heap.size + 1, o, none⟩) (by dsimp only; omega)))
      | (go_at_call 8; go_must (refine (same_any g1 g2 n1 n2 cap1 cap2 l1 l2 h1 h2 hn _ (h1 ▸ (r1.below b2).2) (h2 ▸ r2.2)).mono ?_; rintro e w3 ⟨rfl, q, rfl⟩)))
  go_wp2
  go_ret
  exact ⟨ret_bool (by simp [hw.out]), bel_end b1 b2⟩

set_option maxHeartbeats 1000000 in
theorem same_1 (i1 p1 t1 s1 i2 p2 t2 s2 : Int) (n1 n2 : Nat) (l1 l2 : List Int) (h1 : l1.length = n1) (h2 : l2.length = n2) (hn : n1 ≤ 1000) (w : World)
    (bt1 : 0 ≤ t1 ∧ t1 ≤ 255) (bs1 : 0 ≤ s1 ∧ s1 ≤ 255) (bt2 : 0 ≤ t2 ∧ t2 ≤ 255) (bs2 : 0 ≤ s2 ∧ s2 ≤ 255)
    (hw : Hid (decide (l1 = l2) = false)) (e1 : (i1 == i2) = true) (e2 : (p1 == p2) = false)
    (K1 : EncK i1 p1 t1 s1 n1 l1) (K2 : EncK i2 p2 t2 s2 n2 l2) :
    Calls Try.prog 4 #[.int .u8 i1, .int .u8 p1, .int .u8 t1, .int .u8 s1, .int .u8 i2, .int .u8 p2, .int .u8 t2, .int .u8 s2] w fun e w' => e = .returned (.bool true) ∧ Below w.heap.size w w' := by
  obtain ⟨bt1, bt1'⟩ := bt1; obtain ⟨bt2, bt2'⟩ := bt2; obtain ⟨bs1, bs1'⟩ := bs1; obtain ⟨bs2, bs2'⟩ := bs2
  have tok1 : True := trivial
  go_enter Try.func4, Try.ntmps4
  go_wp2
  go_region_held3 (fun w' => w'.cell? ⟨w.heap.size, 0, none⟩ = some (.int .u8 i1) ∧ w'.cell? ⟨w.heap.size, 1, none⟩ = some (.int .u8 p1) ∧ w'.cell? ⟨w.heap.size, 2, none⟩ = some (.int .u8 t1) ∧ w'.cell? ⟨w.heap.size, 3, none⟩ = some (.int .u8 s1) ∧ w'.cell? ⟨w.heap.size + 1, 0, none⟩ = some (.int .u8 i2) ∧ w'.cell? ⟨w.heap.size + 1, 1, none⟩ = some (.int .u8 p2) ∧ w'.cell? ⟨w.heap.size + 1, 2, none⟩ = some (.int .u8 t2) ∧ w'.cell? ⟨w.heap.size + 1, 3, none⟩ = some (.int .u8 s2)) (go_keep)
    (first
      | (go_at_call 7; have _t := tok1; clear tok1; go_must (refine (K1 _).mono ?_; rintro e w1 ⟨g1, cap1, rfl, r1, b1⟩; have z1 : w.heap.size + 2 ≤ w1.heap.size := (by have := b1.size; simp at this; omega); have q1 := fun o => b1.cell (p := ⟨w.heap.size, o, none⟩) (by simp <;> omega); have q1' := fun o => b1.cell (p := ⟨w.heap.size + 1, o, none⟩) (by simp)))
      | (go_at_call 7; go_must (refine (K2 _).mono ?_; rintro e w2 ⟨g2, cap2, rfl, r2, b2⟩; have q2 := fun o => b2.cell (p := ⟨w.heap.size, o, none⟩) (by dsimp only; omega); have q2' := fun o => b2.cell (p := ⟨w.heap.size + 1, o, none⟩) (by dsimp only; omega)))
      | (go_at_call 8; go_must (refine (same_any g1 g2 n1 n2 cap1 cap2 l1 l2 h1 h2 hn _ (h1 ▸ (r1.below b2).2) (h2 ▸ r2.2)).mono ?_; rintro e w3 ⟨rfl, q, rfl⟩)))
  go_wp2
  go_ret
  exact ⟨ret_bool (by simp [hw.out]), bel_end b1 b2⟩

set_option maxHeartbeats 1000000 in
theorem same_2 (i1 p1 t1 s1 i2 p2 t2 s2 : Int) (n1 n2 : Nat) (l1 l2 : List Int) (h1 : l1.length = n1) (h2 : l2.length = n2) (hn : n1 ≤ 1000) (w : World)
    (bt1 : 0 ≤ t1 ∧ t1 ≤ 255) (bs1 : 0 ≤ s1 ∧ s1 ≤ 255) (bt2 : 0 ≤ t2 ∧ t2 ≤ 255) (bs2 : 0 ≤ s2 ∧ s2 ≤ 255)
    (hw : Hid (decide (l1 = l2) = false)) (e1 : (i1 == i2) = true) (e2 : (p1 == p2) = true) (e3 : ((t1 == 0) == (t2 == 0)) = false)
    (K1 : EncK i1 p1 t1 s1 n1 l1) (K2 : EncK i2 p2 t2 s2 n2 l2) :
    Calls Try.prog 4 #[.int .u8 i1, .int .u8 p1, .int .u8 t1, .int .u8 s1, .int .u8 i2, .int .u8 p2, .int .u8 t2, .int .u8 s2] w fun e w' => e = .returned (.bool true) ∧ Below w.heap.size w w' := by
  obtain ⟨bt1, bt1'⟩ := bt1; obtain ⟨bt2, bt2'⟩ := bt2; obtain ⟨bs1, bs1'⟩ := bs1; obtain ⟨bs2, bs2'⟩ := bs2
  have tok1 : True := trivial
  go_enter Try.func4, Try.ntmps4
  go_wp2
  go_region_held3 (fun w' => w'.cell? ⟨w.heap.size, 0, none⟩ = some (.int .u8 i1) ∧ w'.cell? ⟨w.heap.size, 1, none⟩ = some (.int .u8 p1) ∧ w'.cell? ⟨w.heap.size, 2, none⟩ = some (.int .u8 t1) ∧ w'.cell? ⟨w.heap.size, 3, none⟩ = some (.int .u8 s1) ∧ w'.cell? ⟨w.heap.size + 1, 0, none⟩ = some (.int .u8 i2) ∧ w'.cell? ⟨w.heap.size + 1, 1, none⟩ = some (.int .u8 p2) ∧ w'.cell? ⟨w.heap.size + 1, 2, none⟩ = some (.int .u8 t2) ∧ w'.cell? ⟨w.heap.size + 1, 3, none⟩ = some (.int .u8 s2)) (go_keep)
    (first
      | (go_at_call 7; have _t := tok1; clear tok1; go_must (refine (K1 _).mono ?_; rintro e w1 ⟨g1, cap1, rfl, r1, b1⟩; have z1 : w.heap.size + 2 ≤ w1.heap.size := (by have := b1.size; simp at this; omega); have q1 := fun o => b1.cell (p := ⟨w.heap.size, o, none⟩) (by simp <;> omega); have q1' := fun o => b1.cell (p := ⟨w.heap.size + 1, o, none⟩) (by simp)))
      | (go_at_call 7; go_must (refine (K2 _).mono ?_; rintro e w2 ⟨g2, cap2, rfl, r2, b2⟩; have q2 := fun o => b2.cell (p := ⟨w.heap.size, o, none⟩) (by dsimp only; omega); have q2' := fun o => b2.cell (p := ⟨w.heap.size + 1, o, none⟩) (by dsimp only; omega)))
      | (go_at_call 8; go_must (refine (same_any g1 g2 n1 n2 cap1 cap2 l1 l2 h1 h2 hn _ (h1 ▸ (r1.below b2).2) (h2 ▸ r2.2)).mono ?_; rintro e w3 ⟨rfl, q, rfl⟩)))
  go_wp2
  go_ret
  exact ⟨ret_bool (by simp [hw.out]), bel_end b1 b2⟩

set_option maxHeartbeats 1000000 in
theorem same_3 (i1 p1 t1 s1 i2 p2 t2 s2 : Int) (n1 n2 : Nat) (l1 l2 : List Int) (h1 : l1.length = n1) (h2 : l2.length = n2) (hn : n1 ≤ 1000) (w : World)
    (bt1 : 0 ≤ t1 ∧ t1 ≤ 255) (bs1 : 0 ≤ s1 ∧ s1 ≤ 255) (bt2 : 0 ≤ t2 ∧ t2 ≤ 255) (bs2 : 0 ≤ s2 ∧ s2 ≤ 255)
    (hw : Hid (decide (l1 = l2) = false)) (e1 : (i1 == i2) = true) (e2 : (p1 == p2) = true) (e3 : ((t1 == 0) == (t2 == 0)) = true) (e4 : (t1 % 8 == t2 % 8) = false)
    (K1 : EncK i1 p1 t1 s1 n1 l1) (K2 : EncK i2 p2 t2 s2 n2 l2) :
    Calls Try.prog 4 #[.int .u8 i1, .int .u8 p1, .int .u8 t1, .int .u8 s1, .int .u8 i2, .int .u8 p2, .int .u8 t2, .int .u8 s2] w fun e w' => e = .returned (.bool true) ∧ Below w.heap.size w w' := by
  obtain ⟨bt1, bt1'⟩ := bt1; obtain ⟨bt2, bt2'⟩ := bt2; obtain ⟨bs1, bs1'⟩ := bs1; obtain ⟨bs2, bs2'⟩ := bs2
  have tok1 : True := trivial
  go_enter Try.func4, Try.ntmps4
  go_wp2
  go_region_held3 (fun w' => w'.cell? ⟨w.heap.size, 0, none⟩ = some (.int .u8 i1) ∧ w'.cell? ⟨w.heap.size, 1, none⟩ = some (.int .u8 p1) ∧ w'.cell? ⟨w.heap.size, 2, none⟩ = some (.int .u8 t1) ∧ w'.cell? ⟨w.heap.size, 3, none⟩ = some (.int .u8 s1) ∧ w'.cell? ⟨w.heap.size + 1, 0, none⟩ = some (.int .u8 i2) ∧ w'.cell? ⟨w.heap.size + 1, 1, none⟩ = some (.int .u8 p2) ∧ w'.cell? ⟨w.heap.size + 1, 2, none⟩ = some (.int .u8 t2) ∧ w'.cell? ⟨w.heap.size + 1, 3, none⟩ = some (.int .u8 s2)) (go_keep)
    (first
      | (go_at_call 7; have _t := tok1; clear tok1; go_must (refine (K1 _).mono ?_; rintro e w1 ⟨g1, cap1, rfl, r1, b1⟩; have z1 : w.heap.size + 2 ≤ w1.heap.size := (by have := b1.size; simp at this; omega); have q1 := fun o => b1.cell (p := ⟨w.heap.size, o, none⟩) (by simp <;> omega); have q1' := fun o => b1.cell (p := ⟨w.heap.size + 1, o, none⟩) (by simp)))
      | (go_at_call 7; go_must (refine (K2 _).mono ?_; rintro e w2 ⟨g2, cap2, rfl, r2, b2⟩; have q2 := fun o => b2.cell (p := ⟨w.heap.size, o, none⟩) (by dsimp only; omega); have q2' := fun o => b2.cell (p := ⟨w.heap.size + 1, o, none⟩) (by dsimp only; omega)))
      | (go_at_call 8; go_must (refine (same_any g1 g2 n1 n2 cap1 cap2 l1 l2 h1 h2 hn _ (h1 ▸ (r1.below b2).2) (h2 ▸ r2.2)).mono ?_; rintro e w3 ⟨rfl, q, rfl⟩)))
  go_wp2
  go_ret
  exact ⟨ret_bool (by simp [hw.out]), bel_end b1 b2⟩

set_option maxHeartbeats 1000000 in
theorem same_4 (i1 p1 t1 s1 i2 p2 t2 s2 : Int) (n1 n2 : Nat) (l1 l2 : List Int) (h1 : l1.length = n1) (h2 : l2.length = n2) (hn : n1 ≤ 1000) (w : World)
    (bt1 : 0 ≤ t1 ∧ t1 ≤ 255) (bs1 : 0 ≤ s1 ∧ s1 ≤ 255) (bt2 : 0 ≤ t2 ∧ t2 ≤ 255) (bs2 : 0 ≤ s2 ∧ s2 ≤ 255)
    (hw : Hid (decide (l1 = l2) = false)) (e1 : (i1 == i2) = true) (e2 : (p1 == p2) = true) (e3 : ((t1 == 0) == (t2 == 0)) = true) (e4 : (t1 % 8 == t2 % 8) = true) (e5 : ((s1 == 0) == (s2 == 0)) = false)
    (K1 : EncK i1 p1 t1 s1 n1 l1) (K2 : EncK i2 p2 t2 s2 n2 l2) :
    Calls Try.prog 4 #[.int .u8 i1, .int .u8 p1, .int .u8 t1, .int .u8 s1, .int .u8 i2, .int .u8 p2, .int .u8 t2, .int .u8 s2] w fun e w' => e = .returned (.bool true) ∧ Below w.heap.size w w' := by
  obtain ⟨bt1, bt1'⟩ := bt1; obtain ⟨bt2, bt2'⟩ := bt2; obtain ⟨bs1, bs1'⟩ := bs1; obtain ⟨bs2, bs2'⟩ := bs2
  have tok1 : True := trivial
  go_enter Try.func4, Try.ntmps4
  go_wp2
  go_region_held3 (fun w' => w'.cell? ⟨w.heap.size, 0, none⟩ = some (.int .u8 i1) ∧ w'.cell? ⟨w.heap.size, 1, none⟩ = some (.int .u8 p1) ∧ w'.cell? ⟨w.heap.size, 2, none⟩ = some (.int .u8 t1) ∧ w'.cell? ⟨w.heap.size, 3, none⟩ = some (.int .u8 s1) ∧ w'.cell? ⟨w.heap.size + 1, 0, none⟩ = some (.int .u8 i2) ∧ w'.cell? ⟨w.heap.size + 1, 1, none⟩ = some (.int .u8 p2) ∧ w'.cell? ⟨w.heap.size + 1, 2, none⟩ = some (.int .u8 t2) ∧ w'.cell? ⟨w.heap.size + 1, 3, none⟩ = some (.int .u8 s2)) (go_keep)
    (first
      | (go_at_call 7; have _t := tok1; clear tok1; go_must (refine (K1 _).mono ?_; rintro e w1 ⟨g1, cap1, rfl, r1, b1⟩; have z1 : w.heap.size + 2 ≤ w1.heap.size := (by have := b1.size; simp at this; omega); have q1 := fun o => b1.cell (p := ⟨w.heap.size, o, none⟩) (by simp <;> omega); have q1' := fun o => b1.cell (p := ⟨w.heap.size + 1, o, none⟩) (by simp)))
      | (go_at_call 7; go_must (refine (K2 _).mono ?_; rintro e w2 ⟨g2, cap2, rfl, r2, b2⟩; have q2 := fun o => b2.cell (p := ⟨w.heap.size, o, none⟩) (by dsimp only; omega); have q2' := fun o => b2.cell (p := ⟨w.heap.size + 1, o, none⟩) (by dsimp only; omega)))
      | (go_at_call 8; go_must (refine (same_any g1 g2 n1 n2 cap1 cap2 l1 l2 h1 h2 hn _ (h1 ▸ (r1.below b2).2) (h2 ▸ r2.2)).mono ?_; rintro e w3 ⟨rfl, q, rfl⟩)))
  go_wp2
  go_ret
  exact ⟨ret_bool (by simp [hw.out]), bel_end b1 b2⟩

set_option maxHeartbeats 1000000 in
theorem same_5 (i1 p1 t1 s1 i2 p2 t2 s2 : Int) (n1 n2 : Nat) (l1 l2 : List Int) (h1 : l1.length = n1) (h2 : l2.length = n2) (hn : n1 ≤ 1000) (w : World)
    (bt1 : 0 ≤ t1 ∧ t1 ≤ 255) (bs1 : 0 ≤ s1 ∧ s1 ≤ 255) (bt2 : 0 ≤ t2 ∧ t2 ≤ 255) (bs2 : 0 ≤ s2 ∧ s2 ≤ 255)
    (hw : Hid (decide (l1 = l2) = false)) (e1 : (i1 == i2) = true) (e2 : (p1 == p2) = true) (e3 : ((t1 == 0) == (t2 == 0)) = true) (e4 : (t1 % 8 == t2 % 8) = true) (e5 : ((s1 == 0) == (s2 == 0)) = true) (e6 : (s1 % 8 == s2 % 8) = false)
    (K1 : EncK i1 p1 t1 s1 n1 l1) (K2 : EncK i2 p2 t2 s2 n2 l2) :
    Calls Try.prog 4 #[.int .u8 i1, .int .u8 p1, .int .u8 t1, .int .u8 s1, .int .u8 i2, .int .u8 p2, .int .u8 t2, .int .u8 s2] w fun e w' => e = .returned (.bool true) ∧ Below w.heap.size w w' := by
  obtain ⟨bt1, bt1'⟩ := bt1; obtain ⟨bt2, bt2'⟩ := bt2; obtain ⟨bs1, bs1'⟩ := bs1; obtain ⟨bs2, bs2'⟩ := bs2
  have tok1 : True := trivial
  go_enter Try.func4, Try.ntmps4
  go_wp2
  go_region_held3 (fun w' => w'.cell? ⟨w.heap.size, 0, none⟩ = some (.int .u8 i1) ∧ w'.cell? ⟨w.heap.size, 1, none⟩ = some (.int .u8 p1) ∧ w'.cell? ⟨w.heap.size, 2, none⟩ = some (.int .u8 t1) ∧ w'.cell? ⟨w.heap.size, 3, none⟩ = some (.int .u8 s1) ∧ w'.cell? ⟨w.heap.size + 1, 0, none⟩ = some (.int .u8 i2) ∧ w'.cell? ⟨w.heap.size + 1, 1, none⟩ = some (.int .u8 p2) ∧ w'.cell? ⟨w.heap.size + 1, 2, none⟩ = some (.int .u8 t2) ∧ w'.cell? ⟨w.heap.size + 1, 3, none⟩ = some (.int .u8 s2)) (go_keep)
    (first
      | (go_at_call 7; have _t := tok1; clear tok1; go_must (refine (K1 _).mono ?_; rintro e w1 ⟨g1, cap1, rfl, r1, b1⟩; have z1 : w.heap.size + 2 ≤ w1.heap.size := (by have := b1.size; simp at this; omega); have q1 := fun o => b1.cell (p := ⟨w.heap.size, o, none⟩) (by simp <;> omega); have q1' := fun o => b1.cell (p := ⟨w.heap.size + 1, o, none⟩) (by simp)))
      | (go_at_call 7; go_must (refine (K2 _).mono ?_; rintro e w2 ⟨g2, cap2, rfl, r2, b2⟩; have q2 := fun o => b2.cell (p := ⟨w.heap.size, o, none⟩) (by dsimp only; omega); have q2' := fun o => b2.cell (p := ⟨w.heap.size + 1, o, none⟩) (by dsimp only; omega)))
      | (go_at_call 8; go_must (refine (same_any g1 g2 n1 n2 cap1 cap2 l1 l2 h1 h2 hn _ (h1 ▸ (r1.below b2).2) (h2 ▸ r2.2)).mono ?_; rintro e w3 ⟨rfl, q, rfl⟩)))
  go_wp2
  go_ret
  exact ⟨ret_bool (by simp [hw.out]), bel_end b1 b2⟩

set_option maxHeartbeats 1000000 in
theorem same_6 (i1 p1 t1 s1 i2 p2 t2 s2 : Int) (n1 n2 : Nat) (l1 l2 : List Int) (h1 : l1.length = n1) (h2 : l2.length = n2) (hn : n1 ≤ 1000) (w : World)
    (bt1 : 0 ≤ t1 ∧ t1 ≤ 255) (bs1 : 0 ≤ s1 ∧ s1 ≤ 255) (bt2 : 0 ≤ t2 ∧ t2 ≤ 255) (bs2 : 0 ≤ s2 ∧ s2 ≤ 255)
    (hw : Hid (decide (l1 = l2) = true)) (e1 : (i1 == i2) = true) (e2 : (p1 == p2) = true) (e3 : ((t1 == 0) == (t2 == 0)) = true) (e4 : (t1 % 8 == t2 % 8) = true) (e5 : ((s1 == 0) == (s2 == 0)) = true) (e6 : (s1 % 8 == s2 % 8) = true)
    (K1 : EncK i1 p1 t1 s1 n1 l1) (K2 : EncK i2 p2 t2 s2 n2 l2) :
    Calls Try.prog 4 #[.int .u8 i1, .int .u8 p1, .int .u8 t1, .int .u8 s1, .int .u8 i2, .int .u8 p2, .int .u8 t2, .int .u8 s2] w fun e w' => e = .returned (.bool true) ∧ Below w.heap.size w w' := by
  obtain ⟨bt1, bt1'⟩ := bt1; obtain ⟨bt2, bt2'⟩ := bt2; obtain ⟨bs1, bs1'⟩ := bs1; obtain ⟨bs2, bs2'⟩ := bs2
  have tok1 : True := trivial
  go_enter Try.func4, Try.ntmps4
  go_wp2
  go_region_held3 (fun w' => w'.cell? ⟨w.heap.size, 0, none⟩ = some (.int .u8 i1) ∧ w'.cell? ⟨w.heap.size, 1, none⟩ = some (.int .u8 p1) ∧ w'.cell? ⟨w.heap.size, 2, none⟩ = some (.int .u8 t1) ∧ w'.cell? ⟨w.heap.size, 3, none⟩ = some (.int .u8 s1) ∧ w'.cell? ⟨w.heap.size + 1, 0, none⟩ = some (.int .u8 i2) ∧ w'.cell? ⟨w.heap.size + 1, 1, none⟩ = some (.int .u8 p2) ∧ w'.cell? ⟨w.heap.size + 1, 2, none⟩ = some (.int .u8 t2) ∧ w'.cell? ⟨w.heap.size + 1, 3, none⟩ = some (.int .u8 s2)) (go_keep)
    (first
      | (go_at_call 7; have _t := tok1; clear tok1; go_must (refine (K1 _).mono ?_; rintro e w1 ⟨g1, cap1, rfl, r1, b1⟩; have z1 : w.heap.size + 2 ≤ w1.heap.size := (by have := b1.size; simp at this; omega); have q1 := fun o => b1.cell (p := ⟨w.heap.size, o, none⟩) (by simp <;> omega); have q1' := fun o => b1.cell (p := ⟨w.heap.size + 1, o, none⟩) (by simp)))
      | (go_at_call 7; go_must (refine (K2 _).mono ?_; rintro e w2 ⟨g2, cap2, rfl, r2, b2⟩; have q2 := fun o => b2.cell (p := ⟨w.heap.size, o, none⟩) (by dsimp only; omega); have q2' := fun o => b2.cell (p := ⟨w.heap.size + 1, o, none⟩) (by dsimp only; omega)))
      | (go_at_call 8; go_must (refine (same_any g1 g2 n1 n2 cap1 cap2 l1 l2 h1 h2 hn _ (h1 ▸ (r1.below b2).2) (h2 ▸ r2.2)).mono ?_; rintro e w3 ⟨rfl, q, rfl⟩)))
  go_wp2
  go_ret
  exact ⟨ret_bool (by simp [hw.out]), bel_end b1 b2⟩

end Go.Proofs.Qxb6605560a
