import Derived.Test.Qxb6600527aDoorBulk
import Derived.Test.Qxb6600527aDoorParse
namespace Go.Proofs.Qxb6600527aDoor
open Go.RowKit
set_option linter.unusedVariables false

/-- The N octets at the head of block g are F 0, F 1, .. -/
def Out (w : World) (g N : Nat) (F : Nat → Int) : Prop := g < w.heap.size ∧ ∀ j, j < N → w.cell? ⟨g, j, none⟩ = some (.int .u8 (F j))
theorem Out.below {w w' : World} {g N : Nat} {F : Nat → Int} (h : Out w g N F) (b : Below w.heap.size w w') : Out w' g N F :=
  ⟨Nat.lt_of_lt_of_le h.1 b.size, fun j hj => (b.cell (p := ⟨g, j, none⟩) h.1).trans (h.2 j hj)⟩

set_option maxHeartbeats 1000000 in
theorem top_walk (ad pa : Option Addr) (n cap pc d N : Nat) (F : Nat → Int) (PR : World → Prop) (w : World) (hn : n ≤ 1048576) (hd1 : 1 ≤ d) (hd : d ≤ 8) (hN1 : N ≤ d + n + 5) (hN2 : d + n + 5 ≤ N)
    (K11 : Calls Tryd.prog 11 #[.slice ad n cap] w fun e w' => e = .returned (.slice pa n pc) ∧ Below w.heap.size w w' ∧ PR w')
    (K13 : ∀ w1, Below w.heap.size w w1 → PR w1 → Calls Tryd.prog 13 #[.pointer (some ⟨w1.heap.size, 0, none⟩), .slice pa n pc] (w1.alloc (.cells #[.slice none 0 0] 30)) fun e w' => e = .returned (.tuple #[]) ∧
      ∃ g c, w'.cell? ⟨w1.heap.size, 0, none⟩ = some (.slice (some ⟨g, 0, none⟩) N c) ∧ N ≤ c ∧ Out w' g N F ∧ PR w' ∧ Below w.heap.size w w')
    (K8 : ∀ w1 g c, Out w1 g N F → d ≤ c → Calls Tryd.prog 8 #[.slice (some ⟨g, 1, none⟩) d c] w1 fun e w' => e = .returned (.tuple #[.int .i64 (n : Int), .bool true]) ∧ Below w1.heap.size w1 w' ∧ (PR w1 → PR w'))
    (K15 : ∀ w1 g c, Out w1 g N F → PR w1 → Calls Tryd.prog 15 #[.slice (some ⟨g, d + 3, none⟩) n c, .slice pa n pc] w1 fun e w' => e = .returned (.bool true) ∧ ∃ q, w' = w1.drewN q)
    (f0 : Hid (F 0 = 36)) (f1 : ∀ j, 1 ≤ j → j ≤ d → 48 ≤ F j ∧ F j ≤ 57) (f2 : Hid (F (d + 1) = 13 ∧ F (d + 2) = 10 ∧ F (N - 2) = 13 ∧ F (N - 1) = 10)) :
    Calls Tryd.prog 5 #[.slice ad n cap] w fun e w' => e = .returned (.bool true) ∧ Below w.heap.size w w' := by
  have q0 : decide ((N : Int) < 1) = false := decide_eq_false (by omega)
  have q1 : decide ((1048576 : Int) < (n : Int)) = false := decide_eq_false (by omega)
  go_enter Tryd.func5, Tryd.ntmps5
  go_wp2_with (first
    | (go_at_call 12; go_must (refine (by12 ad n cap _ hn).mono ?_; rintro e w' ⟨rfl, rfl⟩))
    | (go_at_call 11; go_must (refine K11.mono ?_; rintro e w1 ⟨rfl, b1, p1⟩))
    | (go_at_call 13; go_must (refine (K13 w1 b1 p1).mono ?_; rintro e w2 ⟨rfl, g, c, cb, hNc, ho, p2, b2⟩; have o0 := ho.2 0 (by omega); rw [f0.out] at o0))
    | (go_at_call 14; go_in))
  clear K11 K13 q0 q1 o0 cb
  go_loop [5] (fun i => ∃ k : Nat, 1 ≤ k ∧ k ≤ d + 1 ∧ i = .int .i64 k) (fun i => d + 1 - (intOf i).toNat)
  case atStart => exact ⟨1, by omega, by omega, rfl⟩
  case round =>
    obtain ⟨k, hk1, hk2, rfl⟩ := hrel
    have hkN : k < N := by omega
    by_cases hlt : k < d + 1
    · have ck := ho.2 k hkN
      obtain ⟨r1, r2⟩ := f1 k hk1 (by omega)
      obtain ⟨y, hy⟩ : ∃ y, F k = y := ⟨_, rfl⟩
      rw [hy] at ck r1 r2
      clear hy K8 K15
      go_wp2
      go_round
      case rel => exact ⟨k + 1, by omega, by omega, by go_num⟩
      case measure => simp [intOf]; omega
    · have e : k = d + 1 := by omega
      subst e
      obtain ⟨e1, e2, e3, e4⟩ := f2.out
      have c1 := ho.2 (d + 1) (by omega)
      have c2 := ho.2 (d + 2) (by omega)
      have c3 := ho.2 (N - 2) (by omega)
      have c4 := ho.2 (N - 1) (by omega)
      rw [e1] at c1; rw [e2] at c2; rw [e3] at c3; rw [e4] at c4
      clear e1 e2 e3 e4 f1
      go_wp2_with (first
        | (go_at_call 8; go_must (refine (K8 _ g _ ho (by omega)).mono ?_; rintro e w3 ⟨rfl, b3, p3⟩; have ho3 := ho.below b3; have c3' := (b3.cell (p := ⟨g, N - 2, none⟩) ho.1).trans c3; have c4' := (b3.cell (p := ⟨g, N - 1, none⟩) ho.1).trans c4; clear c1 c2 c3 c4))
        | (go_at_call 15; go_must (refine (K15 _ g _ ho3 (p3 p2)).mono ?_; rintro e w4 ⟨rfl, q, rfl⟩)))
      go_ret
      exact ⟨rfl, bel_drewN (b2.trans (b3.mono b2.size)) _⟩

/-! ### The octets -/
def outL (m : Nat) (l : List Int) : List Int := (([36] ++ digs m) ++ [13, 10]) ++ l ++ [13, 10]
theorem outL_cells (m : Nat) (l : List Int) : ints8 (outL m l) = ((([.int .u8 36] ++ Lib.byteCells (Lib.decDigits m)) ++ [.int .u8 13, .int .u8 10]) ++ ints8 l ++ [.int .u8 13, .int .u8 10]) := by
  simp [ints8, outL, digs, Lib.byteCells]
theorem outL_len (m : Nat) (l : List Int) : (outL m l).length = (Lib.decDigits m).length + l.length + 5 := by
  simp [outL, digs_len] <;> omega
def F (m : Nat) (l : List Int) (j : Nat) : Int := (outL m l).getD j 0
theorem F_0 (m : Nat) (l : List Int) : F m l 0 = 36 := rfl
theorem F_dig (m : Nat) (l : List Int) (j : Nat) (hj : j < (Lib.decDigits m).length) : F m l (1 + j) = (digs m).getD j 0 := by
  have h1 : j < (digs m).length := by rw [digs_len]; exact hj
  unfold F outL
  simp only [List.getD_eq_getElem?_getD, List.append_assoc, List.cons_append, List.nil_append]
  rw [Nat.add_comm 1 j, List.getElem?_cons_succ, List.getElem?_append_left h1]
theorem F_body (m : Nat) (l : List Int) (j : Nat) (hj : j < l.length) : F m l ((Lib.decDigits m).length + 3 + j) = l.getD j 0 := by
  unfold F outL
  simp only [List.getD_eq_getElem?_getD]
  rw [List.getElem?_append_left (by simp [digs_len] <;> omega), List.getElem?_append_right (by simp [digs_len] <;> omega)]
  congr 2
  simp [digs_len] <;> omega
theorem F_cr (m : Nat) (l : List Int) : F m l ((Lib.decDigits m).length + 1) = 13 ∧ F m l ((Lib.decDigits m).length + 2) = 10 := by
  constructor
  · unfold F outL
    simp only [List.getD_eq_getElem?_getD]
    rw [List.getElem?_append_left (by simp [digs_len] <;> omega), List.getElem?_append_left (by simp [digs_len]), List.getElem?_append_right (by simp [digs_len] <;> omega)]
    have e : (Lib.decDigits m).length + 1 - ([36] ++ digs m).length = 0 := by simp [digs_len] <;> omega
    rw [e]; rfl
  · unfold F outL
    simp only [List.getD_eq_getElem?_getD]
    rw [List.getElem?_append_left (by simp [digs_len] <;> omega), List.getElem?_append_left (by simp [digs_len] <;> omega), List.getElem?_append_right (by simp [digs_len] <;> omega)]
    have e : (Lib.decDigits m).length + 2 - ([36] ++ digs m).length = 1 := by simp [digs_len] <;> omega
    rw [e]; rfl
theorem F_end (m : Nat) (l : List Int) (N : Nat) (hN : N = (Lib.decDigits m).length + l.length + 5) : F m l (N - 2) = 13 ∧ F m l (N - 1) = 10 := by
  subst hN
  constructor
  · unfold F outL
    simp only [List.getD_eq_getElem?_getD]
    rw [List.getElem?_append_right (by simp [digs_len] <;> omega)]
    have e : (Lib.decDigits m).length + l.length + 5 - 2 - ([36] ++ digs m ++ [13, 10] ++ l).length = 0 := by simp [digs_len] <;> omega
    rw [e]; rfl
  · unfold F outL
    simp only [List.getD_eq_getElem?_getD]
    rw [List.getElem?_append_right (by simp [digs_len] <;> omega)]
    have e : (Lib.decDigits m).length + l.length + 5 - 1 - ([36] ++ digs m ++ [13, 10] ++ l).length = 1 := by simp [digs_len] <;> omega
    rw [e]; rfl

/-- From what the call owns to the octets. -/
theorem out_of_owns {w : World} {B g N c m : Nat} {l : List Int} (h : w.ownsRow B 5 1 (.slice (some ⟨g, 0, none⟩) N c) N (ints8 (outL m l))) : Out w g N (F m l) ∧ N ≤ c := by
  have hl : (outL m l).length = N := by simpa [ints8] using h.1
  refine ⟨⟨(h.lt g rfl).2, fun j hj => ?_⟩, ?_⟩
  · rw [h.cellAt j (by omega)]
    simp [ints8, F, List.getElem?_map, List.getD_eq_getElem?_getD, List.getElem?_eq_getElem (show j < (outL m l).length by omega)]
  · rcases h.2 with ⟨h', _⟩ | ⟨g', cap', cur, h', _, _, hnc, _⟩
    · simp at h'
    · simp only [Value.slice.injEq, Option.some.injEq, Addr.mk.injEq, and_true, true_and] at h'
      obtain ⟨_, rfl⟩ := h'
      exact hnc

/-! ### The contracts put together -/
theorem intK (m : Nat) (hm : m ≤ 1048576) : IntK (m : Int) (Lib.decDigits m) (Lib.decDigits m).length := by
  intro B n sv xs w hown hB hlim hn ht
  have h := appendInt B n (m : Int) (by omega) (by omega) sv xs w hown hB hlim hn ht
  rw [Lib.itoa_nonneg] at h
  exact h
theorem headK (m : Nat) (hm : m ≤ 1048576) : HeadK (m : Int) (Lib.decDigits m) (Lib.decDigits m).length := by
  intro bf w hb ht
  exact header_walk bf (m : Int) _ _ (by have := (dd_len m hm).2; omega) (by omega) (by omega) w hb ht (intK m hm)

theorem fresh_buf (w : World) : IsBuf (w.alloc (.cells #[.slice none 0 0] 30)) w.heap.size (.slice none 0 0) := heap_alloc_new w _

/-- The clone's row. -/
def PRow (c0 n : Nat) (l : List Int) (w : World) : Prop := c0 < w.heap.size ∧ ∀ j, j < n → w.cell? ⟨c0, j, none⟩ = some (.int .u8 (l.getD j 0))
theorem PRow.below {c0 n : Nat} {l : List Int} {w w' : World} {B : Nat} (h : PRow c0 n l w) (b : Below B w w') (hB : c0 < B) : PRow c0 n l w' :=
  ⟨Nat.lt_of_lt_of_le h.1 b.size, fun j hj => (b.cell (p := ⟨c0, j, none⟩) hB).trans (h.2 j hj)⟩
theorem prow_of_owns {w : World} {B g n c : Nat} {l : List Int} (h : w.ownsRow B 5 1 (.slice (some ⟨g, 0, none⟩) n c) n (ints8 l)) : PRow g n l w := by
  have hl : l.length = n := by simpa [ints8] using h.1
  refine ⟨(h.lt g rfl).2, fun j hj => ?_⟩
  rw [h.cellAt j (by omega)]
  simp [ints8, List.getElem?_map, List.getD_eq_getElem?_getD, List.getElem?_eq_getElem (show j < l.length by omega)]

theorem k8 (m : Nat) (hm : m ≤ 1048576) (l : List Int) (N : Nat) (hN : (Lib.decDigits m).length + 5 ≤ N) (w1 : World) (g c : Nat) (ho : Out w1 g N (F m l)) (hc : (Lib.decDigits m).length ≤ c) :
    Calls Tryd.prog 8 #[.slice (some ⟨g, 1, none⟩) (Lib.decDigits m).length c] w1 fun e w' => e = .returned (.tuple #[.int .i64 (m : Int), .bool true]) ∧ Below w1.heap.size w1 w' :=
  parse_any g 1 c m hm w1 ho.1 hc (fun i hi => by rw [ho.2 (1 + i) (by omega), F_dig m l i hi])

theorem f1_dig (m : Nat) (l : List Int) (j : Nat) (h1 : 1 ≤ j) (h2 : j ≤ (Lib.decDigits m).length) : 48 ≤ F m l j ∧ F m l j ≤ 57 := by
  obtain ⟨i, rfl⟩ : ∃ i, j = 1 + i := ⟨j - 1, by omega⟩
  rw [F_dig m l i (by omega)]
  exact digs_range m i (by omega)

/-- THE LAW's WALK, up to 1048576 octets. -/
theorem law_short (ad : Option Addr) (n cap : Nat) (l : List Int) (hn : n ≤ 1048576) (w : World) (h0 : ad = none → n = 0) (h : SRow w ad n l) (ht : Pow w.heap.size w) :
    Calls Tryd.prog 5 #[.slice ad n cap] w fun e w' => e = .returned (.bool true) ∧ Below w.heap.size w w' := by
  have hl := h.1
  have hd := dd_len n hn
  by_cases hnil : ad = none
  · subst hnil
    have hn0 := h0 rfl
    subst hn0
    have hl0 : l = [] := List.length_eq_zero_iff.1 hl
    subst hl0
    refine top_walk none none 0 cap 0 (Lib.decDigits 0).length ((Lib.decDigits 0).length + 0 + 5) (F 0 []) (fun _ => True) w hn hd.1 hd.2 (Nat.le_refl _) (Nat.le_refl _) ?_ ?_ ?_ ?_ (F_0 0 []) (f1_dig 0 []) ⟨(F_cr 0 []).1, (F_cr 0 []).2, F_end 0 [] _ rfl⟩
    · refine (clone_nil 0 cap w).mono ?_
      rintro e w' ⟨rfl, rfl⟩
      exact ⟨rfl, Below.refl _ _, trivial⟩
    · intro w1 b1 _
      have ht1 : Pow w1.heap.size (w1.alloc (.cells #[.slice none 0 0] 30)) := ((ht.on b1).up b1.size).on ((Below.refl _ _).alloc (Nat.le_refl _) _)
      refine (bulk_nil w1.heap.size _ _ (by omega) _ (fresh_buf w1) ht1 (headK 0 hn)).mono ?_
      rintro e w' ⟨rfl, g, c, hbuf, own, bel⟩
      have e1 := outL_cells 0 []
      have own' : w'.ownsRow (w1.alloc (.cells #[.slice none 0 0] 30)).heap.size 5 1 (.slice (some ⟨g, 0, none⟩) (1 + (Lib.decDigits 0).length + 2 + 2) c) (1 + (Lib.decDigits 0).length + 2 + 2) (ints8 (outL 0 [])) := by
        rw [e1]; simpa [ints8] using own
      have eN : 1 + (Lib.decDigits 0).length + 2 + 2 = (Lib.decDigits 0).length + 0 + 5 := by omega
      rw [eN] at own' hbuf
      obtain ⟨ho, hc⟩ := out_of_owns own'
      exact ⟨rfl, g, c, hbuf.facts.1, hc, ho, trivial, (b1.alloc b1.size _).trans (bel.mono b1.size)⟩
    · intro w1 g c ho hc
      refine (k8 0 hn [] _ (by omega) w1 g c ho hc).mono ?_
      rintro e w' ⟨rfl, b⟩
      exact ⟨rfl, b, fun _ => trivial⟩
    · intro w1 g c ho _
      exact eq_zero _ _ _ _ w1
  · refine top_walk ad (some ⟨w.heap.size, 0, none⟩) n cap n (Lib.decDigits n).length ((Lib.decDigits n).length + n + 5) (F n l) (PRow w.heap.size n l) w hn hd.1 hd.2 (Nat.le_refl _) (Nat.le_refl _) ?_ ?_ ?_ ?_ (F_0 n l) (f1_dig n l) ⟨(F_cr n l).1, (F_cr n l).2, F_end n l _ (by rw [hl])⟩
    · refine (clone_addr ad n cap l hn w hnil h).mono ?_
      rintro e w' ⟨rfl, own, bel⟩
      exact ⟨rfl, bel, prow_of_owns own⟩
    · intro w1 b1 p1
      have ht1 : Pow w1.heap.size (w1.alloc (.cells #[.slice none 0 0] 30)) := ((ht.on b1).up b1.size).on ((Below.refl _ _).alloc (Nat.le_refl _) _)
      have bA : Below w1.heap.size w1 (w1.alloc (.cells #[.slice none 0 0] 30)) := (Below.refl _ _).alloc (Nat.le_refl _) _
      have p2 := p1.below bA p1.1
      refine (bulk_some w1.heap.size w.heap.size n _ _ l (by omega) hn _ (fresh_buf w1) ht1 (headK n hn) p1.1 (by simp [ints8, hl]) (fun j u hj => ?_)).mono ?_
      · have hj' : j < l.length := by
          rcases Nat.lt_or_ge j l.length with h' | h'
          · exact h'
          · rw [List.getElem?_eq_none (by simpa [ints8] using h')] at hj; cases hj
        rw [Go.WideShapes.add_plain, Nat.zero_add, p2.2 j (by omega), ← hj]
        simp [ints8, List.getElem?_map, List.getD_eq_getElem?_getD, List.getElem?_eq_getElem hj']
      · rintro e w' ⟨rfl, g, c, hbuf, own, bel⟩
        rw [← outL_cells] at own
        have eN : 1 + (Lib.decDigits n).length + 2 + n + 2 = (Lib.decDigits n).length + n + 5 := by omega
        rw [eN] at own hbuf
        obtain ⟨ho, hc⟩ := out_of_owns own
        exact ⟨rfl, g, c, hbuf.facts.1, hc, ho, p2.below bel p1.1, (b1.alloc b1.size _).trans (bel.mono b1.size)⟩
    · intro w1 g c ho hc
      refine (k8 n hn l _ (by omega) w1 g c ho hc).mono ?_
      rintro e w' ⟨rfl, b⟩
      exact ⟨rfl, b, fun p => p.below b p.1⟩
    · intro w1 g c ho p
      refine eq_pos g _ w.heap.size 0 n c n (fun j => l.getD j 0) hn w1 (fun j hj => ?_) (fun j hj => by rw [Nat.zero_add]; exact p.2 j hj)
      rw [ho.2 _ (by omega), F_body n l j (by omega)]
end Go.Proofs.Qxb6600527aDoor
