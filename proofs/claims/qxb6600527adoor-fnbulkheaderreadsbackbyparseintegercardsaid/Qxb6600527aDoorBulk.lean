import Derived.Test.Qxb6600527aDoorBuf
namespace Go.Proofs.Qxb6600527aDoor
open Go.RowKit
set_option linter.unusedVariables false

/-- What the walk of Bulk is told of header. -/
def HeadK (m : Int) (L : List UInt8) (d : Nat) : Prop := ∀ (bf : Nat) (w : World), IsBuf w bf (.slice none 0 0) → Pow bf w →
    Calls Tryd.prog 23 #[.pointer (some ⟨bf, 0, none⟩), .int .u8 36, .int .i64 m] w fun e w' => e = .returned (.tuple #[]) ∧ ∃ g cap, IsBuf w' bf (.slice (some ⟨g, 0, none⟩) (1 + d + 2) cap) ∧
      w'.ownsRow w.heap.size 5 1 (.slice (some ⟨g, 0, none⟩) (1 + d + 2) cap) (1 + d + 2) (([.int .u8 36] ++ Lib.byteCells L) ++ [.int .u8 13, .int .u8 10]) ∧ Below bf w w'

set_option maxHeartbeats 400000 in
theorem bulk_some (bf c0 m : Nat) (L : List UInt8) (d : Nat) (l : List Int) (hd : d ≤ 20) (hm : m ≤ 1048576) (w : World) (hb : IsBuf w bf (.slice none 0 0)) (htab : Pow bf w) (K : HeadK (m : Int) L d)
    (hc0 : c0 < bf) (hl : (ints8 l).length = m * 1) (hcell : ∀ j u, (ints8 l)[j]? = some u → w.cell? ((⟨c0, 0, none⟩ : Addr).add j) = some u) :
    Calls Tryd.prog 13 #[.pointer (some ⟨bf, 0, none⟩), .slice (some ⟨c0, 0, none⟩) m m] w fun e w' => e = .returned (.tuple #[]) ∧ ∃ g cap, IsBuf w' bf (.slice (some ⟨g, 0, none⟩) (1 + d + 2 + m + 2) cap) ∧
      w'.ownsRow w.heap.size 5 1 (.slice (some ⟨g, 0, none⟩) (1 + d + 2 + m + 2) cap) (1 + d + 2 + m + 2) ((([.int .u8 36] ++ Lib.byteCells L) ++ [.int .u8 13, .int .u8 10]) ++ ints8 l ++ [.int .u8 13, .int .u8 10]) ∧ Below bf w w' := by
  obtain ⟨i0, hi, hz0, hz1, hz2⟩ := info_parts info5
  have hlt := lt_of_block hb
  have tok1 : True := trivial
  have H1 : Hid ((ints8 l).length = m * 1) := hl
  clear hl
  go_enter Tryd.func13, Tryd.ntmps13
  go_wp2_with (first
    | (go_at_call 23; go_must (refine (K bf _ hb htab).mono ?_; rintro e w1 ⟨rfl, g1, cap1, u1, own1, B1⟩; obtain ⟨c1, f1⟩ := u1.facts))
    | (at_builtin; have _t := tok1; clear tok1; go_must (refine append_pos _ rfl (.tmp 12) (.tmp 13) 24 rfl w.heap.size 5 i0 (.int .u8 0) 1 Tryd.underlying24 hi hz0 hz1 hz2 rfl _ (1 + d + 2) _ rfl own1 ⟨c0, 0, none⟩ m m (ints8 l) rfl H1.out (fun j u hj => (B1.cell (by rw [Go.WideShapes.add_plain]; exact hc0)).trans (hcell j u hj)) (ints_oneCell _ _) (by unfold maxLen; omega) (by omega) B1.size (by omega) ?_; intro g2 cap2 w2 own2 gr2; have u2 := u1.grown gr2 (fun k hk => Nat.lt_of_lt_of_le hlt (own1.lt k hk).1); obtain ⟨c2, f2⟩ := u2.facts; have B2 : Below bf w w2 := B1.grown gr2 (by have := B1.size; omega) (fun k hk => Nat.le_trans (Nat.le_of_lt hlt) (own1.lt k hk).1); clear c1 f1))
    | (at_builtin; have _t := c2; go_must (refine append_pos _ rfl (.tmp 21) (.tmp 22) 24 rfl w.heap.size 5 i0 (.int .u8 0) 1 Tryd.underlying24 hi hz0 hz1 hz2 rfl _ (1 + d + 2 + m) _ rfl ((ownsRow_setCell_below own2 hlt _).alloc _) ⟨w2.heap.size, 0, none⟩ 2 2 [.int .u8 13, .int .u8 10] rfl rfl (new_at2 _ _ _ _ (by simp)) (by simp [Value.oneCell']) (by unfold maxLen; omega) (by omega) (by have := B2.size; simp; omega) (by omega) ?_; intro g3 cap3 w3 own3 gr3; have u3 := ((u2.set _).alloc _).grown gr3 (fun k hk => Nat.lt_of_lt_of_le hlt (own2.lt k hk).1); obtain ⟨c3, f3⟩ := u3.facts; have B3 : Below bf w w3 := ((B2.setCell (Nat.le_refl _) _).alloc (by have := B2.size; simp; omega) _).grown gr3 (by have := B2.size; simp; omega) (fun k hk => Nat.le_trans (Nat.le_of_lt hlt) (own2.lt k hk).1))))
  go_end0
  exact ⟨rfl, g3, cap3, u3.set _, ownsRow_setCell_below own3 hlt _, B3.setCell (Nat.le_refl _) _⟩

set_option maxHeartbeats 400000 in
theorem bulk_nil (bf : Nat) (L : List UInt8) (d : Nat) (hd : d ≤ 20) (w : World) (hb : IsBuf w bf (.slice none 0 0)) (htab : Pow bf w) (K : HeadK 0 L d) :
    Calls Tryd.prog 13 #[.pointer (some ⟨bf, 0, none⟩), .slice none 0 0] w fun e w' => e = .returned (.tuple #[]) ∧ ∃ g cap, IsBuf w' bf (.slice (some ⟨g, 0, none⟩) (1 + d + 2 + 2) cap) ∧
      w'.ownsRow w.heap.size 5 1 (.slice (some ⟨g, 0, none⟩) (1 + d + 2 + 2) cap) (1 + d + 2 + 2) ((([.int .u8 36] ++ Lib.byteCells L) ++ [.int .u8 13, .int .u8 10]) ++ [.int .u8 13, .int .u8 10]) ∧ Below bf w w' := by
  obtain ⟨i0, hi, hz0, hz1, hz2⟩ := info_parts info5
  have hlt := lt_of_block hb
  have tok1 : True := trivial
  go_enter Tryd.func13, Tryd.ntmps13
  go_wp2_with (first
    | (go_at_call 23; go_must (refine (K bf _ hb htab).mono ?_; rintro e w1 ⟨rfl, g1, cap1, u1, own1, B1⟩; obtain ⟨c1, f1⟩ := u1.facts))
    | (at_builtin; have _t := tok1; clear tok1; go_must (refine wpList_append_own_none rfl (.tmp 12) (.tmp 13) 24 rfl w.heap.size 5 i0 1 Tryd.underlying24 hi _ (1 + d + 2) _ rfl own1 rfl ?_))
    | (at_builtin; have _t := c1; go_must (refine append_pos _ rfl (.tmp 21) (.tmp 22) 24 rfl w.heap.size 5 i0 (.int .u8 0) 1 Tryd.underlying24 hi hz0 hz1 hz2 rfl _ (1 + d + 2) _ rfl ((ownsRow_setCell_below own1 hlt _).alloc _) ⟨w1.heap.size, 0, none⟩ 2 2 [.int .u8 13, .int .u8 10] rfl rfl (new_at2 _ _ _ _ (by simp)) (by simp [Value.oneCell']) (by unfold maxLen; omega) (by omega) (by have := B1.size; simp; omega) (by omega) ?_; intro g3 cap3 w3 own3 gr3; have u3 := ((u1.set _).alloc _).grown gr3 (fun k hk => Nat.lt_of_lt_of_le hlt (own1.lt k hk).1); obtain ⟨c3, f3⟩ := u3.facts; have B3 : Below bf w w3 := ((B1.setCell (Nat.le_refl _) _).alloc (by have := B1.size; simp; omega) _).grown gr3 (by have := B1.size; simp; omega) (fun k hk => Nat.le_trans (Nat.le_of_lt hlt) (own1.lt k hk).1))))
  go_end0
  exact ⟨rfl, g3, cap3, u3.set _, ownsRow_setCell_below own3 hlt _, B3.setCell (Nat.le_refl _) _⟩
end Go.Proofs.Qxb6600527aDoor
