import Derived.Test.Qxb6600527aDoorSmall
import Derived.Test.Qxb6600527aDoorDec
import Derived.Test.Qxb6600527aDoorShelf
import Derived.OneCell
import Derived.Deep.AppendLies
import Derived.Laws.AppendOwnNone
namespace Go.Proofs.Qxb6600527aDoor
open Go.RowKit
set_option linter.unusedVariables false

/-- 'append' onto a slice that is the call's own, at least one element coming out: the value in its form. -/
theorem append_pos {P : Program} (w : World) {ops : Array Oper} {rest : List Oper} {o : Oper} {a : Act} {Q : Exit → Act → World → Prop} (hgd : o.guard = none) (s x : Operand) (t : TypeId)
    (ho : o.op = .call { callee := .builtin .append, args := #[s, x], argTypes := #[t, t] })
    (base : Nat) (e : TypeId) (i : TypeInfo) (z : Value) (bytes : Nat) (ht : P.underlying t = some (.slice e)) (hi : P.info? e = some i) (hz : i.zero = some z)
    (hsize : i.size = 1) (hby : i.bytes = bytes) (hzs : z.cells.size = 1)
    (v : Value) (n : Nat) (xs : List Value) (hs : a.eval s = v) (hown : w.ownsRow base e 1 v n xs)
    (ad : Addr) (m c : Nat) (news : List Value) (hx : a.eval x = .slice (some ad) m c) (hl : news.length = m * 1) (hnews : ∀ j u, news[j]? = some u → w.cell? (ad.add j) = some u) (h1 : ∀ u ∈ news, u.oneCell' = true)
    (h63 : n + m ≤ maxLen) (hbytes : (n + m) * bytes ≤ 140737488355328) (hbase : base ≤ w.heap.size) (hpos : 0 < n + m)
    (h : ∀ g cap w', w'.ownsRow base e 1 (.slice (some ⟨g, 0, none⟩) (n + m) cap) (n + m) (xs ++ news) → w.grownBy w' v.ownBlock → wpList P ops Q rest (a.put o.dst (.slice (some ⟨g, 0, none⟩) (n + m) cap)) w') : wpList P ops Q (o :: rest) a w := by
  refine wpList_append_own w hgd s x t ho base e i z 1 bytes ht hi hz hsize hby hzs (by decide) v n xs hs hown ad m c news hx hl hnews h1 h63 hbytes hbase fun v' w' h2 h3 _ => ?_
  obtain ⟨g, cap, rfl, _, _⟩ := h2.form hpos
  exact h g cap w' h2 h3

/-- The name of the library's table of powers of ten: the first that the row names. -/
def powName : String := Rows.fnBulkHeaderReadsBackByParseIntegerRow.named.headD "none"
def Pow (B : Nat) (w : World) : Prop := Lib.TabBelow Tryd.prog B w powName .u64 Lib.pow10Tab
theorem Pow.on {B : Nat} {w w1 : World} (h : Pow B w) (hb : Below B w w1) : Pow B w1 := Lib.TabBelow.on h hb
theorem Pow.up {B B' : Nat} {w : World} (h : Pow B w) (hb : B ≤ B') : Pow B' w := fun w' h' => h w' (h'.mono hb)

/-- AppendInt at base 10, the value in its form. -/
theorem appendInt (B n : Nat) (i : Int) (h0 : -9223372036854775808 ≤ i) (h1 : i ≤ 9223372036854775807) (sv : Value) (xs : List Value) (w : World) (hown : w.ownsRow B 5 1 sv n xs) (hBw : B ≤ w.heap.size) (hlim : n + 21 ≤ 140737488355328) (hn : 0 < n)
    (htab : Pow B w) :
    Calls Tryd.prog 28 #[sv, .int .i64 i, .int .i64 10] w fun e w' => ∃ g cap, e = .returned (.slice (some ⟨g, 0, none⟩) (n + (Lib.itoa i).length) cap) ∧
      w'.ownsRow B 5 1 (.slice (some ⟨g, 0, none⟩) (n + (Lib.itoa i).length) cap) (n + (Lib.itoa i).length) (xs ++ Lib.byteCells (Lib.itoa i)) ∧ Below B w w' := by
  refine (Any.strconv_AppendInt_10 Tryd.laysM176 B n i h0 h1 sv xs w hown hBw hlim htab).mono ?_
  rintro e w' ⟨v, rfl, own, bel, _⟩
  obtain ⟨g, cap, rfl, _, _⟩ := own.form (by omega)
  exact ⟨g, cap, rfl, own, bel⟩

/-! ### The Buffer's one field -/
/-- The block bf is a Buffer whose field is v. -/
def IsBuf (w : World) (bf : Nat) (v : Value) : Prop := w.heap[bf]? = some (.cells #[v] 30 (0, 0))
theorem IsBuf.facts {w : World} {bf : Nat} {v : Value} (h : IsBuf w bf v) : w.cell? ⟨bf, 0, none⟩ = some v ∧ w.frozen? ⟨bf, 0, none⟩ = false := ⟨cell_of_one h, free_of_one h⟩
theorem IsBuf.alloc {w : World} {bf : Nat} {v : Value} (h : IsBuf w bf v) (o : Obj) : IsBuf (w.alloc o) bf v := (Below.heap_alloc w o bf (lt_of_block h)).trans h
theorem IsBuf.grown {w w1 : World} {bf : Nat} {v : Value} {r : Option Nat} (h : IsBuf w bf v) (g : w.grownBy w1 r) (hr : ∀ k, r = some k → bf < k) : IsBuf w1 bf v :=
  (g.block bf (lt_of_block h) (fun e => by have := hr bf e.symm; omega)).trans h
theorem IsBuf.below {w w1 : World} {bf B : Nat} {v : Value} (h : IsBuf w bf v) (b : Below B w w1) (hB : bf < B) : IsBuf w1 bf v := (b.block bf hB).trans h
theorem IsBuf.set {w : World} {bf : Nat} {v : Value} (h : IsBuf w bf v) (u : Value) : IsBuf (w.setCell ⟨bf, 0, none⟩ u) bf u := one_setCell h

theorem new_at (w : World) (x : Value) (g : Nat) (hg : w.heap.size = g) : ∀ j u, [x][j]? = some u → (w.alloc (.cells #[x] 5)).cell? ((⟨g, 0, none⟩ : Addr).add j) = some u := by
  subst hg; exact cell_one_new w x 5
theorem new_at2 (w : World) (x y : Value) (g : Nat) (hg : w.heap.size = g) : ∀ j u, [x, y][j]? = some u → (w.alloc (.cells #[x, y] 5)).cell? ((⟨g, 0, none⟩ : Addr).add j) = some u := by
  subst hg
  intro j u hj
  have h := cell_of_row (w.alloc (.cells #[x, y] 5)) w.heap.size j #[x, y] 5 (0, 0) (heap_alloc_new w _)
  rw [show ((⟨w.heap.size, 0, none⟩ : Addr).add j) = ⟨w.heap.size, j, none⟩ by rw [Go.WideShapes.add_plain, Nat.zero_add], h]
  simpa using hj

/-- What the walk of header is told of AppendInt. -/
def IntK (m : Int) (L : List UInt8) (d : Nat) : Prop := ∀ (B n : Nat) (sv : Value) (xs : List Value) (w : World), w.ownsRow B 5 1 sv n xs → B ≤ w.heap.size → n + 21 ≤ 140737488355328 → 0 < n → Pow B w →
    Calls Tryd.prog 28 #[sv, .int .i64 m, .int .i64 10] w fun e w' => ∃ g cap, e = .returned (.slice (some ⟨g, 0, none⟩) (n + d) cap) ∧ w'.ownsRow B 5 1 (.slice (some ⟨g, 0, none⟩) (n + d) cap) (n + d) (xs ++ Lib.byteCells L) ∧ Below B w w'

set_option maxHeartbeats 400000 in
theorem header_walk (bf : Nat) (m : Int) (L : List UInt8) (d : Nat) (hd : d ≤ 20) (h0 : 0 ≤ m) (h1 : m ≤ 1048576) (w : World) (hb : IsBuf w bf (.slice none 0 0)) (htab : Pow bf w) (K : IntK m L d) :
    Calls Tryd.prog 23 #[.pointer (some ⟨bf, 0, none⟩), .int .u8 36, .int .i64 m] w fun e w' => e = .returned (.tuple #[]) ∧ ∃ g cap, IsBuf w' bf (.slice (some ⟨g, 0, none⟩) (1 + d + 2) cap) ∧
      w'.ownsRow w.heap.size 5 1 (.slice (some ⟨g, 0, none⟩) (1 + d + 2) cap) (1 + d + 2) (([.int .u8 36] ++ Lib.byteCells L) ++ [.int .u8 13, .int .u8 10]) ∧ Below bf w w' := by
  obtain ⟨i0, hi, hz0, hz1, hz2⟩ := info_parts info5
  have hlt := lt_of_block hb
  obtain ⟨c0, f0⟩ := hb.facts
  go_enter Tryd.func23, Tryd.ntmps23
  go_wp2_with (first
    | (at_builtin; have _t := c0; go_must (refine append_pos _ rfl (.tmp 10) (.tmp 12) 24 rfl w.heap.size 5 i0 (.int .u8 0) 1 Tryd.underlying24 hi hz0 hz1 hz2 rfl _ 0 [] rfl (World.ownsRow_nil _ _ _ _) ⟨w.heap.size, 0, none⟩ 1 1 [.int .u8 36] rfl rfl (new_at _ _ _ rfl) (by simp [Value.oneCell']) (by decide) (by decide) (by simp) (by decide) ?_; intro g1 cap1 w1 own1 gr1; have u1 := (hb.alloc _).grown gr1 (fun k hk => by cases hk); obtain ⟨c1, f1⟩ := u1.facts; have B1 : Below bf w w1 := ((Below.refl _ _).alloc (Nat.le_of_lt hlt) _).grown gr1 (by simp; omega) (fun k hk => by cases hk); have s1 : w.heap.size + 1 ≤ w1.heap.size := (by have := gr1.size; simpa using this); clear c0 f0 _t))
    | (go_at_call 28; go_must (refine (K w.heap.size 1 _ [.int .u8 36] _ (ownsRow_setCell_below own1 hlt _) (by simp; omega) (by decide) (by decide) ((htab.on (B1.setCell (Nat.le_refl _) _)).up (Nat.le_of_lt hlt))).mono ?_; rintro e w2 ⟨g2, cap2, rfl, own2, b2⟩; have u2 := (u1.set _).below b2 hlt; obtain ⟨c2, f2⟩ := u2.facts; have B2 : Below bf w w2 := (B1.setCell (Nat.le_refl _) _).trans (b2.mono (Nat.le_of_lt hlt)); have s2 : w.heap.size + 1 ≤ w2.heap.size := (by have := b2.size; simp at this; omega); clear c1 f1))
    | (at_builtin; have _t := c2; go_must (refine append_pos _ rfl (.tmp 29) (.tmp 30) 24 rfl w.heap.size 5 i0 (.int .u8 0) 1 Tryd.underlying24 hi hz0 hz1 hz2 rfl _ (1 + d) ([.int .u8 36] ++ Lib.byteCells L) rfl ((ownsRow_setCell_below own2 hlt _).alloc _) ⟨w2.heap.size, 0, none⟩ 2 2 [.int .u8 13, .int .u8 10] rfl rfl (new_at2 _ _ _ _ (by simp)) (by simp [Value.oneCell']) (by unfold maxLen; omega) (by omega) (by simp; omega) (by omega) ?_; intro g3 cap3 w3 own3 gr3; have u3 := ((u2.set _).alloc _).grown gr3 (fun k hk => Nat.lt_of_lt_of_le hlt (own2.lt k hk).1); obtain ⟨c3, f3⟩ := u3.facts; have B3 : Below bf w w3 := ((B2.setCell (Nat.le_refl _) _).alloc (by simp; omega) _).grown gr3 (by simp; omega) (fun k hk => Nat.le_trans (Nat.le_of_lt hlt) (own2.lt k hk).1))))
  go_end0
  exact ⟨rfl, g3, cap3, u3.set _, ownsRow_setCell_below own3 hlt _, B3.setCell (Nat.le_refl _) _⟩
end Go.Proofs.Qxb6600527aDoor
