import Derived.Test.Qxb6605560aRows
import Derived.WalkKit
import Derived.WalkSpells
import Derived.ProofKit
import Derived.OpenShut
import Derived.Outline
namespace Go.Proofs.Qxb6605560a
open Go.RowKit
set_option linter.unusedVariables false

theorem info5 : (Try.prog.info? 5).map (fun i => (i.zero, i.size, i.bytes)) = some (some (.int .u8 0), 1, 1) := by kernel_rfl

theorem or144 (x : Int) (h0 : 0 ≤ x) (h : x ≤ 7) : bits BinOp.or IntKind.u8 144 x = 144 + x := by
  have : x = 0 ∨ x = 1 ∨ x = 2 ∨ x = 3 ∨ x = 4 ∨ x = 5 ∨ x = 6 ∨ x = 7 := by omega
  rcases this with rfl | rfl | rfl | rfl | rfl | rfl | rfl | rfl <;> decide
theorem or160 (x : Int) (h0 : 0 ≤ x) (h : x ≤ 7) : bits BinOp.or IntKind.u8 160 x = 160 + x := by
  have : x = 0 ∨ x = 1 ∨ x = 2 ∨ x = 3 ∨ x = 4 ∨ x = 5 ∨ x = 6 ∨ x = 7 := by omega
  rcases this with rfl | rfl | rfl | rfl | rfl | rfl | rfl | rfl <;> decide

/-- The tail of the request: what is appended behind the six octets. -/
def tailT (t : Int) : List Int := if t = 0 then [] else [144 + t % 8]
def tailS (s : Int) : List Int := if s = 0 then [] else [160 + s % 8]
def encL (a b t s : Int) : List Int := [46, a, b, 193, 255, 255] ++ tailT t ++ tailS s
def ints8 (l : List Int) : List Value := l.map (Value.int .u8)

/-- A slice value that is the call's own and holds the octets l. -/
def Owns (w : World) (B : Nat) (v : Value) (l : List Int) : Prop := w.ownsRow B 5 1 v l.length (ints8 l)

theorem own_lit2 (w : World) (A : Array Value) (T : TypeId) (cs : Array Value) (n : Nat) (hm : n ≤ maxLen) (hs : cs.size = n) :
    ((w.alloc (.cells A T)).alloc (.cells cs 5)).ownsRow w.heap.size 5 1 (.slice (some ⟨w.heap.size + 1, 0, none⟩) n n) n cs.toList := by
  have h := World.ownsRow_lit (base := w.heap.size) (e := 5) (size := 1) (w.alloc (.cells A T)) cs n (by simp) hm (by simpa using hs)
  rw [World.size_alloc] at h
  exact h
theorem new_at (w : World) (x : Value) (g : Nat) (hg : w.heap.size = g) : ∀ j u, [x][j]? = some u → (w.alloc (.cells #[x] 5)).cell? ((⟨g, 0, none⟩ : Addr).add j) = some u := by
  subst hg; exact cell_one_new w x 5

theorem kept_field (w w1 : World) (A : Array Value) (T : TypeId) (o2 o3 : Obj) (v : Value) (hv : v.ownBlock = some (w.heap.size + 1)) (g : (((w.alloc (.cells A T)).alloc o2).alloc o3).grownBy w1 v.ownBlock) (j : Nat) :
    w1.cell? ⟨w.heap.size, j, none⟩ = A[j]? := by
  have h1 : w1.heap[w.heap.size]? = (((w.alloc (.cells A T)).alloc o2).alloc o3).heap[w.heap.size]? := g.block _ (by simp; omega) (by rw [hv]; simp)
  rw [World.cell?_of_block (w := ((w.alloc (.cells A T)).alloc o2).alloc o3) (a := ⟨w.heap.size, j, none⟩) h1]
  rw [World.cell?_of_block (w := w.alloc (.cells A T)) (a := ⟨w.heap.size, j, none⟩)
    ((Below.heap_alloc _ _ _ (by simp; omega)).trans (Below.heap_alloc _ _ _ (by simp)))]
  exact cell_of_row _ _ _ _ _ _ (heap_alloc_new w _)

theorem bel3 (w : World) (o1 o2 o3 : Obj) : Below w.heap.size w (((w.alloc o1).alloc o2).alloc o3) :=
  (((Below.refl _ _).alloc (Nat.le_refl _) _).alloc (by simp) _).alloc (by simp; omega) _
theorem bel3g (w w1 : World) (o1 o2 o3 : Obj) (n c : Nat) (g : (((w.alloc o1).alloc o2).alloc o3).grownBy w1 (Value.slice (some ⟨w.heap.size + 1, 0, none⟩) n c).ownBlock) : Below w.heap.size w w1 :=
  (bel3 w o1 o2 o3).grown g (by simp; omega) (fun k hk => by simp [Value.ownBlock] at hk; omega)

set_option maxHeartbeats 400000 in
theorem enc_tt (a b t s : Int) (w : World) (ht0 : 1 ≤ t) (ht : t ≤ 255) (hs0 : 1 ≤ s) (hs : s ≤ 255) :
    Calls Try.prog 7 #[.agg #[.int .u8 a, .int .u8 b, .int .u8 t, .int .u8 s]] w fun e w' => ∃ v, e = .returned v ∧ w'.ownsRow w.heap.size 5 1 v 8 (ints8 [46, a, b, 193, 255, 255, 144 + t % 8, 160 + s % 8]) ∧ Below w.heap.size w w' := by
  obtain ⟨i0, hi, hz0, hz1, hz2⟩ := info_parts info5
  have o1 := or144 (t % 8) (by omega) (by omega)
  have o2 := or160 (s % 8) (by omega) (by omega)
  go_enter Try.func7, Try.ntmps7
  go_wp2_with (first
    | (at_builtin; refine wpList_append_own _ rfl (.tmp 12) (.tmp 17) 26 rfl w.heap.size 5 i0 (.int .u8 0) 1 1 Try.underlying26 hi hz0 hz1 hz2 rfl (by decide) _ 6 (ints8 [46, a, b, 193, 255, 255]) rfl ((own_lit2 w _ _ _ 6 (by decide) rfl).alloc _) ⟨w.heap.size + 1 + 1, 0, none⟩ 1 1 [.int .u8 (144 + t % 8)] rfl rfl (new_at _ _ _ (by simp)) (by simp [Value.oneCell']) (by decide) (by decide) (by simp; omega) ?_; intro v1 w1 own1 g1 _; have c1 := kept_field w w1 _ _ _ _ _ rfl g1 3; simp at c1)
    | (at_builtin; refine wpList_append_own _ rfl (.tmp 22) (.tmp 27) 26 rfl w.heap.size 5 i0 (.int .u8 0) 1 1 Try.underlying26 hi hz0 hz1 hz2 rfl (by decide) _ 7 _ rfl (own1.alloc _) ⟨w1.heap.size, 0, none⟩ 1 1 [.int .u8 (160 + s % 8)] rfl rfl (new_at _ _ _ (by simp)) (by simp [Value.oneCell']) (by decide) (by decide) (by have := g1.size; simp at this ⊢; omega) ?_; intro v2 w2 own2 g2 _))
  go_ret
  have b1 := bel3g _ _ _ _ _ _ _ g1
  have b2 := (b1.alloc b1.size _).grown g2 (by have := b1.size; simp; omega) (fun k hk => (own1.lt k hk).1)
  exact ⟨v2, rfl, own2, b2⟩

set_option maxHeartbeats 400000 in
theorem enc_tf (a b t : Int) (w : World) (ht0 : 1 ≤ t) (ht : t ≤ 255) :
    Calls Try.prog 7 #[.agg #[.int .u8 a, .int .u8 b, .int .u8 t, .int .u8 0]] w fun e w' => ∃ v, e = .returned v ∧ w'.ownsRow w.heap.size 5 1 v 7 (ints8 [46, a, b, 193, 255, 255, 144 + t % 8]) ∧ Below w.heap.size w w' := by
  obtain ⟨i0, hi, hz0, hz1, hz2⟩ := info_parts info5
  have o1 := or144 (t % 8) (by omega) (by omega)
  go_enter Try.func7, Try.ntmps7
  go_wp2_with (first
    | (at_builtin; refine wpList_append_own _ rfl (.tmp 12) (.tmp 17) 26 rfl w.heap.size 5 i0 (.int .u8 0) 1 1 Try.underlying26 hi hz0 hz1 hz2 rfl (by decide) _ 6 (ints8 [46, a, b, 193, 255, 255]) rfl ((own_lit2 w _ _ _ 6 (by decide) rfl).alloc _) ⟨w.heap.size + 1 + 1, 0, none⟩ 1 1 [.int .u8 (144 + t % 8)] rfl rfl (new_at _ _ _ (by simp)) (by simp [Value.oneCell']) (by decide) (by decide) (by simp; omega) ?_; intro v1 w1 own1 g1 _; have c1 := kept_field w w1 _ _ _ _ _ rfl g1 3; simp at c1))
  go_ret
  exact ⟨v1, rfl, own1, bel3g _ _ _ _ _ _ _ g1⟩

set_option maxHeartbeats 400000 in
theorem enc_ft (a b s : Int) (w : World) (hs0 : 1 ≤ s) (hs : s ≤ 255) :
    Calls Try.prog 7 #[.agg #[.int .u8 a, .int .u8 b, .int .u8 0, .int .u8 s]] w fun e w' => ∃ v, e = .returned v ∧ w'.ownsRow w.heap.size 5 1 v 7 (ints8 [46, a, b, 193, 255, 255, 160 + s % 8]) ∧ Below w.heap.size w w' := by
  obtain ⟨i0, hi, hz0, hz1, hz2⟩ := info_parts info5
  have o2 := or160 (s % 8) (by omega) (by omega)
  go_enter Try.func7, Try.ntmps7
  go_wp2_with (first
    | (at_builtin; refine wpList_append_own _ rfl (.tmp 22) (.tmp 27) 26 rfl w.heap.size 5 i0 (.int .u8 0) 1 1 Try.underlying26 hi hz0 hz1 hz2 rfl (by decide) _ 6 (ints8 [46, a, b, 193, 255, 255]) rfl ((own_lit2 w _ _ _ 6 (by decide) rfl).alloc _) ⟨w.heap.size + 1 + 1, 0, none⟩ 1 1 [.int .u8 (160 + s % 8)] rfl rfl (new_at _ _ _ (by simp)) (by simp [Value.oneCell']) (by decide) (by decide) (by simp; omega) ?_; intro v1 w1 own1 g1 _))
  go_ret
  exact ⟨v1, rfl, own1, bel3g _ _ _ _ _ _ _ g1⟩

set_option maxHeartbeats 400000 in
theorem enc_ff (a b : Int) (w : World) :
    Calls Try.prog 7 #[.agg #[.int .u8 a, .int .u8 b, .int .u8 0, .int .u8 0]] w fun e w' => ∃ v, e = .returned v ∧ w'.ownsRow w.heap.size 5 1 v 6 (ints8 [46, a, b, 193, 255, 255]) ∧ Below w.heap.size w w' := by
  go_enter Try.func7, Try.ntmps7
  go_wp2
  go_ret
  exact ⟨_, rfl, own_lit2 w _ _ _ 6 (by decide) rfl, ((Below.refl _ _).alloc (Nat.le_refl _) _).alloc (by simp) _⟩

/-- THE CONTRACT of EstablishmentRequest.Encode: the octets encL, in new memory. -/
theorem enc_any (a b t s : Int) (w : World) (ht0 : 0 ≤ t) (ht : t ≤ 255) (hs0 : 0 ≤ s) (hs : s ≤ 255) :
    Calls Try.prog 7 #[.agg #[.int .u8 a, .int .u8 b, .int .u8 t, .int .u8 s]] w fun e w' => ∃ v, e = .returned v ∧ Owns w' w.heap.size v (encL a b t s) ∧ Below w.heap.size w w' := by
  unfold Owns
  by_cases h1 : t = 0 <;> by_cases h2 : s = 0
  · subst h1; subst h2; exact enc_ff a b w
  · subst h1
    have e : encL a b 0 s = [46, a, b, 193, 255, 255, 160 + s % 8] := by simp [encL, tailT, tailS, h2]
    rw [e]; exact enc_ft a b s w (by omega) hs
  · subst h2
    have e : encL a b t 0 = [46, a, b, 193, 255, 255, 144 + t % 8] := by simp [encL, tailT, tailS, h1]
    rw [e]; exact enc_tf a b t w (by omega) ht
  · have e : encL a b t s = [46, a, b, 193, 255, 255, 144 + t % 8, 160 + s % 8] := by simp [encL, tailT, tailS, h1, h2]
    rw [e]; exact enc_tt a b t s w (by omega) ht (by omega) hs
end Go.Proofs.Qxb6605560a
