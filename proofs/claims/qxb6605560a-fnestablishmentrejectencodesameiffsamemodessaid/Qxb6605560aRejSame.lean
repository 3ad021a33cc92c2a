import Derived.Test.Qxb6605560aSame
import Derived.Test.Qxb6605560aRejDec
import Derived.Deep.RegionHeld3
namespace Go.Proofs.Qxb6605560a
open Go.RowKit
set_option linter.unusedVariables false

/-- The row l of octets lies at the head of block g. -/
def RowR (w : World) (g : Nat) (l : List Int) : Prop := g < w.heap.size ∧ ∀ j, j < l.length → w.cell? ⟨g, j, none⟩ = some (.int .u8 (l.getD j 0))
theorem RowR.below {w w' : World} {g : Nat} {l : List Int} (h : RowR w g l) (b : Below w.heap.size w w') : RowR w' g l :=
  ⟨Nat.lt_of_lt_of_le h.1 b.size, fun j hj => (b.cell (p := ⟨g, j, none⟩) h.1).trans (h.2 j hj)⟩
theorem owns_rowR {w : World} {B : Nat} {v : Value} {l : List Int} (hl : 0 < l.length) (h : Owns w B v l) :
    ∃ g cap, v = .slice (some ⟨g, 0, none⟩) l.length cap ∧ RowR w g l := by
  rcases h.2 with ⟨_, hn⟩ | ⟨g, cap, cur, rfl, hB, hg, hnc, _, hcs, htake⟩
  · omega
  refine ⟨g, cap, rfl, ?_, fun j hj => ?_⟩
  · exact (h.lt g rfl).2
  rw [World.ownsRow.cellAt h j (by omega)]
  simp [ints8, List.getElem?_map, List.getD_eq_getElem?_getD, List.getElem?_eq_getElem hj]

/-- Encode as the walk is told of it: the octets r (m of them), for the list l. -/
def RejK (i p c : Int) (n : Nat) (l : List Int) (m : Nat) (r : List Int) : Prop := ∀ ad1 c1 w0, SRow w0 ad1 n l → Calls Try.prog 11 #[.agg #[.int .u8 i, .int .u8 p, .int .u8 c, .slice ad1 n c1]] w0 fun e w' =>
  ∃ g cap, e = .returned (.slice (some ⟨g, 0, none⟩) m cap) ∧ RowR w' g r ∧ Below w0.heap.size w0 w'
theorem rejK (i p c : Int) (n : Nat) (l : List Int) (hn : n ≤ 65536) : RejK i p c n l (rejL i p c l).length (rejL i p c l) := by
  intro ad1 c1 w0 h
  refine (rej_any i p c ad1 n c1 l hn w0 h).mono ?_
  rintro e w' ⟨v, rfl, own, bel⟩
  obtain ⟨g, cap, rfl, hr⟩ := owns_rowR (by have := (rejL_len i p c l).1; omega) own
  exact ⟨g, cap, rfl, hr, bel⟩

/-! ### zzBytes over two slices -/
set_option maxHeartbeats 400000 in
theorem by13 (i p c : Int) (ad bd : Option Addr) (n m cn cm : Nat) (w : World) (hn : n + m ≤ 1048576) :
    Calls Try.prog 13 #[.int .u8 i, .int .u8 p, .int .u8 c, .slice ad n cn, .slice bd m cm] w fun e w' => e = .returned (.bool true) ∧ w' = w := by
  go_enter Try.func13, Try.ntmps13
  go_wp2
  go_ret
  exact ⟨rfl, rfl⟩
set_option maxHeartbeats 400000 in
theorem by13a (i p c : Int) (ad bd : Option Addr) (n m cn cm : Nat) (w : World) (hn : 1048576 < n) :
    Calls Try.prog 13 #[.int .u8 i, .int .u8 p, .int .u8 c, .slice ad n cn, .slice bd m cm] w fun e w' => e = .returned (.bool false) ∧ w' = w := by
  go_enter Try.func13, Try.ntmps13
  go_wp2
  go_ret
  exact ⟨rfl, rfl⟩
set_option maxHeartbeats 400000 in
theorem by13b (i p c : Int) (ad bd : Option Addr) (n m cn cm : Nat) (w : World) (hn : n ≤ 1048576) (hm : 1048576 < m) :
    Calls Try.prog 13 #[.int .u8 i, .int .u8 p, .int .u8 c, .slice ad n cn, .slice bd m cm] w fun e w' => e = .returned (.bool false) ∧ w' = w := by
  go_enter Try.func13, Try.ntmps13
  go_wp2
  go_ret
  exact ⟨rfl, rfl⟩
set_option maxHeartbeats 400000 in
theorem by13c (i p c : Int) (ad bd : Option Addr) (n m cn cm : Nat) (w : World) (hn : n ≤ 1048576) (hm : m ≤ 1048576) (h : 1048576 < n + m) :
    Calls Try.prog 13 #[.int .u8 i, .int .u8 p, .int .u8 c, .slice ad n cn, .slice bd m cm] w fun e w' => e = .returned (.bool false) ∧ w' = w := by
  go_enter Try.func13, Try.ntmps13
  go_wp2
  go_ret
  exact ⟨rfl, rfl⟩
theorem by13n (i p c : Int) (ad bd : Option Addr) (n m cn cm : Nat) (w : World) (h : 1048576 < n + m) :
    Calls Try.prog 13 #[.int .u8 i, .int .u8 p, .int .u8 c, .slice ad n cn, .slice bd m cm] w fun e w' => e = .returned (.bool false) ∧ w' = w := by
  by_cases h1 : 1048576 < n
  · exact by13a i p c ad bd n m cn cm w h1
  by_cases h2 : 1048576 < m
  · exact by13b i p c ad bd n m cn cm w (by omega) h2
  · exact by13c i p c ad bd n m cn cm w (by omega) (by omega) h

set_option maxHeartbeats 400000 in
theorem rs_far (i p c : Int) (ad bd : Option Addr) (n m cn cm : Nat) (w : World) (h : 1048576 < n + m) :
    Calls Try.prog 6 #[.int .u8 i, .int .u8 p, .int .u8 c, .slice ad n cn, .slice bd m cm] w fun e w' => e = .returned (.bool true) ∧ Below w.heap.size w w' := by
  go_enter Try.func6, Try.ntmps6
  go_wp2_with (go_at_call 13; go_must (refine (by13n i p c ad bd n m cn cm _ h).mono ?_; rintro e w' ⟨rfl, rfl⟩))
  go_ret
  exact ⟨rfl, Below.refl _ _⟩
set_option maxHeartbeats 400000 in
theorem rs_long (i p c : Int) (ad bd : Option Addr) (n m cn cm : Nat) (w : World) (h : n + m ≤ 1048576) (hn : 65536 < n) :
    Calls Try.prog 6 #[.int .u8 i, .int .u8 p, .int .u8 c, .slice ad n cn, .slice bd m cm] w fun e w' => e = .returned (.bool true) ∧ Below w.heap.size w w' := by
  go_enter Try.func6, Try.ntmps6
  go_wp2_with (go_at_call 13; go_must (refine (by13 i p c ad bd n m cn cm _ h).mono ?_; rintro e w' ⟨rfl, rfl⟩))
  go_ret
  exact ⟨rfl, Below.refl _ _⟩
set_option maxHeartbeats 400000 in
theorem rs_long2 (i p c : Int) (ad bd : Option Addr) (n m cn cm : Nat) (w : World) (h : n + m ≤ 1048576) (hn : n ≤ 65536) (hm : 65536 < m) :
    Calls Try.prog 6 #[.int .u8 i, .int .u8 p, .int .u8 c, .slice ad n cn, .slice bd m cm] w fun e w' => e = .returned (.bool true) ∧ Below w.heap.size w w' := by
  go_enter Try.func6, Try.ntmps6
  go_wp2_with (go_at_call 13; go_must (refine (by13 i p c ad bd n m cn cm _ h).mono ?_; rintro e w' ⟨rfl, rfl⟩))
  go_ret
  exact ⟨rfl, Below.refl _ _⟩

/-! ### The plain law -/
theorem mask_iff (l l' : List Int) : mask l = mask l' ↔ ((1 : Int) ∈ l ↔ (1 : Int) ∈ l') ∧ ((2 : Int) ∈ l ↔ (2 : Int) ∈ l') ∧ ((3 : Int) ∈ l ↔ (3 : Int) ∈ l') := by
  unfold mask
  by_cases a1 : (1 : Int) ∈ l <;> by_cases a2 : (2 : Int) ∈ l <;> by_cases a3 : (3 : Int) ∈ l <;> by_cases b1 : (1 : Int) ∈ l' <;> by_cases b2 : (2 : Int) ∈ l' <;> by_cases b3 : (3 : Int) ∈ l' <;> simp [a1, a2, a3, b1, b2, b3]
theorem rejL_iff (i p c : Int) (l l' : List Int) : rejL i p c l = rejL i p c l' ↔ (l = [] ↔ l' = []) ∧ mask l = mask l' := by
  unfold rejL
  by_cases a : l = [] <;> by_cases b : l' = [] <;> simp [a, b]
theorem rej_want (i p c : Int) (l l' : List Int) :
    decide (rejL i p c l = rejL i p c l') = ((decide (l = []) == decide (l' = [])) && (decide ((1 : Int) ∈ l) == decide ((1 : Int) ∈ l')) && (decide ((2 : Int) ∈ l) == decide ((2 : Int) ∈ l')) && (decide ((3 : Int) ∈ l) == decide ((3 : Int) ∈ l'))) := by
  rw [Bool.eq_iff_iff]
  simp only [decide_eq_true_eq, rejL_iff, mask_iff, Bool.and_eq_true, beq_iff_eq, decide_eq_decide, and_assoc]
end Go.Proofs.Qxb6605560a
