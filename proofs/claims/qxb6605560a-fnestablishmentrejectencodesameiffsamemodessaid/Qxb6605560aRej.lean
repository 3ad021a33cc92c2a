import Derived.Test.Qxb6605560aEnc
import Derived.Lib.SliceRun
namespace Go.Proofs.Qxb6605560a
open Go.RowKit
set_option linter.unusedVariables false

/-- A slice of octets: its elements are l. -/
def SRow (w : World) (ad : Option Addr) (n : Nat) (l : List Int) : Prop :=
  l.length = n ∧ (∀ x ∈ l, 0 ≤ x ∧ x ≤ 255) ∧ (n = 0 ∨ ∃ b off, ad = some ⟨b, off, none⟩ ∧ b < w.heap.size ∧ ∀ j, j < n → w.cell? ⟨b, off + j, none⟩ = some (.int .u8 (l.getD j 0)))
theorem SRow.below {w w' : World} {B : Nat} {ad : Option Addr} {n : Nat} {l : List Int} (h : SRow w ad n l) (b : Below B w w') (hB : w.heap.size ≤ B) : SRow w' ad n l := by
  obtain ⟨h1, h2, h3⟩ := h
  refine ⟨h1, h2, ?_⟩
  rcases h3 with h3 | ⟨bl, off, e, hlt, hc⟩
  · exact .inl h3
  · exact .inr ⟨bl, off, e, Nat.lt_of_lt_of_le hlt b.size, fun j hj => (b.cell (p := ⟨bl, off + j, none⟩) (Nat.lt_of_lt_of_le hlt hB)).trans (hc j hj)⟩

theorem mem_take_succ {l : List Int} {k : Nat} (hk : k < l.length) (x : Int) : x ∈ l.take (k + 1) ↔ x ∈ l.take k ∨ x = l[k]?.getD 0 := by
  rw [List.take_succ_eq_append_getElem hk]
  simp only [List.mem_append, List.mem_singleton, List.getElem?_eq_getElem hk, Option.getD_some]

/-! ### zzHasMode -/
set_option maxHeartbeats 400000 in
theorem has_zero (ad : Option Addr) (c : Nat) (x : Int) (w : World) :
    Calls Try.prog 12 #[.slice ad 0 c, .int .u8 x] w fun e w' => e = .returned (.bool false) ∧ w' = w := by
  go_enter Try.func12, Try.ntmps12
  go_wp2
  refine wp_loop_rounds 1 ?_
  rw [rounds_succ]
  go_wp2
  go_ret
  exact ⟨rfl, rfl⟩

theorem has_bool {b : Bool} {l : List Int} {x : Int} (h : (b = true) ↔ x ∈ l) : Ending.returned (.bool b) = .returned (.bool (decide (x ∈ l))) := by
  congr 2; rw [Bool.eq_iff_iff]; simpa using h

set_option maxHeartbeats 400000 in
theorem has_pos (b off n c : Nat) (x : Int) (l : List Int) (hl : l.length = n) (hn : n ≤ 65536) (w : World) (hc : ∀ j, j < n → w.cell? ⟨b, off + j, none⟩ = some (.int .u8 (l.getD j 0))) :
    Calls Try.prog 12 #[.slice (some ⟨b, off, none⟩) n c, .int .u8 x] w fun e w' => e = .returned (.bool (decide (x ∈ l))) ∧ w' = w := by
  go_enter Try.func12, Try.ntmps12
  go_wp2
  go_loop [5] (fun i => ∃ k : Nat, k ≤ n ∧ i = .int .i64 k ∧ x ∉ l.take k) (fun i => n - (intOf i).toNat)
  case atStart => exact ⟨0, Nat.zero_le _, rfl, by simp⟩
  case round =>
    obtain ⟨k, hk, rfl, hx⟩ := hrel
    have H : Hid (x ∉ l.take k) := hx
    clear hx
    have HL : Hid (l.length = n) := hl
    clear hl
    by_cases hlt : k < n
    · have d := hc k hlt
      clear hc
      go_wp2
      · have e : l[k]?.getD 0 = x := by simpa using ‹(l[k]?.getD 0 == x) = true›
        go_ret
        refine ⟨has_bool ⟨fun _ => ?_, fun _ => rfl⟩, rfl⟩
        have hk' : k < l.length := by rw [HL.out]; exact hlt
        rw [← e, List.getElem?_eq_getElem hk']; exact List.getElem_mem hk'
      · have e : ¬ l[k]?.getD 0 = x := by simpa using ‹(l[k]?.getD 0 == x) = false›
        go_round
        case rel => exact ⟨k + 1, by omega, by go_num, fun hm => by rcases (mem_take_succ (by rw [HL.out]; exact hlt) x).1 hm with h | h; exact H.out h; exact e h.symm⟩
        case measure => simp [intOf]; omega
    · go_wp2
      go_ret
      refine ⟨has_bool ⟨fun h => (by simp at h), fun hm => ?_⟩, rfl⟩
      have h1 := HL.out
      have := H.out
      rw [List.take_of_length_le (by omega)] at this
      exact absurd hm this

/-- THE CONTRACT of zzHasMode. -/
theorem has_any (ad : Option Addr) (n c : Nat) (x : Int) (l : List Int) (hn : n ≤ 65536) (w : World) (h : SRow w ad n l) :
    Calls Try.prog 12 #[.slice ad n c, .int .u8 x] w fun e w' => e = .returned (.bool (decide (x ∈ l))) ∧ w' = w := by
  obtain ⟨h1, h2, h3⟩ := h
  rcases h3 with rfl | ⟨b, off, rfl, hlt, hc⟩
  · obtain rfl : l = [] := List.length_eq_zero_iff.1 h1
    simpa using has_zero ad c x w
  · exact has_pos b off n c x l h1 hn w hc
end Go.Proofs.Qxb6605560a
