import Derived.Test.Qxb6600527aDoorBuf
import Derived.Lib.SlBytesConst
import Derived.Laws.BytesArg
import Derived.Lib.SmallJoins
namespace Go.Proofs.Qxb6600527aDoor
open Go.RowKit
set_option linter.unusedVariables false

/-- TrimPrefix at the text "-", where the first octet is a digit: nothing is cut. -/
theorem trim_dig (g o n c b2 d : Nat) (xs : List Int) (w : World) (hx : xs.length = n) (hn : 0 < n) (hnc : n ≤ c) (h0 : 48 ≤ xs.getD 0 0) (h1 : xs.getD 0 0 ≤ 57)
    (hc1 : ∀ i, i < n → w.cell? ⟨g, o + i, none⟩ = some (.int .u8 (xs.getD i 0))) (hc2 : w.cell? ⟨b2, 0, none⟩ = some (.int .u8 45)) :
    Calls Tryd.prog 21 #[.slice (some ⟨g, o, none⟩) n c, .slice (some ⟨b2, 0, none⟩) 1 d] w fun e w' => e = .returned (.slice (some ⟨g, o, none⟩) n c) ∧ w' = w := by
  have h := Any.bytes_TrimPrefix Tryd.laysnb139 g o n c b2 0 1 d xs [45] w hx rfl hnc hc1 (fun i hi => by
    have h0 : i = 0 := by omega
    subst h0; exact hc2)
  have e : Lib.bytesTrimPrefix g o n c xs [45] = .slice (some ⟨g, o, none⟩) n c := by
    unfold Lib.bytesTrimPrefix
    rw [if_neg]
    cases xs with
    | nil => simp at hx; omega
    | cons x r =>
      simp only [List.getD_cons_zero] at h0 h1
      have hne : UInt8.ofNat x.toNat ≠ 45 := by
        intro e
        have := congrArg UInt8.toNat e
        rw [UInt8.toNat_ofNat'] at this
        simp at this
        omega
      simp [Lib.bytesOf, Lib.hasPrefix, List.isPrefixOf]
      exact fun e => hne e.symm
  rw [e] at h
  exact h

theorem bel_drewN {B : Nat} {a w : World} (h : Below B a w) (n : Nat) : Below B a (w.drewN n) := ⟨h.os, h.tape, h.output, h.size, h.block⟩

def ParseK (s : ByteArray) (v : Int) : Prop := ∀ w0, Calls Tryd.prog 22 #[.string s, .int .i64 10, .int .i64 64] w0 fun e w' => e = .returned (.tuple #[.int .i64 v, .nilIface]) ∧ Below w0.heap.size w0 w'

set_option maxHeartbeats 800000 in
theorem parse_walk (g o n c : Nat) (xs : List Int) (s : ByteArray) (v x0 : Int) (hx : Hid (xs.length = n)) (hn : 0 < n) (hn8 : n ≤ 8) (hnc : n ≤ c) (w : World) (hg : g < w.heap.size)
    (hc1 : ∀ i, i < n → w.cell? ⟨g, o + i, none⟩ = some (.int .u8 (xs.getD i 0))) (hr : ∀ i, i < n → 48 ≤ xs.getD i 0 ∧ xs.getD i 0 ≤ 57) (hx0 : Hid (xs.getD 0 0 = x0)) (hz : (x0 = 48 ∧ n = 1) ∨ 49 ≤ x0)
    (hcv : ∀ W, (∀ i, i < n → W.cell? ⟨g, o + i, none⟩ = some (.int .u8 (xs.getD i 0))) → (convert 24 9 (.slice (some ⟨g, o, none⟩) n c)).run Tryd.prog W = .ok (.string s) W) (K : ParseK s v) :
    Calls Tryd.prog 8 #[.slice (some ⟨g, o, none⟩) n c] w fun e w' => e = .returned (.tuple #[.int .i64 v, .bool true]) ∧ Below w.heap.size w w' := by
  have kc := fun (w : World) (C : Array Value) (n c : Nat) => Lib.run_convert_bytes_const (P := Tryd.prog) w 24 5 C n c Tryd.underlying24 Tryd.underlying5
  have hcW : ∀ (ob : Obj) i, i < n → (w.alloc ob).cell? ⟨g, o + i, none⟩ = some (.int .u8 (xs.getD i 0)) := fun ob i hi => Lib.cell?_alloc_marked ob (hc1 i hi)
  have hcv' := fun (ob : Obj) => hcv (w.alloc ob) (hcW ob)
  have r0 := hr 0 hn
  rw [hx0.out] at r0
  obtain ⟨r01, r02⟩ := r0
  have d0 : ∀ (ob : Obj), (w.alloc ob).cell? ⟨g, o, none⟩ = some (.int .u8 x0) := fun ob => by have := hcW ob 0 hn; rw [hx0.out] at this; exact this
  have T : ∀ (ob : Obj), (w.alloc ob).cell? ⟨w.heap.size, 0, none⟩ = some (.int .u8 45) → Calls Tryd.prog 21 #[.slice (some ⟨g, o, none⟩) n c, .slice (some ⟨w.heap.size, 0, none⟩) 1 1] (w.alloc ob) fun e w' => e = .returned (.slice (some ⟨g, o, none⟩) n c) ∧ w' = w.alloc ob :=
    fun ob h => trim_dig g o n c _ 1 xs _ hx.out hn hnc (by rw [hx0.out]; exact r01) (by rw [hx0.out]; exact r02) (hcW ob) h
  clear hcv hc1
  rcases hz with ⟨rfl, rfl⟩ | hz
  · have tok : True := trivial
    go_enter Tryd.func8, Tryd.ntmps8
    go_wp2_with (go_at_call 21; go_must (refine (T _ (World.cell?_alloc_mark w #[.int .u8 45] 5 _ 0)).mono ?_; rintro e w' ⟨rfl, rfl⟩))
    refine wp_loop_rounds 2 ?_
    rw [rounds_succ]
    go_wp2
    rw [rounds_succ]
    go_wp2_with (go_at_call 22; go_must (refine (K _).mono ?_; rintro e w1 ⟨rfl, b1⟩))
    go_quiet (fail)
    go_wp2
    go_ret2
    exact ⟨rfl, bel_drewN (((Below.refl _ _).alloc (Nat.le_refl _) _).trans (b1.mono (by simp))) _⟩
  · have q1 : ((n : Int) == 0) = false := by simp; omega
    have q2 : (x0 == 48) = false := by simp; omega
    go_enter Tryd.func8, Tryd.ntmps8
    go_wp2_with (go_at_call 21; go_must (refine (T _ (World.cell?_alloc_mark w #[.int .u8 45] 5 _ 0)).mono ?_; rintro e w' ⟨rfl, rfl⟩))
    clear T d0 hz q1 q2 r01 r02
    go_loop [38] (fun i => ∃ k : Nat, k ≤ n ∧ i = .int .i64 k) (fun i => n - (intOf i).toNat)
    case atStart => exact ⟨0, Nat.zero_le _, rfl⟩
    case round =>
      obtain ⟨k, hk, rfl⟩ := hrel
      by_cases hlt : k < n
      · have dk := fun (ob : Obj) => hcW ob k hlt
        obtain ⟨rk1, rk2⟩ := hr k hlt
        clear hr hcW hcv'
        obtain ⟨y, hy⟩ : ∃ y, xs.getD k 0 = y := ⟨_, rfl⟩
        simp only [hy] at dk
        rw [hy] at rk1 rk2
        clear hy
        go_wp2
        go_round
        case rel => exact ⟨k + 1, by omega, by go_num⟩
        case measure => simp [intOf]; omega
      · clear hr hcW
        go_wp2_with (go_at_call 22; go_must (refine (K _).mono ?_; rintro e w1 ⟨rfl, b1⟩))
        go_quiet (fail)
        go_wp2
        go_ret2
        exact ⟨rfl, bel_drewN (((Below.refl _ _).alloc (Nat.le_refl _) _).trans (b1.mono (by simp))) _⟩

/-- The digits of m as numbers. -/
def digs (m : Nat) : List Int := (Lib.decDigits m).map fun b => (b.toNat : Int)
theorem digs_len (m : Nat) : (digs m).length = (Lib.decDigits m).length := by simp [digs]
theorem digs_bytes (m : Nat) : Lib.bytesOf (digs m) = Lib.decDigits m := by
  unfold Lib.bytesOf digs
  rw [List.map_map]
  conv => rhs; rw [← List.map_id (Lib.decDigits m)]
  apply List.map_congr_left
  intro b _
  simp
theorem decDigits_zero : Lib.decDigits 0 = [48] := by rw [Lib.decDigits_one (by decide)]; rfl
theorem digs_range (m i : Nat) (hi : i < (Lib.decDigits m).length) : 48 ≤ (digs m).getD i 0 ∧ (digs m).getD i 0 ≤ 57 := by
  have h := dd_range m _ (List.getElem_mem hi)
  have e : (digs m).getD i 0 = ((Lib.decDigits m)[i].toNat : Int) := by
    simp [digs, List.getD_eq_getElem?_getD, List.getElem?_map, List.getElem?_eq_getElem hi]
  rw [e]; omega
theorem digs_head (m : Nat) : ((digs m).getD 0 0 = 48 ∧ (Lib.decDigits m).length = 1) ∨ 49 ≤ (digs m).getD 0 0 := by
  obtain ⟨c, r, e, h1, h2⟩ := dd_head m
  have ed : (digs m).getD 0 0 = (c.toNat : Int) := by simp [digs, e]
  rw [ed, e]
  by_cases hm : 1 ≤ m
  · right; have := h1 hm; omega
  · left
    have hm0 : m = 0 := by omega
    subst hm0
    have e' := decDigits_zero
    rw [e] at e'
    injection e' with e1 e2
    subst e1; subst e2
    exact ⟨rfl, rfl⟩

theorem parse_any (g o c m : Nat) (hm : m ≤ 1048576) (w : World) (hg : g < w.heap.size) (hc : (Lib.decDigits m).length ≤ c)
    (hcell : ∀ i, i < (Lib.decDigits m).length → w.cell? ⟨g, o + i, none⟩ = some (.int .u8 ((digs m).getD i 0))) :
    Calls Tryd.prog 8 #[.slice (some ⟨g, o, none⟩) (Lib.decDigits m).length c] w fun e w' => e = .returned (.tuple #[.int .i64 (m : Int), .bool true]) ∧ Below w.heap.size w w' := by
  have hl := dd_len m hm
  have hs : (strOfNums (digs m)).data.toList = Lib.decDigits m := (show (strOfNums (digs m)).data.toList = Lib.bytesOf (digs m) from rfl).trans (digs_bytes m)
  refine parse_walk g o _ c (digs m) (strOfNums (digs m)) (m : Int) _ (digs_len m) (by omega) hl.2 hc w hg hcell (digs_range m) rfl (digs_head m) (fun W hW => ?_) (fun w0 => ?_)
  · exact run_convert_bytes_arg (P := Tryd.prog) W 24 5 Tryd.underlying24 Tryd.underlying5 g o _ c (digs m) (digs_len m) hW 9 Tryd.underlying9
  · refine (Any.strconv_ParseInt_10_at64_ok Tryd.laysC174 (strOfNums (digs m)) ?_ (m : Int) (by rw [hs]; exact parseInt_dd m hm) w0).mono ?_
    · have : (strOfNums (digs m)).size = (digs m).length := by simp only [strOfNums, ByteArray.size, List.size_toArray, List.length_map]
      rw [this, digs_len]; omega
    · rintro e w' ⟨rfl, h⟩
      rcases h with rfl | ⟨t, rfl⟩
      · exact ⟨rfl, Below.refl _ _⟩
      · exact ⟨rfl, Joins.below_bytesWorld _ _ _ _ (Nat.le_refl _)⟩
end Go.Proofs.Qxb6600527aDoor
