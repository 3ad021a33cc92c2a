/- Plain facts on decimal digits: no Go in sight. -/
import Derived.Lib.ItoaNum
import Derived.Lib.ParseIntB
namespace Go.Proofs.Qxb6600527aDoor
open Go.Lib

theorem dd_range (u : Nat) : ∀ b ∈ decDigits u, 48 ≤ b.toNat ∧ b.toNat ≤ 57 := by
  induction u using Nat.strongRecOn with
  | _ u ih =>
    rw [decDigits]
    split
    · intro b hb
      rw [List.mem_singleton] at hb
      subst hb
      have : (UInt8.ofNat (48 + u)).toNat = 48 + u := by rw [UInt8.toNat_ofNat']; omega
      omega
    · intro b hb
      rw [List.mem_append, List.mem_singleton] at hb
      rcases hb with hb | hb
      · exact ih (u / 10) (by omega) b hb
      · subst hb
        have : (UInt8.ofNat (48 + u % 10)).toNat = 48 + u % 10 := by rw [UInt8.toNat_ofNat']; omega
        omega

theorem dd_head (u : Nat) : ∃ c r, decDigits u = c :: r ∧ (1 ≤ u → 49 ≤ c.toNat) ∧ (u < 10 → r = []) := by
  induction u using Nat.strongRecOn with
  | _ u ih =>
    by_cases h : u < 10
    · refine ⟨_, [], decDigits_one h, fun h1 => ?_, fun _ => rfl⟩
      have : (UInt8.ofNat (48 + u)).toNat = 48 + u := by rw [UInt8.toNat_ofNat']; omega
      omega
    · obtain ⟨c, r, e, h1, _⟩ := ih (u / 10) (by omega)
      refine ⟨c, r ++ [UInt8.ofNat (48 + u % 10)], ?_, fun _ => h1 (by omega), fun h' => absurd h' h⟩
      rw [decDigits, dif_neg h, e]; rfl

theorem parse_append (M : Nat) : ∀ (l : List UInt8) (acc a : Nat) (r : List UInt8), parseUintM M acc l = .ok a → parseUintM M acc (l ++ r) = parseUintM M a r
  | [], acc, a, r, h => by
    simp only [parseUintM] at h
    injection h with h
    subst h; rfl
  | c :: l, acc, a, r, h => by
    simp only [parseUintM, List.cons_append] at h ⊢
    split at h
    · rename_i h1
      rw [if_pos h1]
      split at h
      · cases h
      · rename_i h2
        rw [if_neg h2]
        split at h
        · cases h
        · rename_i h3
          rw [if_neg h3]
          exact parse_append M l _ a r h
    · cases h

theorem parse_dd (u : Nat) (hu : u ≤ 1048576) : parseUintM (2 ^ 64 - 1) 0 (decDigits u) = .ok u := by
  induction u using Nat.strongRecOn with
  | _ u ih =>
    by_cases h : u < 10
    · rw [decDigits_one h]
      have e : (UInt8.ofNat (48 + u)).toNat = 48 + u := by rw [UInt8.toNat_ofNat']; omega
      simp only [parseUintM, e]
      rw [if_pos (by omega), if_neg (by omega), if_neg (by omega)]
      congr 1; omega
    · rw [decDigits, dif_neg h]
      rw [parse_append _ _ _ _ _ (ih (u / 10) (by omega) (by omega))]
      have e : (UInt8.ofNat (48 + u % 10)).toNat = 48 + u % 10 := by rw [UInt8.toNat_ofNat']; omega
      simp only [parseUintM, e]
      rw [if_pos (by omega), if_neg (by omega), if_neg (by omega)]
      congr 1; omega

theorem parseInt_dd (u : Nat) (hu : u ≤ 1048576) : parseIntB 64 (decDigits u) = .ok (u : Int) := by
  obtain ⟨c, r, e, _, _⟩ := dd_head u
  have hc := dd_range u c (by rw [e]; simp)
  have hp := parse_dd u hu
  rw [e] at hp ⊢
  unfold parseIntB parseUintB
  have n1 : ¬ c.toNat = 43 := by omega
  have n2 : ¬ c.toNat = 45 := by omega
  simp only [n1, n2, if_false, or_self, reduceCtorEq]
  rw [hp]
  simp only [not_false_eq_true, true_and, false_and, if_false]
  rw [if_neg (by omega)]

theorem dd_len (u : Nat) (hu : u ≤ 1048576) : 1 ≤ (decDigits u).length ∧ (decDigits u).length ≤ 8 := by
  have key : ∀ k u, u < 10 ^ (k + 1) → (decDigits u).length ≤ k + 1 := by
    intro k
    induction k with
    | zero => intro u h; rw [decDigits_one (by omega)]; simp
    | succ k ih =>
      intro u h
      by_cases h' : u < 10
      · rw [decDigits_one h']; simp
      · rw [decDigits, dif_neg h', List.length_append]
        have := ih (u / 10) (by have : 10 ^ (k + 1 + 1) = 10 ^ (k + 1) * 10 := Nat.pow_succ _ _; omega)
        simp; omega
  refine ⟨?_, key 7 u (by omega)⟩
  obtain ⟨c, r, e, _, _⟩ := dd_head u
  rw [e]; simp
end Go.Proofs.Qxb6600527aDoor
