import Derived.Lib.ItoaLen
namespace Go.Proofs.Qxb6605507aDoor
open Go.Lib

def stepD (a : Nat) (c : UInt8) : Nat := a * 10 + (c.toNat - 48)
/-- the number that a list of digits stands for -/
def valD (a : Nat) (l : List UInt8) : Nat := l.foldl stepD a

theorem valD_nil (a : Nat) : valD a [] = a := by unfold valD; rfl
theorem valD_cons (a : Nat) (c : UInt8) (l : List UInt8) : valD a (c :: l) = valD (stepD a c) l := by unfold valD; rw [List.foldl_cons]
theorem valD_append (a : Nat) (l m : List UInt8) : valD a (l ++ m) = valD (valD a l) m := by unfold valD; rw [List.foldl_append]

theorem dig_toNat (d : Nat) (h : d < 10) : (UInt8.ofNat (48 + d)).toNat = 48 + d := by
  rw [UInt8.toNat_ofNat']; omega

theorem dec_small {u : Nat} (h : u < 10) : decDigits u = [UInt8.ofNat (48 + u)] := by rw [decDigits, dif_pos h]
theorem dec_big {u : Nat} (h : ¬ u < 10) : decDigits u = decDigits (u / 10) ++ [UInt8.ofNat (48 + u % 10)] := by rw [decDigits, dif_neg h]

theorem valD_one (a d : Nat) (h : d < 10) : valD a [UInt8.ofNat (48 + d)] = a * 10 + d := by
  rw [valD_cons, valD_nil]; unfold stepD; rw [dig_toNat d h]; omega

theorem valD_dec (u : Nat) : valD 0 (decDigits u) = u := by
  induction u using Nat.strongRecOn with
  | _ u ih =>
    by_cases h : u < 10
    · rw [dec_small h, valD_one 0 u h]; omega
    · rw [dec_big h, valD_append, ih (u / 10) (by omega), valD_one _ _ (by omega)]
      omega

theorem dec_digit (u : Nat) : ∀ c ∈ decDigits u, 48 ≤ c.toNat ∧ c.toNat ≤ 57 := by
  induction u using Nat.strongRecOn with
  | _ u ih =>
    by_cases h : u < 10
    · rw [dec_small h]; intro c hc; rw [List.mem_singleton.1 hc, dig_toNat u h]; omega
    · rw [dec_big h]; intro c hc
      rcases List.mem_append.1 hc with hc | hc
      · exact ih (u / 10) (by omega) c hc
      · rw [List.mem_singleton.1 hc, dig_toNat _ (by omega)]; omega

theorem dec_head (u : Nat) : ∃ c l, decDigits u = c :: l ∧ (c.toNat = 48 → u = 0 ∧ l = []) := by
  induction u using Nat.strongRecOn with
  | _ u ih =>
    by_cases h : u < 10
    · rw [dec_small h]; exact ⟨_, [], rfl, fun e => by rw [dig_toNat u h] at e; exact ⟨by omega, rfl⟩⟩
    · obtain ⟨c, l, e, hc⟩ := ih (u / 10) (by omega)
      rw [dec_big h, e]
      exact ⟨c, _, rfl, fun hc0 => by have := (hc hc0).1; omega⟩

theorem valD_ge (a : Nat) (l : List UInt8) : a ≤ valD a l := by
  induction l generalizing a with
  | nil => exact Nat.le_refl _
  | cons c l ih => have := ih (stepD a c); rw [valD_cons]; unfold stepD at *; omega

/-- what the first j digits say is no more than what all say -/
theorem valD_take_le (u j : Nat) : valD 0 ((decDigits u).take j) ≤ u := by
  have h := valD_dec u
  rw [← List.take_append_drop j (decDigits u), valD_append] at h
  have := valD_ge (valD 0 ((decDigits u).take j)) ((decDigits u).drop j)
  omega

theorem valD_take_succ (l : List UInt8) (j : Nat) (hj : j < l.length) : valD 0 (l.take (j + 1)) = valD 0 (l.take j) * 10 + (l[j].toNat - 48) := by
  rw [List.take_succ_eq_append_getElem hj, valD_append, valD_cons, valD_nil, stepD]

theorem pow_of_nDigits : ∀ (k u : Nat), k < nDigits u → u ≠ 0 → 10 ^ k ≤ u := by
  intro k
  induction k with
  | zero => intro u _ h; simp; omega
  | succ k ih =>
    intro u hk hu
    by_cases h10 : u < 10
    · rw [nDigits_small h10] at hk; omega
    · rw [nDigits_big h10] at hk
      have := ih (u / 10) (by omega) (by omega)
      rw [Nat.pow_succ]; omega

theorem nDigits_le19 (u : Nat) (h : u ≤ 9223372036854775808) : nDigits u ≤ 19 := by
  by_cases h1 : nDigits u ≤ 19
  · exact h1
  · exfalso
    have h2 := pow_of_nDigits 19 u (by omega) (by intro e; subst e; rw [nDigits_small (by omega)] at h1; omega)
    have h3 : (10 : Nat) ^ 19 = 10000000000000000000 := by decide
    omega

theorem dec_len (u : Nat) (h : u ≤ 9223372036854775808) : 1 ≤ (decDigits u).length ∧ (decDigits u).length ≤ 19 := by
  rw [decDigits_length]; exact ⟨nDigits_pos u, nDigits_le19 u h⟩

end Go.Proofs.Qxb6605507aDoor
