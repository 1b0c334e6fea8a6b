/-
  THE READERS, ONE MORE: readInt at a negative number.
-/
import Derived.Test.Qxb6605507aDoorRead
namespace Go.Proofs.Qxb6605507aDoor
open Go.RowKit Go.Lib

set_option maxHeartbeats 1000000 in
theorem int_neg (g cap : Nat) (L : List UInt8) (st u : Nat) (w : World) (hR : RowOf w g L) (hL : L.length ≤ 100000) (hu1 : 1 ≤ u) (hu : u ≤ 9223372036854775808) (hs45 : L.getD st 0 = 45) (hN : NumAt L (st + 1) (decDigits u)) :
    Calls Tryd.prog 29 #[.slice (some ⟨g, 0, none⟩) L.length cap, .int .i64 st] w fun e w' => e = .returned (.tuple #[.int .i64 (-(u : Int)), .int .i64 ((st + 1 + (decDigits u).length : Nat) : Int), .bool true]) ∧ w' = w := by
  obtain ⟨hlt, hat, hnd⟩ := hN
  have hdig := dec_digit u
  have hlen := dec_len u (by omega)
  have hval := valD_dec u
  have hle := valD_take_le u
  obtain ⟨c0, l0, he0, hz0⟩ := dec_head u
  obtain ⟨D, hD⟩ : ∃ D, D = decDigits u := ⟨_, rfl⟩
  rw [← hD] at hlt hat hnd hdig hlen hval hle he0 ⊢
  clear hD
  have h0 := hat 0 (by omega)
  have hc0 : D.getD 0 0 = c0 := by rw [he0]; rfl
  have hd0 := hdig c0 (by rw [he0]; simp)
  have hcell0 : w.cell? ⟨g, st + 1, none⟩ = some (.int .u8 (c0.toNat : Int)) := by
    have := hR (st + 1) (by omega); rw [Nat.add_zero] at h0; rw [h0, hc0] at this; exact this
  have hcellm : w.cell? ⟨g, st, none⟩ = some (.int .u8 45) := by
    have := hR st (by omega); rw [hs45] at this; exact this
  have hb0 : (st : Int) < (L.length : Int) := by omega
  have hb00 : (st : Int) + 1 < (L.length : Int) := by omega
  have hz' : ((c0.toNat : Int) == 48) = false := by
    simp; intro e; have := (hz0 (by omega)).1; omega
  have HV : Hid (valD 0 D = u) := hval
  have HAT : Hid (∀ t, t < D.length → L.getD (st + 1 + t) 0 = D.getD t 0) := hat
  have HE : Hid (D = c0 :: l0) := he0
  clear hval hat he0 h0 hc0 hs45 hz0
  go_enter Tryd.func29, Tryd.ntmps29
  go_wp2
  go_loop [1, 9] (fun i n => ∃ j v : Nat, j ≤ D.length ∧ i = .int .i64 ((st + 1 + j : Nat) : Int) ∧ n = .int .u64 (v : Int) ∧ v = valD 0 (D.take j)) (fun i _ => st + 1 + D.length - (intOf i).toNat)
  case atStart => exact ⟨0, 0, Nat.zero_le _, by go_num, by go_num, by rw [List.take_zero, valD_nil]⟩
  case round =>
    obtain ⟨j, v, hj, rfl, rfl, hv⟩ := hrel
    have HW : Hid (v = valD 0 (D.take j)) := hv
    clear hv
    by_cases hjl : j < D.length
    · obtain ⟨c, hc⟩ : ∃ c, c = D.getD j 0 := ⟨_, rfl⟩
      have hcell : w.cell? ⟨g, st + 1 + j, none⟩ = some (.int .u8 (c.toNat : Int)) := by rw [hc, ← HAT.out j hjl]; exact hR (st + 1 + j) (by omega)
      have hcd := hdig c (by rw [hc, getD_lt _ _ hjl]; exact List.getElem_mem hjl)
      have hstep := step_val D j hjl c hc hcd.1
      have hle2 := hle (j + 1)
      have hvb : v * 10 + (c.toNat - 48) ≤ 9223372036854775808 := by rw [← HW.out] at hstep; omega
      have HS : Hid (((valD 0 (D.take (j + 1)) : Nat) : Int) = (v : Int) * 10 + ((c.toNat : Int) - 48)) := by rw [← HW.out] at hstep; exact hstep
      have hb1 : ((st + 1 + j : Nat) : Int) < (L.length : Int) := by omega
      have h48 : (48 : Int) ≤ (c.toNat : Int) := by omega
      have h57 : (c.toNat : Int) ≤ 57 := by omega
      clear hstep hle2 hle hdig hc hcell0 hcellm hz'
      go_wp2
      go_round
      case rel => exact ⟨j + 1, valD 0 (D.take (j + 1)), by omega, by go_num, by rw [HS.out], rfl⟩
      case measure => simp [intOf]; omega
    · have hje : j = D.length := by omega
      have HJ : Hid (j = D.length) := hje
      obtain ⟨r, hr⟩ : ∃ r, r = L.getD (st + 1 + D.length) 0 := ⟨_, rfl⟩
      have hcell : w.cell? ⟨g, st + 1 + j, none⟩ = some (.int .u8 (r.toNat : Int)) := by rw [hr, hje]; exact hR (st + 1 + D.length) (by omega)
      rw [← hr] at hnd
      have hve : v = u := by rw [HW.out, hje, List.take_length]; exact HV.out
      subst hve
      have hb1 : ((st + 1 + j : Nat) : Int) < (L.length : Int) := by omega
      clear hr hje
      have hj1 : 1 ≤ j := by rw [HJ.out]; exact hlen.1
      by_cases hr1 : (48 : Int) ≤ (r.toNat : Int)
      all_goals by_cases hm : v < 9223372036854775808
      · have h57 : (57 : Int) < (r.toNat : Int) := by omega
        go_wp2
        go_ret3
        exact ⟨by rw [HJ.out]; rfl, rfl⟩
      · have h57 : (57 : Int) < (r.toNat : Int) := by omega
        have hv1 : (9223372036854775808 : Int) ≤ (v : Int) := by omega
        have hv2 : (v : Int) ≤ 9223372036854775808 := by omega
        have HM : Hid ((-9223372036854775808 : Int) = -(v : Int)) := by show _ = _; omega
        clear hm
        go_wp2
        go_ret3
        exact ⟨by rw [HJ.out, ← HM.out]; rfl, rfl⟩
      · have hr2 : (r.toNat : Int) < 48 := by omega
        go_wp2
        go_ret3
        exact ⟨by rw [HJ.out]; rfl, rfl⟩
      · have hr2 : (r.toNat : Int) < 48 := by omega
        have hv1 : (9223372036854775808 : Int) ≤ (v : Int) := by omega
        have hv2 : (v : Int) ≤ 9223372036854775808 := by omega
        have HM : Hid ((-9223372036854775808 : Int) = -(v : Int)) := by show _ = _; omega
        clear hm
        go_wp2
        go_ret3
        exact ⟨by rw [HJ.out, ← HM.out]; rfl, rfl⟩

/-- itoa n stands at i, and behind it a byte that is no digit. -/
theorem int_any_at (g cap : Nat) (L : List UInt8) (st : Nat) (n : Int) (w : World) (hR : RowOf w g L) (hL : L.length ≤ 100000) (h0 : -9223372036854775808 ≤ n) (h1 : n ≤ 9223372036854775807) (hN : NumAt L st (itoa n)) :
    Calls Tryd.prog 29 #[.slice (some ⟨g, 0, none⟩) L.length cap, .int .i64 st] w fun e w' => e = .returned (.tuple #[.int .i64 n, .int .i64 ((st + (itoa n).length : Nat) : Int), .bool true]) ∧ w' = w := by
  by_cases hneg : n < 0
  · obtain ⟨u, rfl⟩ : ∃ u : Nat, n = -(u : Int) := ⟨n.natAbs, by omega⟩
    rw [itoa_neg u (by omega)] at hN ⊢
    obtain ⟨a, b, c⟩ := hN
    have hs45 : L.getD st 0 = 45 := b 0 (by simp)
    have e : st + 1 + (decDigits u).length = st + (45 :: decDigits u).length := by simp; omega
    refine (int_neg g cap L st u w hR hL (by omega) (by omega) hs45 ⟨by rw [e]; exact a, fun t ht => ?_, by rw [e]; exact c⟩).mono ?_
    · have := b (t + 1) (by simpa using ht)
      rw [show st + 1 + t = st + (t + 1) by omega, this]; rfl
    · rintro e' w' ⟨rfl, rfl⟩
      exact ⟨by rw [e], rfl⟩
  · obtain ⟨u, rfl⟩ : ∃ u : Nat, n = (u : Int) := ⟨n.toNat, by omega⟩
    rw [itoa_nonneg] at hN ⊢
    exact int_pos g cap L st u w hR hL (by omega) hN
end Go.Proofs.Qxb6605507aDoor
