/-
  THE READERS: hasAt, eat, readInt over a row of bytes.
-/
import Derived.Test.Qxb6605507aDoorChecked
import Derived.Test.Qxb6605507aDoorDigits
import Derived.WalkKit
import Derived.Below
import Derived.KernelRfl
import Derived.Deep.QuietTactic
import Derived.BigQuiet
namespace Go.Proofs.Qxb6605507aDoor
open Go.RowKit Go.Lib

/-- The cells from the head of block g on hold these bytes. -/
def RowOf (w : World) (g : Nat) (L : List UInt8) : Prop := ∀ j, j < L.length → w.cell? ⟨g, j, none⟩ = some (.int .u8 ((L.getD j 0).toNat : Int))

/-- Does lit stand at i? -/
def hasB (L : List UInt8) (i : Nat) (lit : List UInt8) : Bool := decide (lit = (L.drop i).take lit.length)

theorem hasB_short {L : List UInt8} {i : Nat} {lit : List UInt8} (h : L.length < i + lit.length) (hl : 0 < lit.length) : hasB L i lit = false := by
  unfold hasB
  rw [decide_eq_false_iff_not]
  intro e
  have := congrArg List.length e
  simp at this
  omega

theorem getD_lt (l : List UInt8) (j : Nat) (h : j < l.length) : l.getD j 0 = l[j] := by simp [List.getD, h]
theorem ret_bool {a b : Bool} (h : a = b) : Ending.returned (.bool a) = .returned (.bool b) := by rw [h]

theorem hasB_yes {L : List UInt8} {i : Nat} {lit : List UInt8} (hl : i + lit.length ≤ L.length) (h : ∀ t, t < lit.length → L.getD (i + t) 0 = lit.getD t 0) : hasB L i lit = true := by
  unfold hasB
  rw [decide_eq_true_iff]
  apply List.ext_getElem
  · simp; omega
  · intro t h1 h2
    have := h t h1
    simp only [List.getElem_take, List.getElem_drop]
    rw [getD_lt _ _ (by omega), getD_lt _ _ h1] at this
    exact this.symm

theorem hasB_no {L : List UInt8} {i : Nat} {lit : List UInt8} {t : Nat} (ht : t < lit.length) (h : L.getD (i + t) 0 ≠ lit.getD t 0) : hasB L i lit = false := by
  unfold hasB
  rw [decide_eq_false_iff_not]
  intro e
  apply h
  have e2 : lit[t]? = ((L.drop i).take lit.length)[t]? := by rw [← e]
  rw [List.getElem?_take_of_lt ht, List.getElem?_drop] at e2
  rw [List.getD_eq_getElem?_getD, List.getD_eq_getElem?_getD, e2]

theorem lit_at (lit : ByteArray) (j : Nat) (h : j < lit.size) : lit.data.toList.getD j 0 = lit[j] := by
  have h' : j < lit.data.toList.length := by rw [Array.length_toList]; exact h
  rw [getD_lt _ _ h', Array.getElem_toList]; rfl
theorem lit_len (lit : ByteArray) : lit.data.toList.length = lit.size := by rw [Array.length_toList]; rfl
theorem u8_ne {a b : UInt8} (h : ((a.toNat : Int) != (b.toNat : Int)) = true) : a ≠ b := by
  intro e; subst e; simp at h
theorem u8_eq {a b : UInt8} (h : ((a.toNat : Int) != (b.toNat : Int)) = false) : a = b := by
  simp at h; exact UInt8.toNat_inj.1 (by omega)

set_option maxHeartbeats 400000 in
theorem has_any (g cap : Nat) (L : List UInt8) (i : Nat) (lit : ByteArray) (w : World) (hR : RowOf w g L) (hi : i ≤ L.length) (hL : L.length ≤ 100000) (hlit : lit.size ≤ 1000) :
    Calls Tryd.prog 32 #[.slice (some ⟨g, 0, none⟩) L.length cap, .int .i64 i, .string lit] w fun e w' => e = .returned (.bool (hasB L i lit.data.toList)) ∧ ∃ n, w' = w.drewN n := by
  by_cases hs : L.length < i + lit.size
  · go_enter Tryd.func32, Tryd.ntmps32
    go_wp2
    go_ret
    refine ⟨ret_bool ?_, 0, rfl⟩
    by_cases h0 : 0 < lit.size
    · rw [hasB_short (by rw [lit_len]; exact hs) (by rw [lit_len]; exact h0)]
    · omega
  · go_enter Tryd.func32, Tryd.ntmps32
    go_wp2
    go_loopw [7] (fun k wr => ∃ j : Nat, j ≤ lit.size ∧ k = .int .i64 j ∧ (∀ t, t < j → L.getD (i + t) 0 = lit.data.toList.getD t 0) ∧ ∃ n, wr = w.drewN n) (fun k _ => lit.size - (intOf k).toNat)
    case atStart => exact ⟨0, Nat.zero_le _, rfl, fun t ht => by omega, 0, rfl⟩
    case round =>
      obtain ⟨j, hj, rfl, hpre, n, rfl⟩ := hrel
      by_cases hlt : j < lit.size
      · obtain ⟨c, hc⟩ : ∃ c, c = L.getD (i + j) 0 := ⟨_, rfl⟩
        have hcell : w.cell? ⟨g, i + j, none⟩ = some (.int .u8 (c.toNat : Int)) := by rw [hc]; exact hR (i + j) (by omega)
        have HC : Hid (c = L.getD (i + j) 0) := hc
        have hb1 : (i : Int) + (j : Int) < (L.length : Int) := by omega
        have hb2 : (0 : Int) ≤ (i : Int) + (j : Int) := by omega
        have hb3 : (j : Int) < (lit.size : Int) := by omega
        clear hc
        go_wp2
        go_quiet (fail)
        go_wp2
        · go_ret
          have hne : ((c.toNat : Int) != (lit[j].toNat : Int)) = true := by assumption
          refine ⟨ret_bool ?_, n + nq, by simp⟩
          rw [hasB_no (t := j) (by rw [lit_len]; exact hlt) (by rw [lit_at _ _ hlt, ← HC.out]; exact u8_ne hne)]
        · have heq : ((c.toNat : Int) != (lit[j].toNat : Int)) = false := by assumption
          go_roundw
          case rel =>
            refine ⟨j + 1, by omega, by go_num, fun t ht => ?_, _, rfl⟩
            by_cases htj : t = j
            · subst htj; rw [← HC.out, lit_at _ _ hlt]; exact u8_eq heq
            · exact hpre t (by omega)
          case measure => simp [intOf]; omega
      · go_wp2
        go_ret
        refine ⟨ret_bool ?_, _, rfl⟩
        rw [hasB_yes (by rw [lit_len]; omega) (fun t ht => hpre t (by rw [lit_len] at ht; omega))]

set_option maxHeartbeats 400000 in
theorem eat_yes (g cap : Nat) (L : List UInt8) (i : Nat) (lit : ByteArray) (w : World) (hR : RowOf w g L) (hi : i ≤ L.length) (hL : L.length ≤ 100000) (hlit : lit.size ≤ 1000) (hh : hasB L i lit.data.toList = true) :
    Calls Tryd.prog 28 #[.slice (some ⟨g, 0, none⟩) L.length cap, .int .i64 i, .string lit] w fun e w' => e = .returned (.tuple #[.int .i64 ((i + lit.size : Nat) : Int), .bool true]) ∧ ∃ n, w' = w.drewN n := by
  go_enter Tryd.func28, Tryd.ntmps28
  go_wp2_with fail
  refine (has_any g cap L i lit w hR hi hL hlit).mono ?_
  rintro e w1 ⟨rfl, n, rfl⟩
  rw [hh]
  go_wp2
  go_ret2
  exact ⟨by go_num, n, rfl⟩

set_option maxHeartbeats 400000 in
theorem eat_no (g cap : Nat) (L : List UInt8) (i : Nat) (lit : ByteArray) (w : World) (hR : RowOf w g L) (hi : i ≤ L.length) (hL : L.length ≤ 100000) (hlit : lit.size ≤ 1000) (hh : hasB L i lit.data.toList = false) :
    Calls Tryd.prog 28 #[.slice (some ⟨g, 0, none⟩) L.length cap, .int .i64 i, .string lit] w fun e w' => e = .returned (.tuple #[.int .i64 i, .bool false]) ∧ ∃ n, w' = w.drewN n := by
  go_enter Tryd.func28, Tryd.ntmps28
  go_wp2_with fail
  refine (has_any g cap L i lit w hR hi hL hlit).mono ?_
  rintro e w1 ⟨rfl, n, rfl⟩
  rw [hh]
  go_wp2
  go_ret2
  exact ⟨by go_num, n, rfl⟩

/-- D stands at st, and behind it a byte that is no digit. -/
def NumAt (L : List UInt8) (st : Nat) (D : List UInt8) : Prop :=
  st + D.length < L.length ∧ (∀ t, t < D.length → L.getD (st + t) 0 = D.getD t 0) ∧ ¬ (48 ≤ (L.getD (st + D.length) 0).toNat ∧ (L.getD (st + D.length) 0).toNat ≤ 57)

theorem step_val (D : List UInt8) (j : Nat) (hj : j < D.length) (c : UInt8) (hc : c = D.getD j 0) (h48 : 48 ≤ c.toNat) : ((valD 0 (D.take (j + 1)) : Nat) : Int) = (valD 0 (D.take j) : Int) * 10 + ((c.toNat : Int) - 48) := by
  rw [valD_take_succ D j hj, hc, getD_lt D j hj]
  rw [hc, getD_lt D j hj] at h48
  omega

set_option maxHeartbeats 1000000 in
theorem int_pos (g cap : Nat) (L : List UInt8) (st u : Nat) (w : World) (hR : RowOf w g L) (hL : L.length ≤ 100000) (hu : u ≤ 9223372036854775807) (hN : NumAt L st (decDigits u)) :
    Calls Tryd.prog 29 #[.slice (some ⟨g, 0, none⟩) L.length cap, .int .i64 st] w fun e w' => e = .returned (.tuple #[.int .i64 u, .int .i64 ((st + (decDigits u).length : Nat) : Int), .bool true]) ∧ w' = w := by
  obtain ⟨hlt, hat, hnd⟩ := hN
  have hdig := dec_digit u
  have hlen := dec_len u (by omega)
  have hval := valD_dec u
  have hle := valD_take_le u
  obtain ⟨c0, l0, he0, hz0⟩ := dec_head u
  obtain ⟨D, hD⟩ : ∃ D, D = decDigits u := ⟨_, rfl⟩
  rw [← hD] at hlt hat hnd hdig hlen hval hle he0 ⊢
  clear hD
  have h0 := hat 0 (by omega)
  have hc0 : D.getD 0 0 = c0 := by rw [he0]; rfl
  have hd0 := hdig c0 (by rw [he0]; simp)
  have hcell0 : w.cell? ⟨g, st, none⟩ = some (.int .u8 (c0.toNat : Int)) := by
    have := hR st (by omega); rw [Nat.add_zero] at h0; rw [h0, hc0] at this; exact this
  have hm : ((c0.toNat : Int) == 45) = false := by simp; omega
  have hb0 : (st : Int) < (L.length : Int) := by omega
  have HV : Hid (valD 0 D = u) := hval
  have HAT : Hid (∀ t, t < D.length → L.getD (st + t) 0 = D.getD t 0) := hat
  have HE : Hid (D = c0 :: l0) := he0
  clear hval hat he0 h0 hc0
  go_enter Tryd.func29, Tryd.ntmps29
  go_wp2
  go_loop [1, 9] (fun i n => ∃ j v : Nat, j ≤ D.length ∧ i = .int .i64 ((st + j : Nat) : Int) ∧ n = .int .u64 (v : Int) ∧ v = valD 0 (D.take j)) (fun i _ => st + D.length - (intOf i).toNat)
  case atStart => exact ⟨0, 0, Nat.zero_le _, by go_num, by go_num, by rw [List.take_zero, valD_nil]⟩
  case round =>
    obtain ⟨j, v, hj, rfl, rfl, hv⟩ := hrel
    have HW : Hid (v = valD 0 (D.take j)) := hv
    clear hv
    by_cases hjl : j < D.length
    · obtain ⟨c, hc⟩ : ∃ c, c = D.getD j 0 := ⟨_, rfl⟩
      have hcell : w.cell? ⟨g, st + j, none⟩ = some (.int .u8 (c.toNat : Int)) := by rw [hc, ← HAT.out j hjl]; exact hR (st + j) (by omega)
      have hcd := hdig c (by rw [hc, getD_lt _ _ hjl]; exact List.getElem_mem hjl)
      have hstep := step_val D j hjl c hc hcd.1
      have hle2 := hle (j + 1)
      have hvb : v * 10 + (c.toNat - 48) ≤ 9223372036854775807 := by rw [← HW.out] at hstep; omega
      have HS : Hid (((valD 0 (D.take (j + 1)) : Nat) : Int) = (v : Int) * 10 + ((c.toNat : Int) - 48)) := by rw [← HW.out] at hstep; exact hstep
      have hb1 : ((st + j : Nat) : Int) < (L.length : Int) := by omega
      have h48 : (48 : Int) ≤ (c.toNat : Int) := by omega
      have h57 : (c.toNat : Int) ≤ 57 := by omega
      clear hstep hle2 hle hdig hc hcell0 hm
      go_wp2
      go_round
      case rel => exact ⟨j + 1, valD 0 (D.take (j + 1)), by omega, by go_num, by rw [HS.out], rfl⟩
      case measure => simp [intOf]; omega
    · have hje : j = D.length := by omega
      have HJ : Hid (j = D.length) := hje
      obtain ⟨r, hr⟩ : ∃ r, r = L.getD (st + D.length) 0 := ⟨_, rfl⟩
      have hcell : w.cell? ⟨g, st + j, none⟩ = some (.int .u8 (r.toNat : Int)) := by rw [hr, hje]; exact hR (st + D.length) (by omega)
      rw [← hr] at hnd
      have hve : v = u := by rw [HW.out, hje, List.take_length]; exact HV.out
      subst hve
      have hb1 : ((st + j : Nat) : Int) < (L.length : Int) := by omega
      clear hr hje
      have hj1 : 1 ≤ j := by rw [HJ.out]; exact hlen.1
      by_cases hr1 : (48 : Int) ≤ (r.toNat : Int)
      all_goals by_cases hz : c0.toNat = 48
      · have h57 : (57 : Int) < (r.toNat : Int) := by omega
        have hjn : j ≤ 1 := by rw [HJ.out, HE.out, (hz0 hz).2]; simp
        have hz' : ((c0.toNat : Int) == 48) = true := by simp; omega
        clear hz
        go_wp2
        go_ret3
        exact ⟨by rw [HJ.out]; rfl, rfl⟩
      · have h57 : (57 : Int) < (r.toNat : Int) := by omega
        have hz' : ((c0.toNat : Int) == 48) = false := by simp; omega
        clear hz
        go_wp2
        go_ret3
        exact ⟨by rw [HJ.out]; rfl, rfl⟩
      · have hr2 : (r.toNat : Int) < 48 := by omega
        have hjn : j ≤ 1 := by rw [HJ.out, HE.out, (hz0 hz).2]; simp
        have hz' : ((c0.toNat : Int) == 48) = true := by simp; omega
        clear hz
        go_wp2
        go_ret3
        exact ⟨by rw [HJ.out]; rfl, rfl⟩
      · have hr2 : (r.toNat : Int) < 48 := by omega
        have hz' : ((c0.toNat : Int) == 48) = false := by simp; omega
        clear hz
        go_wp2
        go_ret3
        exact ⟨by rw [HJ.out]; rfl, rfl⟩
end Go.Proofs.Qxb6605507aDoor
