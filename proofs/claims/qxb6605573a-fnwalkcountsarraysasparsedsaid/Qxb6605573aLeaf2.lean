/-
  THE READER's LEAVES, MORE: skipping white space, a number, a word, a string.
-/
import Derived.Test.Qxb6605573aLeaf
namespace Go.Proofs.Qxb6605573a
open Go.RowKit

theorem getD_lt (l : List UInt8) (j : Nat) (h : j < l.length) : l.getD j 0 = l[j] := by simp [List.getD, h]
theorem lit_at (lit : ByteArray) (j : Nat) (h : j < lit.size) : lit.data.toList.getD j 0 = lit[j] := by
  have h' : j < lit.data.toList.length := by rw [Array.length_toList]; exact h
  rw [getD_lt _ _ h', Array.getElem_toList]; rfl
theorem ws_snoc {S : List UInt8} {p q : Nat} (h : WsRun S p q) (hq : q < S.length) (hw : isWs (ch S q) = true) : WsRun S p (q + 1) := by
  refine ⟨by have := h.1; omega, fun j h1 h2 => ?_⟩
  by_cases hj : j < q
  · exact h.2 j h1 hj
  · have e : j = q := by omega
    subst e; exact ⟨hq, hw⟩
theorem plain_snoc {S : List UInt8} {p q : Nat} (h : PlainRun S p q) (hq : q < S.length) (hw : plainB (ch S q) = true) : PlainRun S p (q + 1) := by
  refine ⟨by have := h.1; omega, fun j h1 h2 => ?_⟩
  by_cases hj : j < q
  · exact h.2 j h1 hj
  · have e : j = q := by omega
    subst e; exact ⟨hq, hw⟩

set_option maxHeartbeats 400000 in
theorem skip_any (g cap : Nat) (S : List UInt8) (p : Nat) (w : World) (hR : RowOf w g S) (hL : S.length ≤ 1048576) (hp : p ≤ S.length) :
    Calls Try.prog 23 #[.slice (some ⟨g, 0, none⟩) S.length cap, .int .i64 (p : Int)] w fun e w' => (∃ q : Nat, e = .returned (.int .i64 (q : Int)) ∧ WsRun S p q ∧ q ≤ S.length ∧ (q < S.length → isWs (ch S q) = false)) ∧ w' = w := by
  go_enter Try.func23, Try.ntmps23
  go_wp2
  go_loop [1] (fun k => ∃ q : Nat, k = .int .i64 (q : Int) ∧ WsRun S p q ∧ q ≤ S.length) (fun k => S.length - (intOf k).toNat)
  case atStart => exact ⟨p, rfl, ⟨Nat.le_refl _, fun j h1 h2 => by omega⟩, hp⟩
  case round =>
    obtain ⟨q, rfl, hq, hql⟩ := hrel
    have HQ : Hid (WsRun S p q) := hq
    clear hq
    by_cases hlt : q < S.length
    · have hc := hR q hlt
      have hb : (q : Int) < (S.length : Int) := by omega
      by_cases hws : isWs (ch S q) = true
      · have HW : Hid (isWs (ch S q) = true) := hws
        generalize hcq : ch S q = c at *
        have HC : Hid (ch S q = c) := hcq
        clear hcq
        go_wp2_with (go_at_call 29; refine (isWs_any c _).mono ?_; rw [HW.out]; rintro e w' ⟨rfl, rfl⟩)
        go_round
        case rel => exact ⟨q + 1, by go_num, ws_snoc HQ.out hlt (by rw [HC.out]; exact HW.out), by omega⟩
        case measure => simp [intOf]; omega
      · have HW : Hid (isWs (ch S q) = false) := Bool.eq_false_iff.2 hws
        generalize hcq : ch S q = c at *
        have HC : Hid (ch S q = c) := hcq
        clear hcq hws
        go_wp2_with (go_at_call 29; refine (isWs_any c _).mono ?_; rw [HW.out]; rintro e w' ⟨rfl, rfl⟩)
        go_ret
        exact ⟨⟨q, rfl, HQ.out, hql, fun _ => by rw [HC.out]; exact HW.out⟩, rfl⟩
    · have hb : ¬ (q : Int) < (S.length : Int) := by omega
      go_wp2
      go_ret
      exact ⟨⟨q, rfl, HQ.out, hql, fun h => absurd h hlt⟩, rfl⟩

set_option maxHeartbeats 1000000 in
theorem number_any (g cap : Nat) (S : List UInt8) (p : Nat) (w : World) (hR : RowOf w g S) (hL : S.length ≤ 1048576) (hp : p ≤ S.length) :
    Calls Try.prog 10 #[.slice (some ⟨g, 0, none⟩) S.length cap, .int .i64 (p : Int)] w fun e w' => (e = .returned (.int .i64 (-1)) ∨ ∃ q : Nat, e = .returned (.int .i64 (q : Int)) ∧ p < q ∧ q ≤ S.length ∧ PlainRun S p q) ∧ w' = w := by
  go_enter Try.func10, Try.ntmps10
  go_wp2
  go_loop [1, 5] (fun k t => ∃ q s : Nat, k = .int .i64 (q : Int) ∧ t = .int .i64 (s : Int) ∧ s ≤ 8 ∧ PlainRun S p q ∧ q ≤ S.length ∧ (s = 0 ∨ p < q)) (fun k _ => S.length - (intOf k).toNat)
  case atStart => exact ⟨p, 0, rfl, rfl, by omega, ⟨Nat.le_refl _, fun j h1 h2 => by omega⟩, hp, .inl rfl⟩
  case round =>
    obtain ⟨q, s, rfl, rfl, hs, hq, hql, hpq⟩ := hrel
    have HQ : Hid (PlainRun S p q) := hq
    clear hq
    rcases hpq with rfl | hpq
    · by_cases hlt : q < S.length
      · have hc := hR q hlt
        have hb : (q : Int) < (S.length : Int) := by omega
        generalize hcq : ch S q = c at *
        have HC : Hid (ch S q = c) := hcq
        clear hcq
        go_wp2_with (go_at_call 25; refine (numStep_any 0 hs c _).mono ?_; rintro e w' ⟨⟨z, rfl, hz⟩, rfl⟩)
        · go_ret
          exact ⟨.inl rfl, rfl⟩
        · have hz0 : 0 ≤ z := by assumption
          go_round
          case rel =>
            rcases hz with h | ⟨h1, h2, h3⟩
            · omega
            · exact ⟨q + 1, z.toNat, by go_num, by rw [Int.toNat_of_nonneg hz0], by omega, plain_snoc HQ.out hlt (by rw [HC.out]; exact h3), by omega, .inr (by have := HQ.out.1; omega)⟩
          case measure => simp [intOf]; omega
      · have hb : ¬ (q : Int) < (S.length : Int) := by omega
        go_wp2
        go_ret
        exact ⟨.inl rfl, rfl⟩
    · by_cases hlt : q < S.length
      · have hc := hR q hlt
        have hb : (q : Int) < (S.length : Int) := by omega
        generalize hcq : ch S q = c at *
        have HC : Hid (ch S q = c) := hcq
        clear hcq
        go_wp2_with (go_at_call 25; refine (numStep_any s hs c _).mono ?_; rintro e w' ⟨⟨z, rfl, hz⟩, rfl⟩)
        any_goals (go_ret; first | exact ⟨.inl rfl, rfl⟩ | exact ⟨.inr ⟨q, rfl, hpq, hql, HQ.out⟩, rfl⟩)
        have hz0 : 0 ≤ z := by assumption
        go_round
        case rel =>
          rcases hz with h | ⟨h1, h2, h3⟩
          · omega
          · exact ⟨q + 1, z.toNat, by go_num, by rw [Int.toNat_of_nonneg hz0], by omega, plain_snoc HQ.out hlt (by rw [HC.out]; exact h3), by omega, .inr (by omega)⟩
        case measure => simp [intOf]; omega
      · have hb : ¬ (q : Int) < (S.length : Int) := by omega
        go_wp2
        all_goals (go_ret; first | exact ⟨.inl rfl, rfl⟩ | exact ⟨.inr ⟨q, rfl, hpq, hql, HQ.out⟩, rfl⟩)

set_option maxHeartbeats 1000000 in
theorem word_any (g cap : Nat) (S : List UInt8) (p : Nat) (lit : ByteArray) (hlit : lit.size ≤ 100) (hl0 : 0 < lit.size) (hpl : ∀ j, j < lit.size → plainB (lit.data.toList.getD j 0).toNat = true) (w : World) (hR : RowOf w g S) (hL : S.length ≤ 1048576) (hp : p ≤ S.length) :
    Calls Try.prog 28 #[.slice (some ⟨g, 0, none⟩) S.length cap, .int .i64 (p : Int), .string lit] w fun e w' => (e = .returned (.int .i64 (-1)) ∨ ∃ q : Nat, e = .returned (.int .i64 (q : Int)) ∧ p < q ∧ q ≤ S.length ∧ PlainRun S p q) ∧ ∃ n, w' = w.drewN n := by
  by_cases hsh : S.length < p + lit.size
  · go_enter Try.func28, Try.ntmps28
    go_wp2
    go_ret
    exact ⟨.inl rfl, 0, rfl⟩
  · go_enter Try.func28, Try.ntmps28
    go_wp2
    go_loopw [7] (fun k wr => ∃ j : Nat, j ≤ lit.size ∧ k = .int .i64 (j : Int) ∧ PlainRun S p (p + j) ∧ ∃ n, wr = w.drewN n) (fun k _ => lit.size - (intOf k).toNat)
    case atStart => exact ⟨0, Nat.zero_le _, rfl, ⟨Nat.le_refl _, fun j h1 h2 => by omega⟩, 0, rfl⟩
    case round =>
      obtain ⟨j, hj, rfl, hpr, n, rfl⟩ := hrel
      have HQ : Hid (PlainRun S p (p + j)) := hpr
      clear hpr
      by_cases hlt : j < lit.size
      · have hcell := hR (p + j) (by omega)
        generalize hcq : ch S (p + j) = c at *
        have HC : Hid (ch S (p + j) = c) := hcq
        clear hcq
        have HPL : Hid (plainB (lit[j].toNat) = true) := by
          have := hpl j hlt
          rw [show lit.data.toList.getD j 0 = lit[j] from lit_at lit j hlt] at this
          exact this
        have hb1 : (p : Int) + (j : Int) < (S.length : Int) := by omega
        have hb3 : (j : Int) < (lit.size : Int) := by omega
        go_wp2
        go_quiet (fail)
        go_wp2
        · go_ret
          exact ⟨.inl rfl, n + nq, by simp⟩
        · have heq : ((c : Int) != (lit[j].toNat : Int)) = false := by assumption
          have heq' : c = lit[j].toNat := by simp at heq; omega
          go_roundw
          case rel => exact ⟨j + 1, by omega, by go_num, by have h9 := plain_snoc (q := p + j) HQ.out (by omega) (by rw [HC.out, heq']; exact HPL.out); rw [Nat.add_assoc] at h9; exact h9, _, rfl⟩
          case measure => simp [intOf]; omega
      · have hje : j = lit.size := by omega
        go_wp2
        go_ret
        refine ⟨.inr ⟨p + lit.size, by go_num, by omega, by omega, ?_⟩, n, rfl⟩
        have := HQ.out; rw [hje] at this; exact this

def isHex (c : Nat) : Bool := (decide (48 ≤ c) && decide (c ≤ 57)) || (decide (97 ≤ c) && decide (c ≤ 102)) || (decide (65 ≤ c) && decide (c ≤ 70))
theorem hex_plain {c : Nat} (h : isHex c = true) : c ≠ 34 ∧ c ≠ 92 := by
  simp [isHex] at h; omega
set_option maxHeartbeats 1000000 in
theorem hex_any (c : Nat) (w : World) : Calls Try.prog 33 #[.int .u8 (c : Int)] w fun e w' => e = .returned (.bool (isHex c)) ∧ w' = w := by
  rcases (show ((c : Int) < 48) ∨ (48 ≤ (c : Int) ∧ (c : Int) ≤ 57) ∨ (57 < (c : Int) ∧ (c : Int) < 65) ∨ (65 ≤ (c : Int) ∧ (c : Int) ≤ 70) ∨ (70 < (c : Int) ∧ (c : Int) < 97) ∨ (97 ≤ (c : Int) ∧ (c : Int) ≤ 102) ∨ (102 < (c : Int)) by omega) with h | ⟨h, h'⟩ | ⟨h, h'⟩ | ⟨h, h'⟩ | ⟨h, h'⟩ | ⟨h, h'⟩ | h
  all_goals
    go_enter Try.func33, Try.ntmps33
    go_wp2
    go_ret
    exact ⟨ret_bool (by unfold isHex; rw [Bool.eq_iff_iff]; simp; omega), rfl⟩
end Go.Proofs.Qxb6605573a
