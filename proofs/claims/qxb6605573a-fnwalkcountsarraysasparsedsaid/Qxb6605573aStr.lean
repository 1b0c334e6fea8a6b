/-
  THE READER's STRING.
-/
import Derived.Test.Qxb6605573aLeaf2
namespace Go.Proofs.Qxb6605573a
open Go.RowKit

theorem sEnd_four {S : List UInt8} {q : Nat} (h : q + 6 ≤ S.length) (hc : ch S q = 92) (hh : ∀ k, q + 2 ≤ k → k < q + 6 → isHex (ch S k) = true) : sEnd S q = sEnd S (q + 6) := by
  rw [sEnd_back (by omega) hc]
  have s : ∀ k, q + 2 ≤ k → k < q + 6 → sEnd S k = sEnd S (k + 1) := fun k h1 h2 => sEnd_plain (by omega) (hex_plain (hh k h1 h2)).1 (hex_plain (hh k h1 h2)).2
  rw [s (q + 2) (by omega) (by omega), s (q + 3) (by omega) (by omega), s (q + 4) (by omega) (by omega), s (q + 5) (by omega) (by omega)]

set_option maxRecDepth 10000 in
set_option maxHeartbeats 2000000 in
theorem string_any (g cap : Nat) (S : List UInt8) (p : Nat) (w : World) (hR : RowOf w g S) (hL : S.length ≤ 1048576) (hp : p < S.length) (hc0 : ch S p = 34) :
    Calls Try.prog 26 #[.slice (some ⟨g, 0, none⟩) S.length cap, .int .i64 (p : Int)] w fun e w' => (e = .returned (.int .i64 (-1)) ∨ ∃ q : Nat, e = .returned (.int .i64 (q : Int)) ∧ StrOk S p q) ∧ w' = w := by
  have HC0 : Hid (ch S p = 34) := hc0
  clear hc0
  go_enter Try.func26, Try.ntmps26
  go_wp2
  go_loop [1] (fun k => ∃ q : Nat, k = .int .i64 (q : Int) ∧ p < q ∧ q ≤ S.length ∧ sEnd S (p + 1) = sEnd S q) (fun k => S.length - (intOf k).toNat)
  case atStart => exact ⟨p + 1, by go_num, by omega, by omega, rfl⟩
  case round =>
    obtain ⟨q, rfl, hpq, hql, hse⟩ := hrel
    have HS : Hid (sEnd S (p + 1) = sEnd S q) := hse
    clear hse
    by_cases hlt : q < S.length
    · have hc := hR q hlt
      have hb : (q : Int) < (S.length : Int) := by omega
      generalize hcq : ch S q = c at *
      have HC : Hid (ch S q = c) := hcq
      clear hcq
      by_cases h34 : c = 34
      · have h34' : ((c : Int) == 34) = true := by simp; omega
        have H34 : Hid (c = 34) := h34
        clear h34
        go_wp2
        go_ret
        refine ⟨.inr ⟨q + 1, by go_num, hp, HC0.out, by omega, by omega, ?_⟩, rfl⟩
        rw [HS.out, sEnd_quote hlt (HC.out.trans H34.out)]
      have h34' : ((c : Int) == 34) = false := by simp; omega
      have N34 : Hid (c ≠ 34) := h34
      clear h34
      by_cases h92 : c = 92
      · have h92' : ((c : Int) != 92) = false := by simp; omega
        have H92 : Hid (c = 92) := h92
        clear h92
        by_cases hq1 : q + 1 < S.length
        · have hcc := hR (q + 1) hq1
          have hb2 : (q : Int) + 1 < (S.length : Int) := by omega
          generalize hdq : ch S (q + 1) = d at *
          by_cases hu : d = 117
          · have hu' : ((d : Int) == 117) = true := by simp; omega
            clear hu
            by_cases h6 : S.length < q + 6
            · have h6' : (S.length : Int) - (q : Int) < 6 := by omega
              go_wp2
              go_ret
              exact ⟨.inl rfl, rfl⟩
            · have h6' : ¬ (S.length : Int) - (q : Int) < 6 := by omega
              go_wp2
              go_loop [7] (fun k => ∃ t : Nat, k = .int .i64 (t : Int) ∧ q + 2 ≤ t ∧ t ≤ q + 6 ∧ ∀ x, q + 2 ≤ x → x < t → isHex (ch S x) = true) (fun k => q + 6 - (intOf k).toNat)
              case atStart => exact ⟨q + 2, by go_num, by omega, by omega, fun x h1 h2 => by omega⟩
              case round =>
                obtain ⟨t, rfl, ht1, ht2, hx⟩ := hrel
                have HX : Hid (∀ x, q + 2 ≤ x → x < t → isHex (ch S x) = true) := hx
                clear hx
                by_cases htl : t < q + 6
                · have hct := hR t (by omega)
                  have hb3 : (t : Int) < (S.length : Int) := by omega
                  have hb4 : (t : Int) < (q : Int) + 6 := by omega
                  generalize hfq : ch S t = f at *
                  have HF : Hid (ch S t = f) := hfq
                  clear hfq
                  by_cases hhx : isHex f = true
                  · have HH : Hid (isHex f = true) := hhx
                    clear hhx
                    go_wp2_with (go_at_call 33; refine (hex_any f _).mono ?_; rw [HH.out]; rintro e w' ⟨rfl, rfl⟩)
                    go_round
                    case rel =>
                      refine ⟨t + 1, by go_num, by omega, by omega, fun x h1 h2 => ?_⟩
                      by_cases hxt : x < t
                      · exact HX.out x h1 hxt
                      · have e : x = t := by omega
                        subst e; rw [HF.out]; exact HH.out
                    case measure => simp [intOf]; omega
                  · have HH : Hid (isHex f = false) := Bool.eq_false_iff.2 hhx
                    clear hhx
                    go_wp2_with (go_at_call 33; refine (hex_any f _).mono ?_; rw [HH.out]; rintro e w' ⟨rfl, rfl⟩)
                    go_ret
                    exact ⟨.inl rfl, rfl⟩
                · have hb4 : ¬ (t : Int) < (q : Int) + 6 := by omega
                  have hte : t = q + 6 := by omega
                  have HT : Hid (t = q + 6) := hte
                  clear hte
                  go_wp2
                  go_round
                  case rel => exact ⟨q + 6, by go_num, by omega, by omega, by rw [HS.out]; exact sEnd_four (by omega) (HC.out.trans H92.out) (fun k h1 h2 => HX.out k h1 (by rw [HT.out]; exact h2))⟩
                  case measure => simp [intOf]; omega
          · have hu' : ((d : Int) == 117) = false := by simp; omega
            clear hu
            go_wp2
            any_goals (go_ret; exact ⟨.inl rfl, rfl⟩)
            all_goals
              go_round
              case rel => exact ⟨q + 2, by go_num, by omega, by omega, by rw [HS.out, sEnd_back hlt (HC.out.trans H92.out)]⟩
              case measure => simp [intOf]; omega
        · have hb2 : ¬ (q : Int) + 1 < (S.length : Int) := by omega
          go_wp2
          go_ret
          exact ⟨.inl rfl, rfl⟩
      · have h92' : ((c : Int) != 92) = true := by simp; omega
        go_wp2
        go_round
        case rel => exact ⟨q + 1, by go_num, by omega, by omega, by rw [HS.out, sEnd_plain hlt (by rw [HC.out]; exact N34.out) (by rw [HC.out]; exact h92)]⟩
        case measure => simp [intOf]; omega
    · have hb : ¬ (q : Int) < (S.length : Int) := by omega
      go_wp2
      go_ret
      exact ⟨.inl rfl, rfl⟩
end Go.Proofs.Qxb6605573a
