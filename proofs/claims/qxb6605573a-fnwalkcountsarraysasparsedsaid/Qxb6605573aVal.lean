/-
  THE READER's VALUE: by induction on what is left of the text.
-/
import Derived.Test.Qxb6605573aObj
namespace Go.Proofs.Qxb6605573a
open Go.RowKit

theorem scan_drewN {w : World} {mb g cap B : Nat} {S : List UInt8} {C : List (Nat × Nat)} (h : Scan w mb g cap B S C) (n : Nat) : Scan (w.drewN n) mb g cap B S C := by
  obtain ⟨av, nv, hs⟩ := h
  exact ⟨av, nv, hs.keep (fun _ _ => rfl) (Nat.le_refl _)⟩
theorem below_drewN {B : Nat} (w : World) (n : Nat) : Below B w (w.drewN n) := ⟨rfl, rfl, rfl, Nat.le_refl _, fun _ _ => rfl⟩

/-- A word or a number found. -/
theorem post_plain {w : World} {mb g cap B : Nat} {S : List UInt8} {C : List (Nat × Nat)} {p : Nat} {e : Ending} (hC : C.length ≤ p) (hsc : Scan w mb g cap B S C) (n : Nat)
    (h : e = .returned (.int .i64 (-1)) ∨ ∃ q : Nat, e = .returned (.int .i64 (q : Int)) ∧ p < q ∧ q ≤ S.length ∧ PlainRun S p q) : Post (Val S p) w mb g cap B S C e (w.drewN n) := by
  refine ⟨below_drewN w n, ?_⟩
  rcases h with h | ⟨q, h, h1, h2, h3⟩
  · exact .inl h
  · exact .inr ⟨q, [], h, val_plain h3 h1 h2, by simp; omega, by rw [List.append_nil]; exact scan_drewN hsc n⟩

set_option maxRecDepth 10000 in
set_option maxHeartbeats 4000000 in
theorem val_of (mb g cap B : Nat) (S : List UInt8) (hL : S.length ≤ 1048576) (p : Nat) (hp : p ≤ S.length) (IH : ValsFrom mb g cap B S p) (C : List (Nat × Nat)) (hC : C.length ≤ p) (w : World) (hsc : Scan w mb g cap B S C) :
    Calls Try.prog 13 #[.pointer (some ⟨mb, 0, none⟩), .int .i64 (p : Int)] w (Post (Val S p) w mb g cap B S C) := by
  have IH' : Hid (ValsFrom mb g cap B S p) := IH
  have HSC : Hid (Scan w mb g cap B S C) := hsc
  obtain ⟨av, nv, hs⟩ := hsc
  have c0 := hs.c0
  have HR : Hid (RowOf w g S) := hs.row
  clear hs IH
  have hp0 : (0 : Int) ≤ (p : Int) := by omega
  by_cases hq : p < S.length
  · have hcq := HR.out p hq
    have hqb : (p : Int) < (S.length : Int) := by omega
    by_cases h34 : ch S p = 34
    · have H34 : Hid (ch S p = 34) := h34
      rw [h34] at hcq
      clear h34
      go_enter Try.func13, Try.ntmps13
      go_wp2_with fail
      refine (string_at g cap S p w HR.out hL hq H34.out).mono ?_
      rintro e w' ⟨hst, rfl⟩
      have HST : Hid (e = .returned (.int .i64 (-1)) ∨ ∃ q : Nat, e = .returned (.int .i64 (q : Int)) ∧ StrOk S p q) := hst
      rcases hst with rfl | ⟨e1, rfl, hst⟩
      · go_wp2
        go_ret
        exact ⟨Below.refl _ _, .inl rfl⟩
      · have HV : Hid (StrOk S p e1) := hst
        clear hst HST
        go_wp2
        go_ret
        exact ⟨Below.refl _ _, .inr ⟨e1, [], rfl, val_str HV.out, by have := HV.out.2.2.1; simp; omega, by rw [List.append_nil]; exact HSC.out⟩⟩
    by_cases h123 : ch S p = 123
    · have H123 : Hid (ch S p = 123) := h123
      rw [h123] at hcq
      clear h34 h123
      go_enter Try.func13, Try.ntmps13
      go_wp2_with fail
      refine (obj_of mb g cap B S hL p hq H123.out IH'.out C hC w HSC.out).mono ?_
      rintro e w1 ⟨hb, hres⟩
      rcases hres with rfl | ⟨e1, E, rfl, hv, hle, hs1⟩
      · go_wp2
        go_ret
        exact ⟨hb, .inl rfl⟩
      · have HV : Hid (Val S p e1 E ∧ C.length + E.length ≤ e1 ∧ Scan w1 mb g cap B S (C ++ E) ∧ Below mb w w1) := ⟨hv, hle, hs1, hb⟩
        clear hv hle hs1 hb
        go_wp2
        go_ret
        exact ⟨HV.out.2.2.2, .inr ⟨e1, E, rfl, HV.out.1, HV.out.2.1, HV.out.2.2.1⟩⟩
    by_cases h91 : ch S p = 91
    · have H91 : Hid (ch S p = 91) := h91
      rw [h91] at hcq
      clear h34 h123 h91
      go_enter Try.func13, Try.ntmps13
      go_wp2_with fail
      refine (arr_of mb g cap B S hL p hq IH'.out C hC w HSC.out).mono ?_
      rintro e w1 ⟨hb, hres⟩
      rcases hres with rfl | ⟨e1, E, rfl, hv, hle, hs1⟩
      · go_wp2
        go_ret
        exact ⟨hb, .inl rfl⟩
      · have HV : Hid (Val S p e1 E ∧ C.length + E.length ≤ e1 ∧ Scan w1 mb g cap B S (C ++ E) ∧ Below mb w w1) := ⟨val_arr hq H91.out hv, hle, hs1, hb⟩
        clear hv hle hs1 hb
        go_wp2
        go_ret
        exact ⟨HV.out.2.2.2, .inr ⟨e1, E, rfl, HV.out.1, HV.out.2.1, HV.out.2.2.1⟩⟩
    by_cases h116 : ch S p = 116
    · rw [h116] at hcq
      clear h34 h123 h91 h116
      go_enter Try.func13, Try.ntmps13
      go_wp2_with fail
      refine (word_any g cap S p _ (by decide) (by decide) (by decide) w HR.out hL hp).mono ?_
      rintro e w1 ⟨hres, n, rfl⟩
      rcases hres with rfl | ⟨e1, rfl, hres⟩
      · go_wp2
        go_ret
        exact post_plain hC HSC.out n (.inl rfl)
      · have HV : Hid (p < e1 ∧ e1 ≤ S.length ∧ PlainRun S p e1) := hres
        clear hres
        go_wp2
        go_ret
        exact post_plain hC HSC.out n (.inr ⟨e1, rfl, HV.out⟩)
    by_cases h102 : ch S p = 102
    · rw [h102] at hcq
      clear h34 h123 h91 h116 h102
      go_enter Try.func13, Try.ntmps13
      go_wp2_with fail
      refine (word_any g cap S p _ (by decide) (by decide) (by decide) w HR.out hL hp).mono ?_
      rintro e w1 ⟨hres, n, rfl⟩
      rcases hres with rfl | ⟨e1, rfl, hres⟩
      · go_wp2
        go_ret
        exact post_plain hC HSC.out n (.inl rfl)
      · have HV : Hid (p < e1 ∧ e1 ≤ S.length ∧ PlainRun S p e1) := hres
        clear hres
        go_wp2
        go_ret
        exact post_plain hC HSC.out n (.inr ⟨e1, rfl, HV.out⟩)
    by_cases h110 : ch S p = 110
    · rw [h110] at hcq
      clear h34 h123 h91 h116 h102 h110
      go_enter Try.func13, Try.ntmps13
      go_wp2_with fail
      refine (word_any g cap S p _ (by decide) (by decide) (by decide) w HR.out hL hp).mono ?_
      rintro e w1 ⟨hres, n, rfl⟩
      rcases hres with rfl | ⟨e1, rfl, hres⟩
      · go_wp2
        go_ret
        exact post_plain hC HSC.out n (.inl rfl)
      · have HV : Hid (p < e1 ∧ e1 ≤ S.length ∧ PlainRun S p e1) := hres
        clear hres
        go_wp2
        go_ret
        exact post_plain hC HSC.out n (.inr ⟨e1, rfl, HV.out⟩)
    have k1 : (((ch S p : Nat) : Int) == 34) = false := by simp; omega
    have k2 : (((ch S p : Nat) : Int) == 123) = false := by simp; omega
    have k3 : (((ch S p : Nat) : Int) == 91) = false := by simp; omega
    have k4 : (((ch S p : Nat) : Int) == 116) = false := by simp; omega
    have k5 : (((ch S p : Nat) : Int) == 102) = false := by simp; omega
    have k6 : (((ch S p : Nat) : Int) == 110) = false := by simp; omega
    generalize ch S p = c at *
    clear h34 h123 h91 h116 h102 h110
    go_enter Try.func13, Try.ntmps13
    go_wp2_with fail
    refine (number_any g cap S p w HR.out hL hp).mono ?_
    rintro e w1 ⟨hres, hw⟩
    obtain rfl := hw.symm
    rcases hres with rfl | ⟨e1, rfl, hres⟩
    · go_wp2
      go_ret
      exact post_plain hC HSC.out 0 (.inl rfl)
    · have HV : Hid (p < e1 ∧ e1 ≤ S.length ∧ PlainRun S p e1) := hres
      clear hres
      go_wp2
      go_ret
      exact post_plain hC HSC.out 0 (.inr ⟨e1, rfl, HV.out⟩)
  · have hqb : ¬ (p : Int) < (S.length : Int) := by omega
    go_enter Try.func13, Try.ntmps13
    go_wp2
    go_ret
    exact ⟨Below.refl _ _, .inl rfl⟩

theorem vals_all (mb g cap B : Nat) (S : List UInt8) (hL : S.length ≤ 1048576) : ∀ (n p : Nat), S.length ≤ p + n → ValsFrom mb g cap B S p := by
  intro n
  induction n with
  | zero => intro p h q C w h1 h2; omega
  | succ n ih =>
    intro p h q C w h1 h2 hC hs
    exact val_of mb g cap B S hL q h2 (ih q (by omega)) C hC w hs

/-- THE ARRAY AT p, WHOLE. -/
theorem array_any (mb g cap B : Nat) (S : List UInt8) (hL : S.length ≤ 1048576) (p : Nat) (hp : p < S.length) (C : List (Nat × Nat)) (hC : C.length ≤ p) (w : World) (hsc : Scan w mb g cap B S C) :
    Calls Try.prog 18 #[.pointer (some ⟨mb, 0, none⟩), .int .i64 (p : Int)] w (Post (Arr S p) w mb g cap B S C) :=
  arr_of mb g cap B S hL p hp (vals_all mb g cap B S hL S.length p (by omega)) C hC w hsc
end Go.Proofs.Qxb6605573a
