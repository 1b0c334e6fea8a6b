/-
  THE READER's OBJECT, AND A VALUE.
-/
import Derived.Test.Qxb6605573aArr
namespace Go.Proofs.Qxb6605573a
open Go.RowKit

/-- Where the object's loop stands: a key is due at q. -/
def ObjRel (w : World) (mb g cap B : Nat) (S : List UInt8) (C : List (Nat × Nat)) (p : Nat) (qv : Value) (wr : World) : Prop :=
  ∃ (q : Nat) (Es : List (Nat × Nat)), qv = .int .i64 (q : Int) ∧ q ≤ S.length ∧ p < q ∧ Below mb w wr ∧ Scan wr mb g cap B S (C ++ Es) ∧ C.length + Es.length ≤ q ∧ ObjAt S p q Es

theorem string_at (g cap : Nat) (S : List UInt8) (p : Nat) (w : World) (hR : RowOf w g S) (hL : S.length ≤ 1048576) (hp : p < S.length) (hc0 : ch S p = 34) :
    Calls Try.prog 26 #[.slice (some ⟨g, 0, none⟩) S.length cap, .int .i64 (p : Int)] w fun e w' => (e = .returned (.int .i64 (-1)) ∨ ∃ q : Nat, e = .returned (.int .i64 (q : Int)) ∧ StrOk S p q) ∧ w = w' := by
  refine (string_any g cap S p w hR hL hp hc0).mono ?_
  rintro e w' ⟨h, rfl⟩
  exact ⟨h, rfl⟩

set_option maxRecDepth 10000 in
set_option maxHeartbeats 4000000 in
theorem obj_of (mb g cap B : Nat) (S : List UInt8) (hL : S.length ≤ 1048576) (p : Nat) (hp : p < S.length) (hcp : ch S p = 123) (IH : ValsFrom mb g cap B S p) (C : List (Nat × Nat)) (hC : C.length ≤ p) (w : World) (hsc : Scan w mb g cap B S C) :
    Calls Try.prog 27 #[.pointer (some ⟨mb, 0, none⟩), .int .i64 (p : Int)] w (Post (Val S p) w mb g cap B S C) := by
  have IH' : Hid (ValsFrom mb g cap B S p) := IH
  have HCP : Hid (ch S p = 123) := hcp
  have HSC : Hid (Scan w mb g cap B S C) := hsc
  obtain ⟨av, nv, hs⟩ := hsc
  have c0 := hs.c0
  have HR : Hid (RowOf w g S) := hs.row
  clear hs IH hcp
  have hpb : (p : Int) + 1 ≤ (S.length : Int) := by omega
  go_enter Try.func27, Try.ntmps27
  go_wp2_with fail
  refine (skip_at g cap S _ (p + 1) w HR.out hL (by omega) (by omega)).mono ?_
  rintro e w' ⟨⟨q, rfl, hws, hql, hnw0⟩, rfl⟩
  clear hnw0
  have HO : Hid (ObjAt S p q []) := obj_open hp HCP.out hws
  have hpq : p < q := by have := hws.1; omega
  clear hws
  by_cases hq : q < S.length
  · have hcq := HR.out q hq
    have hqb : (q : Int) < (S.length : Int) := by omega
    by_cases h125 : ch S q = 125
    · have H125 : Hid (ch S q = 125) := h125
      rw [h125] at hcq
      clear h125
      go_wp2
      go_ret
      refine ⟨Below.refl _ _, .inr ⟨q + 1, [], by go_num, obj_close hp HCP.out HO.out hq H125.out, by simp; omega, by rw [List.append_nil]; exact HSC.out⟩⟩
    · have h125' : (((ch S q : Nat) : Int) == 125) = false := by simp; omega
      generalize ch S q = c at *
      clear h125
      have hdq : decide (S.length ≤ q) = false := by simp; omega
      have hdq' : decide ((S.length : Int) ≤ (q : Int)) = false := by simp; omega
      go_wp2
      go_loopw [5] (fun qv wr => ObjRel w mb g cap B S C p qv wr) (fun qv _ => S.length - (intOf qv).toNat)
      case atStart => exact ⟨q, [], rfl, hql, hpq, Below.refl _ _, by rw [List.append_nil]; exact HSC.out, by simp; omega, HO.out⟩
      case round =>
        clear c0 HR HSC HO hcq h125'
        obtain ⟨q, Es, rfl, hql, hpq, hbel, ⟨av1, nv1, hs⟩, hlen, hob⟩ := hrel
        have HBR : Hid (Below mb w wr) := hbel
        have HSR : Hid (Scan wr mb g cap B S (C ++ Es)) := ⟨av1, nv1, hs⟩
        have HOB : Hid (ObjAt S p q Es) := hob
        have HR : Hid (RowOf wr g S) := hs.row
        have c0 := hs.c0
        clear hbel hs hob
        by_cases hq : q < S.length
        · have hcq := HR.out q hq
          have hqb : (q : Int) < (S.length : Int) := by omega
          by_cases h34 : ch S q = 34
          · have H34 : Hid (ch S q = 34) := h34
            rw [h34] at hcq
            clear h34
            go_wp2_with fail
            refine (string_at g cap S q wr HR.out hL hq H34.out).mono ?_
            rintro e w' ⟨hst, rfl⟩
            rcases hst with rfl | ⟨e1, rfl, hst⟩
            · go_wp2
              go_ret
              exact ⟨HBR.out, .inl rfl⟩
            have he1 : e1 ≤ S.length := hst.2.2.2.1
            have hqe : q < e1 := hst.2.2.1
            have HO1 : Hid (ObjAt S p e1 Es) := obj_str HOB.out hst
            clear hst
            go_wp2_with fail
            refine (skip_at g cap S _ e1 wr HR.out hL rfl he1).mono ?_
            rintro e w' ⟨⟨q2, rfl, hws2, hq2l, hnw2⟩, rfl⟩
            have heq2 : e1 ≤ q2 := hws2.1
            have HO2 : Hid (ObjAt S p q2 Es) := obj_ws HO1.out hws2
            clear hws2 hnw2 HO1
            by_cases hq2 : q2 < S.length
            · have hcq2 := HR.out q2 hq2
              have hqb2 : (q2 : Int) < (S.length : Int) := by omega
              by_cases h58 : ch S q2 = 58
              · have HO3 : Hid (ObjAt S p (q2 + 1) Es) := obj_colon HO2.out hq2 h58
                rw [h58] at hcq2
                clear h58
                go_wp2_with fail
                refine (skip_at g cap S _ (q2 + 1) wr HR.out hL (by omega) (by omega)).mono ?_
                rintro e w' ⟨⟨q3, rfl, hws3, hq3l, hnw3⟩, rfl⟩
                have hq23 : q2 + 1 ≤ q3 := hws3.1
                have HO4 : Hid (ObjAt S p q3 Es) := obj_ws HO3.out hws3
                clear hws3 hnw3 HO3
                go_wp2_with fail
                refine (IH'.out q3 (C ++ Es) wr (by omega) hq3l (by simp; omega) HSR.out).mono ?_
                rintro e w3 ⟨hb3, hres⟩
                have HB3 : Hid (Below mb w w3) := HBR.out.trans hb3
                clear hb3 HBR HSR
                rcases hres with rfl | ⟨e2, E, rfl, hv, hle, av3, nv3, hs3⟩
                · go_wp2
                  go_ret
                  exact ⟨HB3.out, .inl rfl⟩
                have HO5 : Hid (ObjAt S p e2 (Es ++ E)) := obj_val HO4.out hv
                have he2 : e2 ≤ S.length := hv.2.2.1
                have hqe2 : q3 ≤ e2 := hv.2.1
                have hle' : C.length + Es.length + E.length ≤ e2 := by simp at hle; omega
                have HS3 : Hid (Scan w3 mb g cap B S (C ++ (Es ++ E))) := by rw [← List.append_assoc]; exact ⟨av3, nv3, hs3⟩
                have HR3 : Hid (RowOf w3 g S) := hs3.row
                have c03 := hs3.c0
                clear hv hle hs3 HO4 c0 HR hcq hcq2
                go_wp2_with fail
                refine (skip_at g cap S _ e2 w3 HR3.out hL rfl he2).mono ?_
                rintro e w' ⟨⟨q4, rfl, hws4, hq4l, hnw4⟩, rfl⟩
                have heq4 : e2 ≤ q4 := hws4.1
                have HO6 : Hid (ObjAt S p q4 (Es ++ E)) := obj_ws HO5.out hws4
                clear hws4 hnw4 HO5
                by_cases hq4 : q4 < S.length
                · have hcq4 := HR3.out q4 hq4
                  have hqb4 : (q4 : Int) < (S.length : Int) := by omega
                  by_cases h125 : ch S q4 = 125
                  · have HV : Hid (Val S p (q4 + 1) (Es ++ E)) := obj_close hp HCP.out HO6.out hq4 h125
                    rw [h125] at hcq4
                    clear h125
                    go_wp2
                    go_ret
                    exact ⟨HB3.out, .inr ⟨q4 + 1, _, by go_num, HV.out, by simp; omega, HS3.out⟩⟩
                  · by_cases h44 : ch S q4 = 44
                    · have HO7 : Hid (ObjAt S p (q4 + 1) (Es ++ E)) := obj_comma HO6.out hq4 h44
                      rw [h44] at hcq4
                      clear h125 h44
                      go_wp2_with fail
                      refine (skip_at g cap S _ (q4 + 1) w3 HR3.out hL (by omega) (by omega)).mono ?_
                      rintro e w' ⟨⟨q5, rfl, hws5, hq5l, hnw5⟩, rfl⟩
                      have hq45 : q4 + 1 ≤ q5 := hws5.1
                      have HO8 : Hid (ObjAt S p q5 (Es ++ E)) := obj_ws HO7.out hws5
                      clear hws5 hnw5
                      go_wp2
                      go_roundw
                      case rel => exact ⟨q5, Es ++ E, rfl, hq5l, by omega, HB3.out, HS3.out, by simp; omega, HO8.out⟩
                      case measure => simp [intOf]; omega
                    · have h125' : (((ch S q4 : Nat) : Int) == 125) = false := by simp; omega
                      have h44' : (((ch S q4 : Nat) : Int) != 44) = true := by simp; omega
                      generalize ch S q4 = c4 at *
                      clear h125 h44
                      go_wp2
                      go_ret
                      exact ⟨HB3.out, .inl rfl⟩
                · have hqb4 : ¬ (q4 : Int) < (S.length : Int) := by omega
                  go_wp2
                  go_ret
                  exact ⟨HB3.out, .inl rfl⟩
              · have h58' : (((ch S q2 : Nat) : Int) != 58) = true := by simp; omega
                generalize ch S q2 = c2 at *
                clear h58
                go_wp2
                go_ret
                exact ⟨HBR.out, .inl rfl⟩
            · have hqb2 : ¬ (q2 : Int) < (S.length : Int) := by omega
              go_wp2
              go_ret
              exact ⟨HBR.out, .inl rfl⟩
          · have h34' : (((ch S q : Nat) : Int) != 34) = true := by simp; omega
            generalize ch S q = c1 at *
            clear h34
            go_wp2
            go_ret
            exact ⟨HBR.out, .inl rfl⟩
        · have hqb : ¬ (q : Int) < (S.length : Int) := by omega
          go_wp2
          go_ret
          exact ⟨HBR.out, .inl rfl⟩
  · have hqb : ¬ (q : Int) < (S.length : Int) := by omega
    go_wp2
    go_ret
    exact ⟨Below.refl _ _, .inl rfl⟩
end Go.Proofs.Qxb6605573a
