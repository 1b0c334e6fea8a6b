/-
  THE SECOND LAW's WALK.
-/
import Derived.Test.Qxb6606378aProofA
import Derived.Laws.OwnMore
namespace Go.Proofs.Qxb6606378a
open Go.RowKit Go.Maps

/-- The longer list as far as it is laid. -/
def gl (ss : List ByteArray) (k : Nat) : List Value := strV (ss.take k) ++ List.replicate (ss.length + 1 - k) (.string ByteArray.empty)
theorem gl_zero (ss : List ByteArray) : gl ss 0 = List.replicate (ss.length + 1) (.string ByteArray.empty) := by simp [gl, strV]
theorem gl_step (ss : List ByteArray) (k : Nat) (hk : k < ss.length) : (gl ss k).set k (.string (ss.getD k ByteArray.empty)) = gl ss (k + 1) := by
  have h1 : (strV (ss.take k)).length = k := by simp [strV]; omega
  unfold gl
  have h2 : strV (ss.take (k + 1)) = strV (ss.take k) ++ [.string (ss.getD k ByteArray.empty)] := by
    unfold strV
    rw [List.take_succ_eq_append_getElem hk, List.map_append]
    simp only [List.map_cons, List.map_nil, List.getD, List.getElem?_eq_getElem hk, Option.getD_some]
  rw [List.set_append_right _ _ (by omega), h1, Nat.sub_self, show ss.length + 1 - k = (ss.length + 1 - (k + 1)) + 1 by omega, List.replicate_succ, List.set_cons_zero, h2, List.append_assoc]
  rfl
theorem gl_last (ss : List ByteArray) (x : ByteArray) : (gl ss ss.length).set ss.length (.string x) = strV (ss ++ [x]) := by
  have h1 : (strV (ss.take ss.length)).length = ss.length := by simp [strV]
  unfold gl
  rw [List.set_append_right _ _ (by omega), h1, Nat.sub_self, show ss.length + 1 - ss.length = 0 + 1 by omega, List.replicate_succ, List.set_cons_zero]
  simp [strV]

theorem contains_grown (ss : List ByteArray) (x v : ByteArray) : Lib.containsS (ss ++ [x]) v = (Lib.containsS ss v || (v.toList == x.toList)) := by
  rw [Bool.eq_iff_iff, Bool.or_eq_true, Lib.containsS_iff, Lib.containsS_iff, List.mem_append, List.mem_singleton, beq_iff_eq]
  constructor
  · rintro (h | rfl)
    · exact .inl h
    · exact .inr rfl
  · rintro (h | h)
    · exact .inl h
    · exact .inr (toList_inj h)

theorem made_list (n : Nat) : (madeCells #[.string ByteArray.empty] n).toList = List.replicate n (.string ByteArray.empty) := by
  apply List.ext_getElem?
  intro j
  by_cases hj : j < n
  · simp [madeCells, hj, Nat.mod_one]
  · rw [List.getElem?_eq_none (by simp [madeCells]; omega), List.getElem?_eq_none (by simp; omega)]

def GRel (W : World) (ss : List ByteArray) (kv : Value) (wr : World) : Prop := ∃ k : Nat, kv = .int .i64 (k : Int) ∧ k ≤ ss.length ∧ Below W.heap.size W wr ∧ wr.ownsRow 0 9 1 (.slice (some ⟨W.heap.size, 0, none⟩) (ss.length + 1) (ss.length + 1)) (ss.length + 1) (gl ss k)

theorem grown_row {w : World} {g : Nat} {ss : List ByteArray} (h : w.ownsRow 0 9 1 (.slice (some ⟨g, 0, none⟩) ss.length ss.length) ss.length (strV ss)) (hg : g < w.heap.size) (h1 : ss.length ≤ 9223372036854775807) (h2 : ∀ j, (ss.getD j ByteArray.empty).size ≤ 9223372036854775807) : SRow w (some ⟨g, 0, none⟩) ss := by
  refine ⟨h1, h2, (fun h => by cases h), .inr ⟨g, 0, rfl, hg, fun j hj => ?_⟩⟩
  rw [Nat.zero_add, h.cellAt j (by omega)]
  exact strV_at hj

set_option maxHeartbeats 1600000 in
theorem grows_any (key extra : ByteArray) (hkm : key.size ≤ maxLen) (hem : extra.size ≤ maxLen) (a1 a2 a3 : Option Addr) (c1 c2 c3 : Nat) (s1 s2 s3 : List ByteArray) (w : World) (h1 : SRow w a1 s1) (h2 : SRow w a2 s2) (h3 : SRow w a3 s3) :
    Calls Try.prog 5 #[.string key, .slice a1 s1.length c1, .string extra, .slice a2 s2.length c2, .slice a3 s3.length c3] w fun e w' => e = .returned (.bool true) ∧ Below w.heap.size w w' := by
  have q27 : ∀ (w : World) (a : Option Addr) (n c : Nat), (binOp .neq 27 (.slice a n c) (.slice none 0 0)).run Try.prog w = .ok (.bool (!a.isNone)) w := fun w a n c => run_neq_slice_nil w 27 9 a n c Try.underlying27
  have H1 : Hid (SRow w a1 s1) := h1
  have H2 : Hid (SRow w a2 s2) := h2
  have H3 : Hid (SRow w a3 s3) := h3
  have HKM : Hid (key.size ≤ maxLen) := hkm
  have HEM : Hid (extra.size ≤ maxLen) := hem
  clear h1 h2 h3 hkm hem
  obtain ⟨v, hv⟩ : ∃ v, v = (lastN s2 s3 key s2.length).getD ByteArray.empty := ⟨_, rfl⟩
  obtain ⟨p, hp⟩ : ∃ p, p = (lastN s2 s3 key s2.length).isSome := ⟨_, rfl⟩
  obtain ⟨q, hq⟩ : ∃ q, q = Lib.containsS s1 v := ⟨_, rfl⟩
  obtain ⟨t, ht⟩ : ∃ t, t = (v.toList == extra.toList) := ⟨_, rfl⟩
  have HLK : Hid ((lastN s2 s3 key s2.length).getD ByteArray.empty = v ∧ (lastN s2 s3 key s2.length).isSome = p) := ⟨hv.symm, hp.symm⟩
  have HT : Hid ((v.toList == extra.toList) = t) := ht.symm
  have M2 : Hid (meets 2 (lastN s2 s3 key s2.length) s1 = (p && q)) := by rw [hp, hq, hv]; rfl
  have M3 : Hid (meets 3 (lastN s2 s3 key s2.length) s1 = (!p || !q)) := by rw [hp, hq, hv]; rfl
  have N2 : Hid (meets 2 (lastN s2 s3 key s2.length) (s1 ++ [extra]) = (p && (q || t))) := by
    rw [hp, hq, ht, ← contains_grown, hv]; rfl
  have N3 : Hid (meets 3 (lastN s2 s3 key s2.length) (s1 ++ [extra]) = (!p || !(q || t))) := by
    rw [hp, hq, ht, ← contains_grown, hv]; rfl
  clear hp hq ht hv
  cases a1 with
  | none =>
    go_enter Try.func5, Try.ntmps5
    go_wp2_with fail
    refine (bytesx_any key extra _ _ _ c1 c2 c3 _ _ _ w H1.out H2.out H3.out).mono ?_
    rintro e w1 ⟨(rfl | ⟨rfl, l1, l2, l3⟩), rfl⟩
    · go_wp2
      go_ret
      exact ⟨rfl, Below.refl _ _⟩
    go_wp2_with fail
    have HB : Hid (Below w.heap.size w w) := Below.refl _ _
    have HS : Hid (SRow w (none : Option Addr) s1) := H1.out
    refine (spendText_any key _ _).mono ?_
    rintro e w1 ⟨⟨z0, rfl⟩, rfl⟩
    go_wp2_with fail
    refine (spendText_any extra z0 _).mono ?_
    rintro e w1 ⟨⟨z1, rfl⟩, rfl⟩
    go_wp2_with fail
    refine (spend_any _ _ _ z1 _ HS.out).mono ?_
    rintro e w1 ⟨⟨z2, rfl⟩, rfl⟩
    go_wp2_with fail
    refine (spend_any _ c2 _ z2 _ (H2.out.below HB.out)).mono ?_
    rintro e w1 ⟨⟨z3, rfl⟩, rfl⟩
    go_wp2_with fail
    refine (spend_any _ c3 _ z3 _ (H3.out.below HB.out)).mono ?_
    rintro e w1 ⟨⟨z4, rfl⟩, rfl⟩
    by_cases hz : z4 < 0
    · go_wp2
      go_ret
      exact ⟨rfl, HB.out⟩
    by_cases hl : s2.length = s3.length
    · have HL : Hid (s2.length = s3.length) := hl
      have hli : ((s2.length : Int) != (s3.length : Int)) = false := by simp; omega
      clear hl
      go_wp2_with fail
      refine (labels_any _ _ c2 c3 s2 s3 _ (H2.out.below HB.out) (H3.out.below HB.out) HL.out (by omega)).mono ?_
      rintro e w2 ⟨r, rfl, hb, hmap⟩
      have HB2 : Hid (Below w.heap.size w w2) := HB.out.trans (hb.mono HB.out.size)
      have HS2 : Hid (SRow w2 (none : Option Addr) s1) := HS.out.below hb
      have HM2 : Hid (MapOf w2 r (fun key => lastN s2 s3 key s2.length)) := hmap
      have HL2 : Hid (s2.length ≤ 1048576) := l2
      clear hb hmap HB HS hli hz l2 l3
      have hmk3 : ∀ w, (Instr.makeSlice 27 (.int .i64 ((s1.length : Int) + 1)) (.int .i64 ((s1.length : Int) + 1))).run Try.prog w = .ok (.slice (some ⟨w.heap.size, 0, none⟩) (s1.length + 1) (s1.length + 1)) (w.alloc (.cells (madeCells #[.string ByteArray.empty] (s1.length + 1)) 9)) := fun w => make27 (s1.length + 1) (by omega) w
      have H0 : Hid (GRel w2 s1 (.int .i64 0) (w2.alloc (.cells (madeCells #[.string ByteArray.empty] (s1.length + 1)) 9))) := by
        refine ⟨0, rfl, Nat.zero_le _, (Below.refl _ _).alloc (Nat.le_refl _) _, ?_⟩
        have := World.ownsRow_lit (base := 0) (e := 9) (size := 1) w2 (madeCells #[.string ByteArray.empty] (s1.length + 1)) (s1.length + 1) (Nat.zero_le _) (by unfold maxLen; omega) (by rw [size_madeCells, Nat.mul_one])
        rw [gl_zero, ← made_list]
        exact this
      go_wp2
      go_loopw [15] (fun kv wr => GRel w2 s1 kv wr) (fun kv _ => s1.length + 1 - (intOf kv).toNat)
      case atStart => exact H0.out
      case round =>
        clear H0 hmk3
        obtain ⟨k, rfl, hk, hbel, hown⟩ := hrel
        have HBR : Hid (Below w2.heap.size w2 wr) := hbel
        have HOR : Hid (wr.ownsRow 0 9 1 (.slice (some ⟨w2.heap.size, 0, none⟩) (s1.length + 1) (s1.length + 1)) (s1.length + 1) (gl s1 k)) := hown
        clear hbel hown
        obtain ⟨u, e2⟩ : ∃ u, wr.cell? ⟨w2.heap.size, k, none⟩ = some u := by
          have := HOR.out.1
          rw [HOR.out.cellAt k (by omega)]
          exact ⟨_, List.getElem?_eq_getElem (by omega)⟩
        have e3 := HOR.out.frozenAt k
        by_cases hkn : k < s1.length
        · obtain ⟨b, o, ha, hc⟩ := (HS2.out.below HBR.out).cell hkn
          cases ha
        · obtain rfl : k = s1.length := by omega
          obtain ⟨q1, q2⟩ := HOR.out.stored s1.length (.string extra)
          rw [gl_last] at q1
          have HBW : Hid (Below w2.heap.size w2 (wr.setCell ⟨w2.heap.size, s1.length, none⟩ (.string extra))) := HBR.out.grown q2 HBR.out.size (fun i hi => by cases hi; exact Nat.le_refl _)
          have HG4 : Hid (SRow (wr.setCell ⟨w2.heap.size, s1.length, none⟩ (.string extra)) (some ⟨w2.heap.size, 0, none⟩) (s1 ++ [extra])) := by
            have hlen : (s1 ++ [extra]).length = s1.length + 1 := by simp
            refine grown_row (by rw [hlen]; exact q1) (q1.lt w2.heap.size rfl).2 (by rw [hlen]; omega) (fun j => ?_)
            rw [List.getD_eq_getElem?_getD, List.getElem?_append]
            split
            · rw [← List.getD_eq_getElem?_getD]; exact H1.out.2.1 j
            · rw [← List.getD_eq_getElem?_getD]
              have hx := HEM.out
              unfold maxLen at hx
              rcases hj : j - s1.length with _ | i
              · exact hx
              · simp
          have HB4 : Hid (Below w.heap.size w (wr.setCell ⟨w2.heap.size, s1.length, none⟩ (.string extra))) := HB2.out.trans (HBW.out.mono HB2.out.size)
          have HS4 : Hid (SRow (wr.setCell ⟨w2.heap.size, s1.length, none⟩ (.string extra)) (none : Option Addr) s1) := HS2.out.below HBW.out
          have HM4 : Hid (MapOf (wr.setCell ⟨w2.heap.size, s1.length, none⟩ (.string extra)) r (fun key => lastN s2 s3 key s2.length)) := HM2.out.below HBW.out
          clear q1 q2 HBW HB2 HS2 HM2 HOR HBR hk hkn
          have hkb2 : (s1.length : Int) < (s1.length : Int) + 1 := by omega
          go_wp2_with fail
          generalize wr.setCell ⟨w2.heap.size, s1.length, none⟩ (.string extra) = w4 at *
          refine (lookup_any key _ _ c2 c3 s2 s3 _ (H2.out.below HB4.out) (H3.out.below HB4.out) HL.out HL2.out).mono ?_
          rintro e w5 ⟨he, rfl⟩
          have he' : e = .returned (.tuple #[.string v, .bool p]) := he.trans (by rw [HLK.out.1, HLK.out.2])
          subst he'
          have hT := HT.out
          have hlen0 : (s1 ++ [extra]).length = s1.length + 1 := by simp
          have HLEN : Hid ((s1 ++ [extra]).length = s1.length + 1) := hlen0
          clear hlen0
          clear he HLK HT H2 H3 HL HL2 e2 e3 hkb2
          cases p
          · go_wp2_with fail
            have ZM := zmatches_any 2 (.inr (.inr (.inl rfl))) key HKM.out (none : Option Addr) c1 s1 r _ w4 HS4.out HM4.out
            skip
            refine ZM.mono ?_
            clear ZM
            rintro e w5 ⟨he, hb⟩
            have he' : e = .returned (.bool (false && q)) := he.trans (by rw [← M2.out])
            subst he'
            have HB5 : Hid (Below w.heap.size w w5) := HB4.out.trans (hb.mono HB4.out.size)
            have HS5 : Hid (SRow w5 (none : Option Addr) s1) := HS4.out.below hb
            have HG5 : Hid (SRow w5 (some ⟨w2.heap.size, 0, none⟩) (s1 ++ [extra])) := HG4.out.below hb
            have HM5 : Hid (MapOf w5 r (fun key => lastN s2 s3 key s2.length)) := HM4.out.below hb
            clear hb he HB4 HS4 HG4 HM4
            go_wp2_with fail
            have ZM := zmatches_any 2 (.inr (.inr (.inl rfl))) key HKM.out (some ⟨w2.heap.size, 0, none⟩) (s1.length + 1) (s1 ++ [extra]) r _ w5 HG5.out HM5.out
            rw [HLEN.out] at ZM
            refine ZM.mono ?_
            clear ZM
            rintro e w6 ⟨he, hb⟩
            have he' : e = .returned (.bool (false && (q || t))) := he.trans (by rw [← N2.out])
            subst he'
            have HB6 : Hid (Below w.heap.size w w6) := HB5.out.trans (hb.mono HB5.out.size)
            have HS6 : Hid (SRow w6 (none : Option Addr) s1) := HS5.out.below hb
            have HG6 : Hid (SRow w6 (some ⟨w2.heap.size, 0, none⟩) (s1 ++ [extra])) := HG5.out.below hb
            have HM6 : Hid (MapOf w6 r (fun key => lastN s2 s3 key s2.length)) := HM5.out.below hb
            clear hb he HB5 HS5 HG5 HM5
            go_wp2_with fail
            have ZM := zmatches_any 3 (.inr (.inr (.inr rfl))) key HKM.out (none : Option Addr) c1 s1 r _ w6 HS6.out HM6.out
            skip
            refine ZM.mono ?_
            clear ZM
            rintro e w7 ⟨he, hb⟩
            have he' : e = .returned (.bool (!false || !q)) := he.trans (by rw [← M3.out])
            subst he'
            have HB7 : Hid (Below w.heap.size w w7) := HB6.out.trans (hb.mono HB6.out.size)
            have HS7 : Hid (SRow w7 (none : Option Addr) s1) := HS6.out.below hb
            have HG7 : Hid (SRow w7 (some ⟨w2.heap.size, 0, none⟩) (s1 ++ [extra])) := HG6.out.below hb
            have HM7 : Hid (MapOf w7 r (fun key => lastN s2 s3 key s2.length)) := HM6.out.below hb
            clear hb he HB6 HS6 HG6 HM6
            go_wp2_with fail
            have ZM := zmatches_any 3 (.inr (.inr (.inr rfl))) key HKM.out (some ⟨w2.heap.size, 0, none⟩) (s1.length + 1) (s1 ++ [extra]) r _ w7 HG7.out HM7.out
            rw [HLEN.out] at ZM
            refine ZM.mono ?_
            clear ZM
            rintro e w8 ⟨he, hb⟩
            have he' : e = .returned (.bool (!false || !(q || t))) := he.trans (by rw [← N3.out])
            subst he'
            have HB8 : Hid (Below w.heap.size w w8) := HB7.out.trans (hb.mono HB7.out.size)
            have HS8 : Hid (SRow w8 (none : Option Addr) s1) := HS7.out.below hb
            have HG8 : Hid (SRow w8 (some ⟨w2.heap.size, 0, none⟩) (s1 ++ [extra])) := HG7.out.below hb
            have HM8 : Hid (MapOf w8 r (fun key => lastN s2 s3 key s2.length)) := HM7.out.below hb
            clear hb he HB7 HS7 HG7 HM7
            clear M2 M3 N2 N3 HS8 HG8 HM8
            cases q <;> cases t
            all_goals
              go_wp2
              go_ret
              exact ⟨rfl, HB8.out⟩
          · go_wp2_with fail
            have ZM := zmatches_any 2 (.inr (.inr (.inl rfl))) key HKM.out (none : Option Addr) c1 s1 r _ w4 HS4.out HM4.out
            skip
            refine ZM.mono ?_
            clear ZM
            rintro e w5 ⟨he, hb⟩
            have he' : e = .returned (.bool (true && q)) := he.trans (by rw [← M2.out])
            subst he'
            have HB5 : Hid (Below w.heap.size w w5) := HB4.out.trans (hb.mono HB4.out.size)
            have HS5 : Hid (SRow w5 (none : Option Addr) s1) := HS4.out.below hb
            have HG5 : Hid (SRow w5 (some ⟨w2.heap.size, 0, none⟩) (s1 ++ [extra])) := HG4.out.below hb
            have HM5 : Hid (MapOf w5 r (fun key => lastN s2 s3 key s2.length)) := HM4.out.below hb
            clear hb he HB4 HS4 HG4 HM4
            go_wp2_with fail
            have ZM := zmatches_any 2 (.inr (.inr (.inl rfl))) key HKM.out (some ⟨w2.heap.size, 0, none⟩) (s1.length + 1) (s1 ++ [extra]) r _ w5 HG5.out HM5.out
            rw [HLEN.out] at ZM
            refine ZM.mono ?_
            clear ZM
            rintro e w6 ⟨he, hb⟩
            have he' : e = .returned (.bool (true && (q || t))) := he.trans (by rw [← N2.out])
            subst he'
            have HB6 : Hid (Below w.heap.size w w6) := HB5.out.trans (hb.mono HB5.out.size)
            have HS6 : Hid (SRow w6 (none : Option Addr) s1) := HS5.out.below hb
            have HG6 : Hid (SRow w6 (some ⟨w2.heap.size, 0, none⟩) (s1 ++ [extra])) := HG5.out.below hb
            have HM6 : Hid (MapOf w6 r (fun key => lastN s2 s3 key s2.length)) := HM5.out.below hb
            clear hb he HB5 HS5 HG5 HM5
            go_wp2_with fail
            have ZM := zmatches_any 3 (.inr (.inr (.inr rfl))) key HKM.out (none : Option Addr) c1 s1 r _ w6 HS6.out HM6.out
            skip
            refine ZM.mono ?_
            clear ZM
            rintro e w7 ⟨he, hb⟩
            have he' : e = .returned (.bool (!true || !q)) := he.trans (by rw [← M3.out])
            subst he'
            have HB7 : Hid (Below w.heap.size w w7) := HB6.out.trans (hb.mono HB6.out.size)
            have HS7 : Hid (SRow w7 (none : Option Addr) s1) := HS6.out.below hb
            have HG7 : Hid (SRow w7 (some ⟨w2.heap.size, 0, none⟩) (s1 ++ [extra])) := HG6.out.below hb
            have HM7 : Hid (MapOf w7 r (fun key => lastN s2 s3 key s2.length)) := HM6.out.below hb
            clear hb he HB6 HS6 HG6 HM6
            go_wp2_with fail
            have ZM := zmatches_any 3 (.inr (.inr (.inr rfl))) key HKM.out (some ⟨w2.heap.size, 0, none⟩) (s1.length + 1) (s1 ++ [extra]) r _ w7 HG7.out HM7.out
            rw [HLEN.out] at ZM
            refine ZM.mono ?_
            clear ZM
            rintro e w8 ⟨he, hb⟩
            have he' : e = .returned (.bool (!true || !(q || t))) := he.trans (by rw [← N3.out])
            subst he'
            have HB8 : Hid (Below w.heap.size w w8) := HB7.out.trans (hb.mono HB7.out.size)
            have HS8 : Hid (SRow w8 (none : Option Addr) s1) := HS7.out.below hb
            have HG8 : Hid (SRow w8 (some ⟨w2.heap.size, 0, none⟩) (s1 ++ [extra])) := HG7.out.below hb
            have HM8 : Hid (MapOf w8 r (fun key => lastN s2 s3 key s2.length)) := HM7.out.below hb
            clear hb he HB7 HS7 HG7 HM7
            clear M2 M3 N2 N3 HS8 HG8 HM8
            cases q <;> cases t
            all_goals
              go_wp2
              go_ret
              exact ⟨rfl, HB8.out⟩
    · have hli : ((s2.length : Int) != (s3.length : Int)) = true := by simp; omega
      clear hl
      go_wp2
      go_ret
      exact ⟨rfl, HB.out⟩
  | some x =>
    have hmk := make27 s1.length
    go_enter Try.func5, Try.ntmps5
    go_wp2_with fail
    refine (bytesx_any key extra _ _ _ c1 c2 c3 _ _ _ w H1.out H2.out H3.out).mono ?_
    rintro e w1 ⟨(rfl | ⟨rfl, l1, l2, l3⟩), rfl⟩
    · go_wp2
      go_ret
      exact ⟨rfl, Below.refl _ _⟩
    have hmk2 := hmk (by omega)
    clear hmk
    have hcp := copy27 x c1 s1 w H1.out
    go_wp2_with fail
    have HB : Hid (Below w.heap.size w (w.alloc (.cells (strV s1).toArray 9))) := (Below.refl _ _).alloc (Nat.le_refl _) _
    have HS : Hid (SRow (w.alloc (.cells (strV s1).toArray 9)) (some ⟨w.heap.size, 0, none⟩) s1) := row_new s1 w H1.out.1 H1.out.2.1
    clear hmk2 hcp
    generalize w.alloc (.cells (strV s1).toArray 9) = W at *
    refine (spendText_any key _ _).mono ?_
    rintro e w1 ⟨⟨z0, rfl⟩, rfl⟩
    go_wp2_with fail
    refine (spendText_any extra z0 _).mono ?_
    rintro e w1 ⟨⟨z1, rfl⟩, rfl⟩
    go_wp2_with fail
    refine (spend_any _ _ _ z1 _ HS.out).mono ?_
    rintro e w1 ⟨⟨z2, rfl⟩, rfl⟩
    go_wp2_with fail
    refine (spend_any _ c2 _ z2 _ (H2.out.below HB.out)).mono ?_
    rintro e w1 ⟨⟨z3, rfl⟩, rfl⟩
    go_wp2_with fail
    refine (spend_any _ c3 _ z3 _ (H3.out.below HB.out)).mono ?_
    rintro e w1 ⟨⟨z4, rfl⟩, rfl⟩
    by_cases hz : z4 < 0
    · go_wp2
      go_ret
      exact ⟨rfl, HB.out⟩
    by_cases hl : s2.length = s3.length
    · have HL : Hid (s2.length = s3.length) := hl
      have hli : ((s2.length : Int) != (s3.length : Int)) = false := by simp; omega
      clear hl
      go_wp2_with fail
      refine (labels_any _ _ c2 c3 s2 s3 _ (H2.out.below HB.out) (H3.out.below HB.out) HL.out (by omega)).mono ?_
      rintro e w2 ⟨r, rfl, hb, hmap⟩
      have HB2 : Hid (Below w.heap.size w w2) := HB.out.trans (hb.mono HB.out.size)
      have HS2 : Hid (SRow w2 (some ⟨w.heap.size, 0, none⟩) s1) := HS.out.below hb
      have HM2 : Hid (MapOf w2 r (fun key => lastN s2 s3 key s2.length)) := hmap
      have HL2 : Hid (s2.length ≤ 1048576) := l2
      clear hb hmap HB HS hli hz l2 l3
      have hmk3 : ∀ w, (Instr.makeSlice 27 (.int .i64 ((s1.length : Int) + 1)) (.int .i64 ((s1.length : Int) + 1))).run Try.prog w = .ok (.slice (some ⟨w.heap.size, 0, none⟩) (s1.length + 1) (s1.length + 1)) (w.alloc (.cells (madeCells #[.string ByteArray.empty] (s1.length + 1)) 9)) := fun w => make27 (s1.length + 1) (by omega) w
      have H0 : Hid (GRel w2 s1 (.int .i64 0) (w2.alloc (.cells (madeCells #[.string ByteArray.empty] (s1.length + 1)) 9))) := by
        refine ⟨0, rfl, Nat.zero_le _, (Below.refl _ _).alloc (Nat.le_refl _) _, ?_⟩
        have := World.ownsRow_lit (base := 0) (e := 9) (size := 1) w2 (madeCells #[.string ByteArray.empty] (s1.length + 1)) (s1.length + 1) (Nat.zero_le _) (by unfold maxLen; omega) (by rw [size_madeCells, Nat.mul_one])
        rw [gl_zero, ← made_list]
        exact this
      go_wp2
      go_loopw [15] (fun kv wr => GRel w2 s1 kv wr) (fun kv _ => s1.length + 1 - (intOf kv).toNat)
      case atStart => exact H0.out
      case round =>
        clear H0 hmk3
        obtain ⟨k, rfl, hk, hbel, hown⟩ := hrel
        have HBR : Hid (Below w2.heap.size w2 wr) := hbel
        have HOR : Hid (wr.ownsRow 0 9 1 (.slice (some ⟨w2.heap.size, 0, none⟩) (s1.length + 1) (s1.length + 1)) (s1.length + 1) (gl s1 k)) := hown
        clear hbel hown
        obtain ⟨u, e2⟩ : ∃ u, wr.cell? ⟨w2.heap.size, k, none⟩ = some u := by
          have := HOR.out.1
          rw [HOR.out.cellAt k (by omega)]
          exact ⟨_, List.getElem?_eq_getElem (by omega)⟩
        have e3 := HOR.out.frozenAt k
        by_cases hkn : k < s1.length
        · obtain ⟨b, o, ha, hc⟩ := (HS2.out.below HBR.out).cell hkn
          cases ha
          rw [Nat.zero_add] at hc
          have HN : Hid (GRel w2 s1 (.int .i64 ((k : Int) + 1)) (wr.setCell ⟨w2.heap.size, k, none⟩ (.string (s1.getD k ByteArray.empty)))) := by
            obtain ⟨q1, q2⟩ := HOR.out.stored k (.string (s1.getD k ByteArray.empty))
            rw [gl_step s1 k hkn] at q1
            exact ⟨k + 1, by simp, by omega, HBR.out.grown q2 HBR.out.size (fun i hi => by cases hi; exact Nat.le_refl _), q1⟩
          generalize s1.getD k ByteArray.empty = sk at hc HN
          have hkb : (k : Int) < (s1.length : Int) := by omega
          have hkb2 : (k : Int) < (s1.length : Int) + 1 := by omega
          go_wp2
          go_roundw
          case rel => exact HN.out
          case measure => simp [intOf]; omega
        · obtain rfl : k = s1.length := by omega
          obtain ⟨q1, q2⟩ := HOR.out.stored s1.length (.string extra)
          rw [gl_last] at q1
          have HBW : Hid (Below w2.heap.size w2 (wr.setCell ⟨w2.heap.size, s1.length, none⟩ (.string extra))) := HBR.out.grown q2 HBR.out.size (fun i hi => by cases hi; exact Nat.le_refl _)
          have HG4 : Hid (SRow (wr.setCell ⟨w2.heap.size, s1.length, none⟩ (.string extra)) (some ⟨w2.heap.size, 0, none⟩) (s1 ++ [extra])) := by
            have hlen : (s1 ++ [extra]).length = s1.length + 1 := by simp
            refine grown_row (by rw [hlen]; exact q1) (q1.lt w2.heap.size rfl).2 (by rw [hlen]; omega) (fun j => ?_)
            rw [List.getD_eq_getElem?_getD, List.getElem?_append]
            split
            · rw [← List.getD_eq_getElem?_getD]; exact H1.out.2.1 j
            · rw [← List.getD_eq_getElem?_getD]
              have hx := HEM.out
              unfold maxLen at hx
              rcases hj : j - s1.length with _ | i
              · exact hx
              · simp
          have HB4 : Hid (Below w.heap.size w (wr.setCell ⟨w2.heap.size, s1.length, none⟩ (.string extra))) := HB2.out.trans (HBW.out.mono HB2.out.size)
          have HS4 : Hid (SRow (wr.setCell ⟨w2.heap.size, s1.length, none⟩ (.string extra)) (some ⟨w.heap.size, 0, none⟩) s1) := HS2.out.below HBW.out
          have HM4 : Hid (MapOf (wr.setCell ⟨w2.heap.size, s1.length, none⟩ (.string extra)) r (fun key => lastN s2 s3 key s2.length)) := HM2.out.below HBW.out
          clear q1 q2 HBW HB2 HS2 HM2 HOR HBR hk hkn
          have hkb2 : (s1.length : Int) < (s1.length : Int) + 1 := by omega
          go_wp2_with fail
          generalize wr.setCell ⟨w2.heap.size, s1.length, none⟩ (.string extra) = w4 at *
          refine (lookup_any key _ _ c2 c3 s2 s3 _ (H2.out.below HB4.out) (H3.out.below HB4.out) HL.out HL2.out).mono ?_
          rintro e w5 ⟨he, rfl⟩
          have he' : e = .returned (.tuple #[.string v, .bool p]) := he.trans (by rw [HLK.out.1, HLK.out.2])
          subst he'
          have hT := HT.out
          have hlen0 : (s1 ++ [extra]).length = s1.length + 1 := by simp
          have HLEN : Hid ((s1 ++ [extra]).length = s1.length + 1) := hlen0
          clear hlen0
          clear he HLK HT H2 H3 HL HL2 e2 e3 hkb2
          cases p
          · go_wp2_with fail
            have ZM := zmatches_any 2 (.inr (.inr (.inl rfl))) key HKM.out (some ⟨w.heap.size, 0, none⟩) s1.length s1 r _ w4 HS4.out HM4.out
            skip
            refine ZM.mono ?_
            clear ZM
            rintro e w5 ⟨he, hb⟩
            have he' : e = .returned (.bool (false && q)) := he.trans (by rw [← M2.out])
            subst he'
            have HB5 : Hid (Below w.heap.size w w5) := HB4.out.trans (hb.mono HB4.out.size)
            have HS5 : Hid (SRow w5 (some ⟨w.heap.size, 0, none⟩) s1) := HS4.out.below hb
            have HG5 : Hid (SRow w5 (some ⟨w2.heap.size, 0, none⟩) (s1 ++ [extra])) := HG4.out.below hb
            have HM5 : Hid (MapOf w5 r (fun key => lastN s2 s3 key s2.length)) := HM4.out.below hb
            clear hb he HB4 HS4 HG4 HM4
            go_wp2_with fail
            have ZM := zmatches_any 2 (.inr (.inr (.inl rfl))) key HKM.out (some ⟨w2.heap.size, 0, none⟩) (s1.length + 1) (s1 ++ [extra]) r _ w5 HG5.out HM5.out
            rw [HLEN.out] at ZM
            refine ZM.mono ?_
            clear ZM
            rintro e w6 ⟨he, hb⟩
            have he' : e = .returned (.bool (false && (q || t))) := he.trans (by rw [← N2.out])
            subst he'
            have HB6 : Hid (Below w.heap.size w w6) := HB5.out.trans (hb.mono HB5.out.size)
            have HS6 : Hid (SRow w6 (some ⟨w.heap.size, 0, none⟩) s1) := HS5.out.below hb
            have HG6 : Hid (SRow w6 (some ⟨w2.heap.size, 0, none⟩) (s1 ++ [extra])) := HG5.out.below hb
            have HM6 : Hid (MapOf w6 r (fun key => lastN s2 s3 key s2.length)) := HM5.out.below hb
            clear hb he HB5 HS5 HG5 HM5
            go_wp2_with fail
            have ZM := zmatches_any 3 (.inr (.inr (.inr rfl))) key HKM.out (some ⟨w.heap.size, 0, none⟩) s1.length s1 r _ w6 HS6.out HM6.out
            skip
            refine ZM.mono ?_
            clear ZM
            rintro e w7 ⟨he, hb⟩
            have he' : e = .returned (.bool (!false || !q)) := he.trans (by rw [← M3.out])
            subst he'
            have HB7 : Hid (Below w.heap.size w w7) := HB6.out.trans (hb.mono HB6.out.size)
            have HS7 : Hid (SRow w7 (some ⟨w.heap.size, 0, none⟩) s1) := HS6.out.below hb
            have HG7 : Hid (SRow w7 (some ⟨w2.heap.size, 0, none⟩) (s1 ++ [extra])) := HG6.out.below hb
            have HM7 : Hid (MapOf w7 r (fun key => lastN s2 s3 key s2.length)) := HM6.out.below hb
            clear hb he HB6 HS6 HG6 HM6
            go_wp2_with fail
            have ZM := zmatches_any 3 (.inr (.inr (.inr rfl))) key HKM.out (some ⟨w2.heap.size, 0, none⟩) (s1.length + 1) (s1 ++ [extra]) r _ w7 HG7.out HM7.out
            rw [HLEN.out] at ZM
            refine ZM.mono ?_
            clear ZM
            rintro e w8 ⟨he, hb⟩
            have he' : e = .returned (.bool (!false || !(q || t))) := he.trans (by rw [← N3.out])
            subst he'
            have HB8 : Hid (Below w.heap.size w w8) := HB7.out.trans (hb.mono HB7.out.size)
            have HS8 : Hid (SRow w8 (some ⟨w.heap.size, 0, none⟩) s1) := HS7.out.below hb
            have HG8 : Hid (SRow w8 (some ⟨w2.heap.size, 0, none⟩) (s1 ++ [extra])) := HG7.out.below hb
            have HM8 : Hid (MapOf w8 r (fun key => lastN s2 s3 key s2.length)) := HM7.out.below hb
            clear hb he HB7 HS7 HG7 HM7
            clear M2 M3 N2 N3 HS8 HG8 HM8
            cases q <;> cases t
            all_goals
              go_wp2
              go_ret
              exact ⟨rfl, HB8.out⟩
          · go_wp2_with fail
            have ZM := zmatches_any 2 (.inr (.inr (.inl rfl))) key HKM.out (some ⟨w.heap.size, 0, none⟩) s1.length s1 r _ w4 HS4.out HM4.out
            skip
            refine ZM.mono ?_
            clear ZM
            rintro e w5 ⟨he, hb⟩
            have he' : e = .returned (.bool (true && q)) := he.trans (by rw [← M2.out])
            subst he'
            have HB5 : Hid (Below w.heap.size w w5) := HB4.out.trans (hb.mono HB4.out.size)
            have HS5 : Hid (SRow w5 (some ⟨w.heap.size, 0, none⟩) s1) := HS4.out.below hb
            have HG5 : Hid (SRow w5 (some ⟨w2.heap.size, 0, none⟩) (s1 ++ [extra])) := HG4.out.below hb
            have HM5 : Hid (MapOf w5 r (fun key => lastN s2 s3 key s2.length)) := HM4.out.below hb
            clear hb he HB4 HS4 HG4 HM4
            go_wp2_with fail
            have ZM := zmatches_any 2 (.inr (.inr (.inl rfl))) key HKM.out (some ⟨w2.heap.size, 0, none⟩) (s1.length + 1) (s1 ++ [extra]) r _ w5 HG5.out HM5.out
            rw [HLEN.out] at ZM
            refine ZM.mono ?_
            clear ZM
            rintro e w6 ⟨he, hb⟩
            have he' : e = .returned (.bool (true && (q || t))) := he.trans (by rw [← N2.out])
            subst he'
            have HB6 : Hid (Below w.heap.size w w6) := HB5.out.trans (hb.mono HB5.out.size)
            have HS6 : Hid (SRow w6 (some ⟨w.heap.size, 0, none⟩) s1) := HS5.out.below hb
            have HG6 : Hid (SRow w6 (some ⟨w2.heap.size, 0, none⟩) (s1 ++ [extra])) := HG5.out.below hb
            have HM6 : Hid (MapOf w6 r (fun key => lastN s2 s3 key s2.length)) := HM5.out.below hb
            clear hb he HB5 HS5 HG5 HM5
            go_wp2_with fail
            have ZM := zmatches_any 3 (.inr (.inr (.inr rfl))) key HKM.out (some ⟨w.heap.size, 0, none⟩) s1.length s1 r _ w6 HS6.out HM6.out
            skip
            refine ZM.mono ?_
            clear ZM
            rintro e w7 ⟨he, hb⟩
            have he' : e = .returned (.bool (!true || !q)) := he.trans (by rw [← M3.out])
            subst he'
            have HB7 : Hid (Below w.heap.size w w7) := HB6.out.trans (hb.mono HB6.out.size)
            have HS7 : Hid (SRow w7 (some ⟨w.heap.size, 0, none⟩) s1) := HS6.out.below hb
            have HG7 : Hid (SRow w7 (some ⟨w2.heap.size, 0, none⟩) (s1 ++ [extra])) := HG6.out.below hb
            have HM7 : Hid (MapOf w7 r (fun key => lastN s2 s3 key s2.length)) := HM6.out.below hb
            clear hb he HB6 HS6 HG6 HM6
            go_wp2_with fail
            have ZM := zmatches_any 3 (.inr (.inr (.inr rfl))) key HKM.out (some ⟨w2.heap.size, 0, none⟩) (s1.length + 1) (s1 ++ [extra]) r _ w7 HG7.out HM7.out
            rw [HLEN.out] at ZM
            refine ZM.mono ?_
            clear ZM
            rintro e w8 ⟨he, hb⟩
            have he' : e = .returned (.bool (!true || !(q || t))) := he.trans (by rw [← N3.out])
            subst he'
            have HB8 : Hid (Below w.heap.size w w8) := HB7.out.trans (hb.mono HB7.out.size)
            have HS8 : Hid (SRow w8 (some ⟨w.heap.size, 0, none⟩) s1) := HS7.out.below hb
            have HG8 : Hid (SRow w8 (some ⟨w2.heap.size, 0, none⟩) (s1 ++ [extra])) := HG7.out.below hb
            have HM8 : Hid (MapOf w8 r (fun key => lastN s2 s3 key s2.length)) := HM7.out.below hb
            clear hb he HB7 HS7 HG7 HM7
            clear M2 M3 N2 N3 HS8 HG8 HM8
            cases q <;> cases t
            all_goals
              go_wp2
              go_ret
              exact ⟨rfl, HB8.out⟩
    · have hli : ((s2.length : Int) != (s3.length : Int)) = true := by simp; omega
      clear hl
      go_wp2
      go_ret
      exact ⟨rfl, HB.out⟩
end Go.Proofs.Qxb6606378a
