/-
  THE FIRST LAW's WALK.
-/
import Derived.Test.Qxb6606378aMat
import Derived.Laws.CopyOwn
import Derived.Laws.Cover3
import Derived.Deep.WholeRow
namespace Go.Proofs.Qxb6606378a
open Go.RowKit Go.Maps

theorem info9 : (Try.prog.info? 9).map (fun i => (i.zero, i.size, i.bytes)) = some (some (.string ByteArray.empty), 1, 16) := by kernel_rfl

def strV (ss : List ByteArray) : List Value := ss.map Value.string
theorem strV_length (ss : List ByteArray) : (strV ss).length = ss.length := by simp [strV]
theorem strV_at {ss : List ByteArray} {j : Nat} (h : j < ss.length) : (strV ss)[j]? = some (.string (ss.getD j ByteArray.empty)) := by simp [strV, List.getD, h]

theorem make27 (n : Nat) (hn : n ≤ 2097152) (w : World) : (Instr.makeSlice 27 (.int .i64 (n : Int)) (.int .i64 (n : Int))).run Try.prog w = .ok (.slice (some ⟨w.heap.size, 0, none⟩) n n) (w.alloc (.cells (madeCells #[.string ByteArray.empty] n) 9)) := by
  obtain ⟨i0, hi, hz0, hz1, hz2⟩ : ∃ i0, Try.prog.info? 9 = some i0 ∧ i0.zero = some (.string ByteArray.empty) ∧ i0.size = 1 ∧ i0.bytes = 16 := by
    have h := info9
    cases hq : Try.prog.info? 9 with
    | none => rw [hq] at h; cases h
    | some i => rw [hq] at h; simp at h; exact ⟨i, rfl, h.1, h.2.1, h.2.2⟩
  have := run_make (P := Try.prog) w 27 9 i0 (.string ByteArray.empty) Try.underlying27 hi hz0 .i64 .i64 (n : Int) (n : Int) (by omega) (by omega) (by rw [hz2]; omega) (by omega)
  rw [this, hz1]
  simp [Value.cells]

theorem copy27 (x : Addr) (cap : Nat) (ss : List ByteArray) (w : World) (h : SRow w (some x) ss) :
    (Builtin.copy_ #[27, 27] 3 #[.slice (some ⟨w.heap.size, 0, none⟩) ss.length ss.length, .slice (some x) ss.length cap]).run Try.prog (w.alloc (.cells (madeCells #[.string ByteArray.empty] ss.length) 9)) = .ok (goInt ss.length) (w.alloc (.cells (strV ss).toArray 9)) := by
  have hs : (Try.prog.info? 9).map (·.size) = some 1 := by kernel_rfl
  have := run_copy_row (P := Try.prog) (w.alloc (.cells (madeCells #[.string ByteArray.empty] ss.length) 9)) 27 27 3 9 w.heap.size 0 ss.length ss.length x ss.length cap (madeCells #[.string ByteArray.empty] ss.length) 9 (strV ss) Try.underlying27 hs (heap_alloc_new w _) (by rw [strV_length]; simp) (by
    intro j v hv
    have hj : j < ss.length := by
      rw [← strV_length ss]
      exact (List.getElem?_eq_some_iff.1 hv).1
    rw [strV_at hj] at hv
    cases hv
    obtain ⟨b, o, hx, hc⟩ := (h.below ((Below.refl w.heap.size w).alloc (Nat.le_refl _) (.cells (madeCells #[.string ByteArray.empty] ss.length) 9))).cell hj
    obtain rfl := Option.some.inj hx
    rw [Addr.add_lit]
    exact hc) (by simp [madeCells, strV]) (by intro v hv; simp [strV] at hv; obtain ⟨_, _, rfl⟩ := hv; rfl)
  rw [this, World.setRow_alloc_new, strV_length]
  congr 3
  simp [madeCells, strV]

theorem row_new (ss : List ByteArray) (w : World) (h1 : ss.length ≤ 9223372036854775807) (h2 : ∀ j, (ss.getD j ByteArray.empty).size ≤ 9223372036854775807) : SRow (w.alloc (.cells (strV ss).toArray 9)) (some ⟨w.heap.size, 0, none⟩) ss := by
  refine ⟨h1, h2, (fun h => by cases h), .inr ⟨_, _, rfl, by simp, fun j hj => ?_⟩⟩
  rw [cell_of_row _ _ _ _ _ _ (heap_alloc_new w _), Nat.zero_add]
  have := strV_at hj
  simpa using this

set_option maxHeartbeats 1600000 in
theorem pairs_any (key : ByteArray) (hkm : key.size ≤ maxLen) (a1 a2 a3 : Option Addr) (c1 c2 c3 : Nat) (s1 s2 s3 : List ByteArray) (w : World) (h1 : SRow w a1 s1) (h2 : SRow w a2 s2) (h3 : SRow w a3 s3) :
    Calls Try.prog 4 #[.string key, .slice a1 s1.length c1, .slice a2 s2.length c2, .slice a3 s3.length c3] w fun e w' => e = .returned (.bool true) ∧ Below w.heap.size w w' := by
  have q27 : ∀ (w : World) (a : Option Addr) (n c : Nat), (binOp .neq 27 (.slice a n c) (.slice none 0 0)).run Try.prog w = .ok (.bool (!a.isNone)) w := fun w a n c => run_neq_slice_nil w 27 9 a n c Try.underlying27
  have H1 : Hid (SRow w a1 s1) := h1
  have H2 : Hid (SRow w a2 s2) := h2
  have H3 : Hid (SRow w a3 s3) := h3
  have HKM : Hid (key.size ≤ maxLen) := hkm
  clear h1 h2 h3 hkm
  obtain ⟨p, hp⟩ : ∃ p, p = (lastN s2 s3 key s2.length).isSome := ⟨_, rfl⟩
  obtain ⟨q, hq⟩ : ∃ q, q = Lib.containsS s1 ((lastN s2 s3 key s2.length).getD ByteArray.empty) := ⟨_, rfl⟩
  have M0 : Hid (meets 0 (lastN s2 s3 key s2.length) s1 = p) := by rw [hp]; rfl
  have M1 : Hid (meets 1 (lastN s2 s3 key s2.length) s1 = !p) := by rw [hp]; rfl
  have M2 : Hid (meets 2 (lastN s2 s3 key s2.length) s1 = (p && q)) := by rw [hp, hq]; rfl
  have M3 : Hid (meets 3 (lastN s2 s3 key s2.length) s1 = (!p || !q)) := by rw [hp, hq]; rfl
  clear hp hq
  cases a1 with
  | none =>
    obtain rfl := H1.out.2.2.1 rfl
    go_enter Try.func4, Try.ntmps4
    go_wp2_with fail
    refine (bytes_any key _ _ _ c1 c2 c3 _ _ _ w H1.out H2.out H3.out).mono ?_
    rintro e w1 ⟨(rfl | ⟨rfl, l1, l2, l3⟩), rfl⟩
    · go_wp2
      go_ret
      exact ⟨rfl, Below.refl _ _⟩
    go_wp2_with fail
    have HB : Hid (Below w.heap.size w w) := Below.refl _ _
    have HS : Hid (SRow w (none : Option Addr) []) := H1.out
    refine (spendText_any key _ _).mono ?_
    rintro e w1 ⟨⟨z1, rfl⟩, rfl⟩
    go_wp2_with fail
    refine (spend_any _ _ _ z1 _ HS.out).mono ?_
    rintro e w1 ⟨⟨z2, rfl⟩, rfl⟩
    go_wp2_with fail
    refine (spend_any _ c2 _ z2 _ (H2.out.below HB.out)).mono ?_
    rintro e w1 ⟨⟨z3, rfl⟩, rfl⟩
    go_wp2_with fail
    refine (spend_any _ c3 _ z3 _ (H3.out.below HB.out)).mono ?_
    rintro e w1 ⟨⟨z4, rfl⟩, rfl⟩
    by_cases hz : z4 < 0
    · go_wp2
      go_ret
      exact ⟨rfl, HB.out⟩
    by_cases hl : s2.length = s3.length
    · have HL : Hid (s2.length = s3.length) := hl
      have hli : ((s2.length : Int) != (s3.length : Int)) = false := by simp; omega
      clear hl
      go_wp2_with fail
      refine (labels_any _ _ c2 c3 s2 s3 _ (H2.out.below HB.out) (H3.out.below HB.out) HL.out (by omega)).mono ?_
      rintro e w2 ⟨r, rfl, hb, hmap⟩
      have HB2 : Hid (Below w.heap.size w w2) := HB.out.trans (hb.mono HB.out.size)
      have HS2 : Hid (SRow w2 none []) := HS.out.below hb
      have HM2 : Hid (MapOf w2 r (fun key => lastN s2 s3 key s2.length)) := hmap
      clear hb hmap HB HS H1 H2 H3 HL hli l1 l2 l3
      go_wp2_with fail
      refine (zmatches_any 0 (.inl rfl) key HKM.out _ _ [] r _ w2 HS2.out HM2.out).mono ?_
      rintro e w3 ⟨he, hb⟩
      have he' : e = .returned (.bool p) := he.trans (by rw [← M0.out])
      subst he'
      have HB3 : Hid (Below w.heap.size w w3) := HB2.out.trans (hb.mono HB2.out.size)
      have HS3 : Hid (SRow w3 none []) := HS2.out.below hb
      have HM3 : Hid (MapOf w3 r (fun key => lastN s2 s3 key s2.length)) := HM2.out.below hb
      clear hb he HB2 HS2 HM2
      go_wp2_with fail
      refine (zmatches_any 1 (.inr (.inl rfl)) key HKM.out _ _ [] r _ w3 HS3.out HM3.out).mono ?_
      rintro e w4 ⟨he, hb⟩
      have he' : e = .returned (.bool (!p)) := he.trans (by rw [← M1.out])
      subst he'
      have HB4 : Hid (Below w.heap.size w w4) := HB3.out.trans (hb.mono HB3.out.size)
      have HS4 : Hid (SRow w4 none []) := HS3.out.below hb
      have HM4 : Hid (MapOf w4 r (fun key => lastN s2 s3 key s2.length)) := HM3.out.below hb
      clear hb he HB3 HS3 HM3
      go_wp2_with fail
      refine (zmatches_any 2 (.inr (.inr (.inl rfl))) key HKM.out _ _ [] r _ w4 HS4.out HM4.out).mono ?_
      rintro e w5 ⟨he, hb⟩
      have he' : e = .returned (.bool (p && q)) := he.trans (by rw [← M2.out])
      subst he'
      have HB5 : Hid (Below w.heap.size w w5) := HB4.out.trans (hb.mono HB4.out.size)
      have HS5 : Hid (SRow w5 none []) := HS4.out.below hb
      have HM5 : Hid (MapOf w5 r (fun key => lastN s2 s3 key s2.length)) := HM4.out.below hb
      clear hb he HB4 HS4 HM4
      go_wp2_with fail
      refine (zmatches_any 3 (.inr (.inr (.inr rfl))) key HKM.out _ _ [] r _ w5 HS5.out HM5.out).mono ?_
      rintro e w6 ⟨he, hb⟩
      have he' : e = .returned (.bool (!p || !q)) := he.trans (by rw [← M3.out])
      subst he'
      have HB6 : Hid (Below w.heap.size w w6) := HB5.out.trans (hb.mono HB5.out.size)
      clear hb he HB5 HS5 HM5 M0 M1 M2 M3
      cases p <;> cases q
      all_goals
        go_wp2
        go_ret
        exact ⟨rfl, HB6.out⟩
    · have hli : ((s2.length : Int) != (s3.length : Int)) = true := by simp; omega
      clear hl
      go_wp2
      go_ret
      exact ⟨rfl, HB.out⟩
  | some x =>
    have hmk := make27 s1.length
    go_enter Try.func4, Try.ntmps4
    go_wp2_with fail
    refine (bytes_any key _ _ _ c1 c2 c3 _ _ _ w H1.out H2.out H3.out).mono ?_
    rintro e w1 ⟨(rfl | ⟨rfl, l1, l2, l3⟩), rfl⟩
    · go_wp2
      go_ret
      exact ⟨rfl, Below.refl _ _⟩
    have hmk2 := hmk (by omega)
    clear hmk
    have hcp := copy27 x c1 s1 w H1.out
    go_wp2_with fail
    have HB : Hid (Below w.heap.size w (w.alloc (.cells (strV s1).toArray 9))) := (Below.refl _ _).alloc (Nat.le_refl _) _
    have HS : Hid (SRow (w.alloc (.cells (strV s1).toArray 9)) (some ⟨w.heap.size, 0, none⟩) s1) := row_new s1 w H1.out.1 H1.out.2.1
    clear hmk2 hcp
    generalize w.alloc (.cells (strV s1).toArray 9) = W at *
    refine (spendText_any key _ _).mono ?_
    rintro e w1 ⟨⟨z1, rfl⟩, rfl⟩
    go_wp2_with fail
    refine (spend_any _ _ _ z1 _ HS.out).mono ?_
    rintro e w1 ⟨⟨z2, rfl⟩, rfl⟩
    go_wp2_with fail
    refine (spend_any _ c2 _ z2 _ (H2.out.below HB.out)).mono ?_
    rintro e w1 ⟨⟨z3, rfl⟩, rfl⟩
    go_wp2_with fail
    refine (spend_any _ c3 _ z3 _ (H3.out.below HB.out)).mono ?_
    rintro e w1 ⟨⟨z4, rfl⟩, rfl⟩
    by_cases hz : z4 < 0
    · go_wp2
      go_ret
      exact ⟨rfl, HB.out⟩
    by_cases hl : s2.length = s3.length
    · have HL : Hid (s2.length = s3.length) := hl
      have hli : ((s2.length : Int) != (s3.length : Int)) = false := by simp; omega
      clear hl
      go_wp2_with fail
      refine (labels_any _ _ c2 c3 s2 s3 _ (H2.out.below HB.out) (H3.out.below HB.out) HL.out (by omega)).mono ?_
      rintro e w2 ⟨r, rfl, hb, hmap⟩
      have HB2 : Hid (Below w.heap.size w w2) := HB.out.trans (hb.mono HB.out.size)
      have HS2 : Hid (SRow w2 (some ⟨w.heap.size, 0, none⟩) s1) := HS.out.below hb
      have HM2 : Hid (MapOf w2 r (fun key => lastN s2 s3 key s2.length)) := hmap
      clear hb hmap HB HS H1 H2 H3 HL hli l1 l2 l3
      go_wp2_with fail
      refine (zmatches_any 0 (.inl rfl) key HKM.out _ _ s1 r _ w2 HS2.out HM2.out).mono ?_
      rintro e w3 ⟨he, hb⟩
      have he' : e = .returned (.bool p) := he.trans (by rw [← M0.out])
      subst he'
      have HB3 : Hid (Below w.heap.size w w3) := HB2.out.trans (hb.mono HB2.out.size)
      have HS3 : Hid (SRow w3 (some ⟨w.heap.size, 0, none⟩) s1) := HS2.out.below hb
      have HM3 : Hid (MapOf w3 r (fun key => lastN s2 s3 key s2.length)) := HM2.out.below hb
      clear hb he HB2 HS2 HM2
      go_wp2_with fail
      refine (zmatches_any 1 (.inr (.inl rfl)) key HKM.out _ _ s1 r _ w3 HS3.out HM3.out).mono ?_
      rintro e w4 ⟨he, hb⟩
      have he' : e = .returned (.bool (!p)) := he.trans (by rw [← M1.out])
      subst he'
      have HB4 : Hid (Below w.heap.size w w4) := HB3.out.trans (hb.mono HB3.out.size)
      have HS4 : Hid (SRow w4 (some ⟨w.heap.size, 0, none⟩) s1) := HS3.out.below hb
      have HM4 : Hid (MapOf w4 r (fun key => lastN s2 s3 key s2.length)) := HM3.out.below hb
      clear hb he HB3 HS3 HM3
      go_wp2_with fail
      refine (zmatches_any 2 (.inr (.inr (.inl rfl))) key HKM.out _ _ s1 r _ w4 HS4.out HM4.out).mono ?_
      rintro e w5 ⟨he, hb⟩
      have he' : e = .returned (.bool (p && q)) := he.trans (by rw [← M2.out])
      subst he'
      have HB5 : Hid (Below w.heap.size w w5) := HB4.out.trans (hb.mono HB4.out.size)
      have HS5 : Hid (SRow w5 (some ⟨w.heap.size, 0, none⟩) s1) := HS4.out.below hb
      have HM5 : Hid (MapOf w5 r (fun key => lastN s2 s3 key s2.length)) := HM4.out.below hb
      clear hb he HB4 HS4 HM4
      go_wp2_with fail
      refine (zmatches_any 3 (.inr (.inr (.inr rfl))) key HKM.out _ _ s1 r _ w5 HS5.out HM5.out).mono ?_
      rintro e w6 ⟨he, hb⟩
      have he' : e = .returned (.bool (!p || !q)) := he.trans (by rw [← M3.out])
      subst he'
      have HB6 : Hid (Below w.heap.size w w6) := HB5.out.trans (hb.mono HB5.out.size)
      clear hb he HB5 HS5 HM5 M0 M1 M2 M3
      cases p <;> cases q
      all_goals
        go_wp2
        go_ret
        exact ⟨rfl, HB6.out⟩
    · have hli : ((s2.length : Int) != (s3.length : Int)) = true := by simp; omega
      clear hl
      go_wp2
      go_ret
      exact ⟨rfl, HB.out⟩
end Go.Proofs.Qxb6606378a
