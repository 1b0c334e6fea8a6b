/-
  THE LAW 'ROUND TRIP': THE WALK.
-/
import Derived.Test.Qxb6606217aFmtRtA
namespace Go.Proofs.Qxb6606217aFmt
open Go.RowKit Go.Extern.Stop Go.Stop Go.Extern

theorem rt_big (Z : Array Value) (hZ : (Tryf.prog.info? 34).map (·.size) = some Z.size) (v1 v2 : Value) (D T : List UInt8) (w : World) (h1 : Opens w v1 D) (h2 : Opens w v2 T) (hb : ¬ (D.length + T.length ≤ 1048576) ∨ 65535 < D.length) :
    Calls Tryf.prog 5 #[.agg Z, v1, v2] w fun e w' => e = .returned (.bool true) ∧ Below w.heap.size w w' := by
  obtain ⟨a1, c1, rfl, m1⟩ := h1.form
  obtain ⟨a2, c2, rfl, m2⟩ := h2.form
  have HB : Hid (Below w.heap.size w (w.alloc (.cells Z 34))) := (Below.refl _ _).alloc (Nat.le_refl _) _
  have HZ : Hid ((Tryf.prog.info? 34).map (·.size) = some Z.size) := hZ
  have HK : Hid ((w.alloc (.cells Z 34)).heap[w.heap.size]? = some (.cells Z 34 (0, 0))) := heap_alloc_new w _
  clear h1 h2 hZ
  go_enter Tryf.func5, Tryf.ntmps5
  go_wp2_with (refine wpList_load_row rfl 34 _ rfl w.heap.size rfl 34 Z (0, 0) _ HK.out Tryf.underlying34 rfl HZ.out ?_)
  refine (bytes15_any Z a1 a2 _ c1 _ c2 m1 m2 _).mono ?_
  rintro e w1 ⟨rfl, hb1⟩
  have HB1 : Hid (Below w.heap.size w w1) := HB.out.trans (hb1.mono (by simp))
  clear hb1 HB HK HZ
  by_cases hs : D.length + T.length ≤ 1048576
  · rw [decide_eq_true hs]
    have b1 : ¬ (1048576 : Int) < (D.length : Int) := by omega
    have b2 : ¬ (1048576 : Int) < (T.length : Int) := by omega
    have b3 : ¬ (1048576 : Int) < (D.length : Int) + (T.length : Int) := by omega
    have b4 : (65535 : Int) < (D.length : Int) := by omega
    clear hs hb
    go_wp2
    go_ret
    exact ⟨rfl, HB1.out⟩
  · rw [decide_eq_false hs]
    clear hs hb
    go_wp2
    go_ret
    exact ⟨rfl, HB1.out⟩

set_option maxHeartbeats 2000000 in
theorem rt_main (F : Interp) (a : Addr) (s : ByteArray) (I : List UInt8) (hI : I.length = 16) (v1 v2 : Value) (D T : List UInt8) (w : World) (hE : Env F a s w) (h1 : Opens w v1 D) (h2 : Opens w v2 T) (hs : D.length + T.length ≤ 1048576) (hd : D.length ≤ 65535) :
    Calls Tryf.prog 5 #[.agg (bl I).toArray, v1, v2] w fun e w' => e = .returned (.bool true) ∧ Below w.heap.size w w' := by
  have q22 : ∀ (w : World) (a : Option Addr) (n c n' c' : Nat), (binOp .eql 22 (.slice a n c) (.slice none n' c')).run Tryf.prog w = .ok (.bool a.isNone) w := fun w a n c n' c' => Lib.run_eql_slice_nil w _ _ a n c n' c' Tryf.underlying22
  have hg35 : Tryf.prog.eqGuardType Tryf.prog.depth 35 = false := by kernel_rfl
  obtain ⟨i0, hi, hz0, hz1, hz2⟩ : ∃ i0, Tryf.prog.info? 5 = some i0 ∧ i0.zero = some (.int .u8 0) ∧ i0.size = 1 ∧ i0.bytes = 1 := by
    have h := info5
    cases hq : Tryf.prog.info? 5 with
    | none => rw [hq] at h; cases h
    | some i => rw [hq] at h; simp at h; exact ⟨i, rfl, h.1, h.2.1, h.2.2⟩
  have hmk : ∀ w, (Instr.makeSlice 22 (.int .i64 0) (.int .i64 (18 + (D.length : Int) + (T.length : Int)))).run Tryf.prog w = .ok (.slice (some ⟨w.heap.size, 0, none⟩) 0 (18 + D.length + T.length)) (w.alloc (.cells (madeCells #[.int .u8 0] (18 + D.length + T.length)) 5)) := by
    intro w
    have := run_make (P := Tryf.prog) w 22 5 i0 (.int .u8 0) Tryf.underlying22 hi hz0 .i64 .i64 0 (18 + (D.length : Int) + (T.length : Int)) (by omega) (by omega) (by rw [hz2]; omega) (by omega)
    rw [this, hz1]
    have e : (18 + (D.length : Int) + (T.length : Int)).toNat = 18 + D.length + T.length := by omega
    simp [Value.cells, e]
  obtain ⟨Z, hZ⟩ : ∃ Z, Z = (bl I).toArray := ⟨_, rfl⟩
  rw [← hZ]
  have HZ0 : Hid (Z = (bl I).toArray) := hZ
  have HZ : Hid ((Tryf.prog.info? 34).map (·.size) = some Z.size) := by
    have h : (Tryf.prog.info? 34).map (·.size) = some 16 := by kernel_rfl
    exact h.trans (by rw [hZ]; simp [bl_length, hI])
  have HI5 : Hid (Tryf.prog.info? 5 = some i0 ∧ i0.size = 1) := ⟨hi, hz1⟩
  have HE : Hid (Env F a s w) := hE
  have HV1 : Hid (Opens w v1 D) := h1
  have HV2 : Hid (Opens w v2 T) := h2
  obtain ⟨a1, c1, rfl, m1⟩ := h1.form
  obtain ⟨a2, c2, rfl, m2⟩ := h2.form
  have HB : Hid (Below w.heap.size w (w.alloc (.cells Z 34))) := (Below.refl _ _).alloc (Nat.le_refl _) _
  have HK : Hid ((w.alloc (.cells Z 34)).heap[w.heap.size]? = some (.cells Z 34 (0, 0))) := heap_alloc_new w _
  clear h1 h2 hZ hE hi hz0 hz1 hz2
  go_enter Tryf.func5, Tryf.ntmps5
  go_wp2_with (refine wpList_load_row rfl 34 _ rfl w.heap.size rfl 34 Z (0, 0) _ HK.out Tryf.underlying34 rfl HZ.out ?_)
  refine (bytes15_any Z a1 a2 _ c1 _ c2 m1 m2 _).mono ?_
  rintro e w1 ⟨rfl, hb1⟩
  have HB1 : Hid (Below w.heap.size w w1) := HB.out.trans (hb1.mono (by simp))
  have HK1 : Hid (w1.heap[w.heap.size]? = some (.cells Z 34 (0, 0))) := (hb1.block _ (by simp)).trans HK.out
  clear hb1 HB HK
  rw [decide_eq_true hs]
  have b1 : ¬ (1048576 : Int) < (D.length : Int) := by omega
  have b2 : ¬ (1048576 : Int) < (T.length : Int) := by omega
  have b3 : ¬ (1048576 : Int) < (D.length : Int) + (T.length : Int) := by omega
  have b4 : ¬ (65535 : Int) < (D.length : Int) := by omega
  go_wp2_with fail
  refine (clone_cl _ D w1 (HV1.out.below HB1.out) (by omega)).mono ?_
  rintro e w2 ⟨ao, co, rfl, hb2, hcl⟩
  have HB2 : Hid (Below w.heap.size w w2) := HB1.out.trans (hb2.mono HB1.out.size)
  have HK2 : Hid (w2.heap[w.heap.size]? = some (.cells Z 34 (0, 0))) := (hb2.block _ (Array.getElem?_eq_some_iff.1 HK1.out).1).trans HK1.out
  have HC2 : Hid (Cl w2 ao co D) := hcl
  clear hb2 hcl HB1 HK1
  go_wp2_with fail
  refine (clone_cl _ T w2 (HV2.out.below HB2.out) (by omega)).mono ?_
  rintro e w3 ⟨at', ct, rfl, hb3, hcl⟩
  have HB3 : Hid (Below w.heap.size w w3) := HB2.out.trans (hb3.mono HB2.out.size)
  have HK3 : Hid (w3.heap[w.heap.size]? = some (.cells Z 34 (0, 0))) := (hb3.block _ (Array.getElem?_eq_some_iff.1 HK2.out).1).trans HK2.out
  have HCD : Hid (Cl w3 ao co D) := HC2.out.below hb3
  have HCT : Hid (Cl w3 at' ct T) := hcl
  clear hb3 hcl HB2 HK2 HC2 HV1 HV2
  have HOWN : Hid ((w3.alloc (.cells (madeCells #[.int .u8 0] (18 + D.length + T.length)) 5)).ownsRow 0 5 1 (.slice (some ⟨w3.heap.size, 0, none⟩) 0 (18 + D.length + T.length)) 0 []) :=
    World.ownsRow_made w3 _ _ (Nat.zero_le _) (by unfold maxLen; omega) (by rw [size_madeCells]; omega)
  have HC1 : Hid (∀ ad, some (⟨w.heap.size, 0, none⟩ : Addr) = some ad → ∀ j u, (bl I)[j]? = some u → (w3.alloc (.cells (madeCells #[.int .u8 0] (18 + D.length + T.length)) 5)).cell? (ad.add j) = some u) := by
    intro ad had j u hu
    obtain rfl := Option.some.inj had
    rw [add0, cell_of_row _ _ _ _ _ _ ((Below.heap_alloc w3 _ _ (Array.getElem?_eq_some_iff.1 HK3.out).1).trans HK3.out), HZ0.out]
    simpa using hu
  have HBA : Hid (Below w3.heap.size w3 (w3.alloc (.cells (madeCells #[.int .u8 0] (18 + D.length + T.length)) 5))) := (Below.refl _ _).alloc (Nat.le_refl _) _
  go_wp2_with (at_builtin; first
    | (refine wpList_append_fits_any _ rfl _ _ 22 rfl 0 5 i0 1 Tryf.underlying22 HI5.out.1 HI5.out.2 w3.heap.size 0 (18 + D.length + T.length) [] rfl HOWN.out (some ⟨w.heap.size, 0, none⟩) 16 16 (bl I) rfl (by rw [bl_length, hI]) (fun h => by cases h) HC1.out (bl_one I) (by omega) ?_
       intro w4 ho4 hg4
       have HO4 : Hid ((w4.alloc (.cells #[.int .u8 ((D.length : Int) / 256), .int .u8 ((D.length : Int) % 256)] 5)).ownsRow 0 5 1 (.slice (some ⟨w3.heap.size, 0, none⟩) 16 (18 + D.length + T.length)) 16 (bl I)) := World.ownsRow.alloc ho4 _
       have HB4 : Hid (Below w3.heap.size w3 w4) := HBA.out.grown hg4 (by simp) (fun k hk => by cases hk; exact Nat.le_refl _)
       have HB4a : Hid (Below w3.heap.size w3 (w4.alloc (.cells #[.int .u8 ((D.length : Int) / 256), .int .u8 ((D.length : Int) % 256)] 5))) := HB4.out.alloc HB4.out.size _
       have HC4 : Hid (∀ ad, some (⟨w4.heap.size, 0, none⟩ : Addr) = some ad → ∀ j u, (bl (two D.length))[j]? = some u → (w4.alloc (.cells #[.int .u8 ((D.length : Int) / 256), .int .u8 ((D.length : Int) % 256)] 5)).cell? (ad.add j) = some u) := by
         intro ad had j u hu
         obtain rfl := Option.some.inj had
         rw [add0, cell_of_row _ _ _ _ _ _ (heap_alloc_new w4 _)]
         rw [bl_two _ hd] at hu
         simpa using hu
       clear ho4 hg4)
    | (refine wpList_append_fits_any _ rfl _ _ 22 rfl 0 5 i0 1 Tryf.underlying22 HI5.out.1 HI5.out.2 w3.heap.size 16 (18 + D.length + T.length) (bl I) rfl HO4.out (some ⟨w4.heap.size, 0, none⟩) 2 2 (bl (two D.length)) rfl rfl (fun h => by cases h) HC4.out (bl_one _) (by omega) ?_
       intro w5 ho5 hg5
       have HO5 : Hid (w5.ownsRow 0 5 1 (.slice (some ⟨w3.heap.size, 0, none⟩) 18 (18 + D.length + T.length)) 18 (bl I ++ bl (two D.length))) := ho5
       have HB5 : Hid (Below w3.heap.size w3 w5) := HB4a.out.grown hg5 (by have := HB4a.out.size; exact this) (fun k hk => by cases hk; exact Nat.le_refl _)
       have HC5 : Hid (Cl w5 ao co D) := HCD.out.below HB5.out
       clear ho5 hg5 HO4 HB4 HB4a HC4)
    | (refine wpList_append_fits_any _ rfl _ _ 22 rfl 0 5 i0 1 Tryf.underlying22 HI5.out.1 HI5.out.2 w3.heap.size 18 (18 + D.length + T.length) (bl I ++ bl (two D.length)) rfl HO5.out ao D.length co (bl D) rfl (by rw [bl_length, Nat.mul_one]) HC5.out.none0 HC5.out.cells (bl_one _) (by omega) ?_
       intro w6 ho6 hg6
       have HO6 : Hid (w6.ownsRow 0 5 1 (.slice (some ⟨w3.heap.size, 0, none⟩) (18 + D.length) (18 + D.length + T.length)) (18 + D.length) (bl I ++ bl (two D.length) ++ bl D)) := ho6
       have HB6 : Hid (Below w3.heap.size w3 w6) := HB5.out.grown hg6 (by have := HB5.out.size; exact this) (fun k hk => by cases hk; exact Nat.le_refl _)
       have HC6 : Hid (Cl w6 at' ct T) := HCT.out.below HB6.out
       clear ho6 hg6 HO5 HB5 HC5)
    | (refine wpList_append_fits_any _ rfl _ _ 22 rfl 0 5 i0 1 Tryf.underlying22 HI5.out.1 HI5.out.2 w3.heap.size (18 + D.length) (18 + D.length + T.length) (bl I ++ bl (two D.length) ++ bl D) rfl HO6.out at' T.length ct (bl T) rfl (by rw [bl_length, Nat.mul_one]) HC6.out.none0 HC6.out.cells (bl_one _) (by omega) ?_
       intro w7 ho7 hg7
       have HO7 : Hid (w7.ownsRow 0 5 1 (.slice (some ⟨w3.heap.size, 0, none⟩) (18 + D.length + T.length) (18 + D.length + T.length)) (18 + D.length + T.length) (bl I ++ bl (two D.length) ++ bl D ++ bl T)) := ho7
       have HB7 : Hid (Below w3.heap.size w3 w7) := HB6.out.grown hg7 (by have := HB6.out.size; exact this) (fun k hk => by cases hk; exact Nat.le_refl _)
       clear ho7 hg7 HO6 HB6 HC6))
  have hSl := msg_length I D T hI
  have HRow : Hid (RowOf w7 w3.heap.size (msg I D T)) := by
    intro j hj
    have h := HO7.out.cellAt j (by omega)
    rw [h, ← bl_append, ← bl_append, ← bl_append]
    exact bl_get (msg I D T) j hj
  have HG : Hid (w3.heap.size < w7.heap.size) := by
    have := (HO7.out.lt w3.heap.size rfl).2
    exact this
  have HE7 : Hid (Env F a s w7) := HE.out.below (HB3.out.trans (HB7.out.mono HB3.out.size))
  have LR := lr_told F a s w3.heap.size (msg I D T) (by omega) (by omega) w7 HE7.out HRow.out HG.out
  rw [hSl] at LR
  refine LR.mono ?_
  rintro e w8 ⟨dv, ev, hT, rfl, hb8⟩
  have hto := msg_told I D T hI hd
  obtain ⟨⟨o, ho, hdv⟩, hev⟩ := hT.ok (by omega) (by omega)
  rw [hto] at hdv hev
  rw [hSl] at ho hev
  subst hdv
  have HO : Hid (18 < 18 + D.length + T.length → o = 18) := ho
  have HV : Hid (if D.length = 18 + D.length + T.length - 18 then ev = .nilIface else Bad ev) := hev
  have HB8 : Hid (Below w3.heap.size w3 w8) := HB7.out.trans (hb8.mono HB7.out.size)
  have HG8 : Hid (w3.heap.size < w8.heap.size) := Nat.lt_of_lt_of_le HG.out hb8.size
  have HR8 : Hid (RowOf w8 w3.heap.size (msg I D T)) := HRow.out.below hb8 HG.out
  clear LR hT ho hev hb8 HRow HG HE7 HO7 HB7 hto HOWN HC1 HBA HI5 HE
  obtain ⟨X, hX⟩ : ∃ X, X = ids17 (msg I D T) (.slice (some ⟨w3.heap.size, o, none⟩) D.length D.length) := ⟨_, rfl⟩
  rw [← hX]
  have HX : Hid (X = ids17 (msg I D T) (.slice (some ⟨w3.heap.size, o, none⟩) D.length D.length)) := hX
  clear hX
  have HK8 : Hid ((w8.alloc (.cells X 37)).heap[w8.heap.size]? = some (.cells X 37 (0, 0))) := heap_alloc_new w8 _
  have HBox : Hid ((w8.alloc (.cells X 37)).heap[w.heap.size]? = some (.cells Z 34 (0, 0))) := by
    have l := (Array.getElem?_eq_some_iff.1 HK3.out).1
    have l8 := HB8.out.size
    exact (Below.heap_alloc w8 _ _ (by omega)).trans ((HB8.out.block _ l).trans HK3.out)
  have HZ16 : Hid (Z = ids16 (msg I D T)) := HZ0.out.trans (msg_ids I D T hI)
  have HLa : Hid (∀ j v, Z[j]? = some v → (w8.alloc (.cells X 37)).cell? ((⟨w8.heap.size, 0, none⟩ : Addr).add j) = some v) := by
    intro j v hv
    rw [add0, cell_of_row _ _ _ _ _ _ HK8.out, HX.out]
    rw [HZ16.out] at hv
    exact ids17_ids16 hv
  have HLb : Hid (∀ j v, Z[j]? = some v → (w8.alloc (.cells X 37)).cell? ((⟨w.heap.size, 0, none⟩ : Addr).add j) = some v) := by
    intro j v hv
    rw [add0, cell_of_row _ _ _ _ _ _ HBox.out]
    exact hv
  have c16 : (w8.alloc (.cells X 37)).cell? ⟨w8.heap.size, 16, none⟩ = some (.slice (some ⟨w3.heap.size, o, none⟩) D.length D.length) := by
    rw [cell_of_row _ _ _ _ _ _ HK8.out, HX.out]; rfl
  have hneq : ∀ w, (binOp .neq 35 (.agg Z) (.agg Z)).run Tryf.prog w = .ok (.bool false) w := neq35 Z (by rw [HZ16.out]; exact ids16_cell _)
  have HZ35 : Hid ((Tryf.prog.info? 35).map (·.size) = some Z.size) := by
    have h : (Tryf.prog.info? 35).map (·.size) = some (ids16 (msg I D T)).size := by kernel_rfl
    exact h.trans (by rw [HZ16.out])
  have HBF : Hid (Below w.heap.size w (w8.alloc (.cells X 37))) := by
    have l8 := HB8.out.size
    have l3 := HB3.out.size
    exact (HB3.out.trans (HB8.out.mono l3)).alloc (by omega) _
  have HCF : Hid (Cl (w8.alloc (.cells X 37)) ao co D) := HCD.out.below (HB8.out.alloc HB8.out.size _)
  have HSa : Hid (∀ j, j < D.length → (w8.alloc (.cells X 37)).cell? ⟨w3.heap.size, o + j, none⟩ = some (.int .u8 ((ch D j : Nat) : Int))) := by
    intro j hj
    obtain rfl := HO.out (by omega)
    have h8 := HG8.out
    rw [World.cell?_alloc_past _ _ _ h8, HR8.out (18 + j) (by omega), msg_data I D T hI j hj]
  clear hSl HO HCD HCT HK3 HB3 HB8
  go_wp2_with (first
    | (refine wpList_store_row rfl 37 _ _ rfl w8.heap.size X rfl rfl 37 _ (heap_alloc_new w8 _) (by rw [HX.out]; kernel_rfl) (by rw [HX.out]; kernel_rfl) (by rw [HX.out]; kernel_rfl) ?_; rw [World.setRow_alloc_new])
    | refine wpList_load_cells rfl 35 _ rfl ⟨w8.heap.size, 0, none⟩ rfl Z _ HLa.out Tryf.underlying35 rfl HZ35.out ?_
    | refine wpList_load_cells rfl 34 _ rfl ⟨w.heap.size, 0, none⟩ rfl Z _ HLb.out Tryf.underlying34 rfl HZ.out ?_)
  refine (same_cl w3.heap.size o D.length ao co D (by omega) _ HSa.out HCF.out).mono ?_
  rintro e w9 ⟨rfl, k, rfl⟩
  have HBL : Hid (Below w.heap.size w ((w8.alloc (.cells X 37)).drewN k)) := below_drewN HBF.out _
  clear c16 HLa HLb HBox HK8 HCF HSa HBF hneq
  by_cases ht : T.length = 0
  · obtain rfl : ev = .nilIface := by
      have := HV.out
      rwa [if_pos (by omega)] at this
    have HT : Hid (T.length = 0) := ht
    clear ht hmk
    go_wp2
    go_ret
    exact ⟨by have := HT.out; simp [this], HBL.out⟩
  · obtain ⟨k, rfl⟩ : Bad ev := by
      have := HV.out
      rwa [if_neg (by omega)] at this
    have HT : Hid (¬ T.length = 0) := ht
    clear ht hmk
    go_wp2
    go_ret
    exact ⟨by have := HT.out; simpa using this, HBL.out⟩
end Go.Proofs.Qxb6606217aFmt
