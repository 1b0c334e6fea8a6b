/-
  THE LAW 'SPEC': A BODY OF FEWER THAN 16 BYTES.
-/
import Derived.Test.Qxb6606217aFmtLr
import Derived.Test.Qxb6606217aFmtArr
namespace Go.Proofs.Qxb6606217aFmt
open Go.RowKit Go.Extern.Stop Go.Stop Go.Extern

theorem z16_cell : ∀ i, i < 16 → ∃ n, z16[i]? = some (.int .u8 n) := fun i hi => ⟨0, by
  rcases i with _ | _ | _ | _ | _ | _ | _ | _ | _ | _ | _ | _ | _ | _ | _ | _ | i <;> first | rfl | omega⟩

theorem add0 (b j : Nat) : (⟨b, 0, none⟩ : Addr).add j = ⟨b, j, none⟩ := by unfold Addr.add; split <;> simp_all
theorem z17_z16 {dv : Value} {j : Nat} {v : Value} (h : z16[j]? = some v) : (z17 dv)[j]? = some v := by
  rcases j with _ | _ | _ | _ | _ | _ | _ | _ | _ | _ | _ | _ | _ | _ | _ | _ | j <;> first | exact h | exact absurd h (by simp [z16])

set_option maxRecDepth 100000 in
set_option maxHeartbeats 2000000 in
theorem spec_low (F : Interp) (a : Addr) (s : ByteArray) (a0 sa : Option Addr) (len cap cap' : Nat) (hl : len < 16) (w : World) (hE : Env F a s w)
    (hC : Calls Tryf.prog 7 #[.slice a0 len cap] w fun e w' => e = .returned (.slice sa len cap') ∧ Below w.heap.size w w') :
    Calls Tryf.prog 4 #[.slice a0 len cap] w fun e w' => e = .returned (.bool true) ∧ Below w.heap.size w w' := by
  have q22 : ∀ (w : World) (a : Option Addr) (n c n' c' : Nat), (binOp .eql 22 (.slice a n c) (.slice none n' c')).run Tryf.prog w = .ok (.bool a.isNone) w := fun w a n c n' c' => Lib.run_eql_slice_nil w _ _ a n c n' c' Tryf.underlying22
  have hg35 : Tryf.prog.eqGuardType Tryf.prog.depth 35 = false := by kernel_rfl
  have hle : len ≤ 1048576 := by omega
  have HE : Hid (Env F a s w) := hE
  have HC : Hid (Calls Tryf.prog 7 #[.slice a0 len cap] w fun e w' => e = .returned (.slice sa len cap') ∧ Below w.heap.size w w') := hC
  clear hE hC
  go_enter Tryf.func4, Tryf.ntmps4
  go_wp2_with fail
  refine (bytes_any _ _ _ (by omega) _).mono ?_
  rintro e w1 ⟨rfl, rfl⟩
  rw [decide_eq_true hle]
  have hb0 : ¬ (1048576 : Int) < (len : Int) := by omega
  have hb1 : ¬ (16 : Int) ≤ (len : Int) := by omega
  have hb2 : (len : Int) < 18 := by omega
  clear hle
  go_wp2_with fail
  refine HC.out.mono ?_
  rintro e w1 ⟨rfl, hb⟩
  have HB : Hid (Below w.heap.size w w1) := hb
  clear hb HC
  go_wp2_with fail
  refine (lr_lt16 F a s sa len cap' hl w1 (HE.out.below HB.out)).mono ?_
  rintro e w2 ⟨dv, ev, rfl, ⟨k, rfl⟩, rfl, hb⟩
  have HB2 : Hid (Below w.heap.size w w2) := HB.out.trans (hb.mono HB.out.size)
  clear hb HB hl
  obtain ⟨X, hX⟩ : ∃ X, X = z17 (.slice none 0 0) := ⟨_, rfl⟩
  rw [← hX]
  have HX : Hid (X = z17 (.slice none 0 0)) := hX
  clear hX
  obtain ⟨Z, hZ⟩ : ∃ Z, Z = z16 := ⟨_, rfl⟩
  have HK : Hid (((w2.alloc (.cells X 37)).alloc (.cells z16 35)).heap[w2.heap.size]? = some (.cells X 37 (0, 0))) := (Below.heap_alloc _ _ _ (by simp)).trans (heap_alloc_new w2 _)
  have HM : Hid (((w2.alloc (.cells X 37)).alloc (.cells z16 35)).heap[w2.heap.size + 1]? = some (.cells Z 35 (0, 0))) := by
    have := heap_alloc_new (w2.alloc (.cells X 37)) (.cells z16 35)
    rw [World.size_alloc] at this
    exact this.trans (by rw [hZ])
  have HL : Hid (∀ j v, Z[j]? = some v → ((w2.alloc (.cells X 37)).alloc (.cells z16 35)).cell? ((⟨w2.heap.size, 0, none⟩ : Addr).add j) = some v) := by
    intro j v hv
    rw [add0, cell_of_row _ _ _ _ _ _ HK.out, HX.out]
    rw [hZ] at hv
    exact z17_z16 hv
  have HL2 : Hid (∀ j v, Z[j]? = some v → ((w2.alloc (.cells X 37)).alloc (.cells z16 35)).cell? ((⟨w2.heap.size + 1, 0, none⟩ : Addr).add j) = some v) := by
    intro j v hv
    rw [add0, cell_of_row _ _ _ _ _ _ HM.out]
    exact hv
  have c16 : ((w2.alloc (.cells X 37)).alloc (.cells z16 35)).cell? ⟨w2.heap.size, 16, none⟩ = some (.slice none 0 0) := by
    rw [cell_of_row _ _ _ _ _ _ HK.out, HX.out]; rfl
  have hneq : ∀ w, (binOp .neq 35 (.agg Z) (.agg Z)).run Tryf.prog w = .ok (.bool false) w := neq35 Z (by rw [hZ]; exact z16_cell)
  have HZ : Hid ((Tryf.prog.info? 35).map (·.size) = some Z.size) := by
    have h : (Tryf.prog.info? 35).map (·.size) = some z16.size := by kernel_rfl
    exact h.trans (by rw [hZ])
  have HF : Hid (Below w.heap.size w ((w2.alloc (.cells X 37)).alloc (.cells z16 35))) := by
    have := HB2.out.size
    exact (HB2.out.alloc (by omega) _).alloc (by simp; omega) _
  clear hZ
  unfold z16 at HL HL2 c16 HF
  go_wp2_with (first
    | (refine wpList_store_row rfl 37 _ _ rfl w2.heap.size X rfl rfl 37 _ (heap_alloc_new w2 _) (by rw [HX.out]; kernel_rfl) (by rw [HX.out]; kernel_rfl) (by rw [HX.out]; kernel_rfl) ?_; rw [World.setRow_alloc_new])
    | refine wpList_load_cells rfl 35 _ rfl ⟨w2.heap.size, 0, none⟩ rfl Z _ HL.out Tryf.underlying35 rfl HZ.out ?_
    | refine wpList_load_cells rfl 35 _ rfl ⟨w2.heap.size + 1, 0, none⟩ rfl Z _ HL2.out Tryf.underlying35 rfl HZ.out ?_)
  go_ret
  exact ⟨rfl, HF.out⟩
end Go.Proofs.Qxb6606217aFmt
