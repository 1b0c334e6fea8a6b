/-
  DecodeLeaveRequest.
-/
import Derived.Test.Qxb6606217aFmtAns
namespace Go.Proofs.Qxb6606217aFmt
open Go.RowKit Go.Extern.Stop Go.Stop Go.Extern

def nm1 : ByteArray := ⟨#[108, 101, 97, 118, 105, 110, 103, 95, 112, 101, 101, 114, 95, 105, 100]⟩
def nm2 : ByteArray := ⟨#[108, 101, 97, 118, 101, 32, 114, 101, 113, 117, 101, 115, 116]⟩

set_option maxRecDepth 100000 in
set_option maxHeartbeats 2000000 in
theorem dec_any (sl : Value) (hs : ∃ a n c, sl = .slice a n c) (w : World) (i0 i1 i2 i3 i4 i5 i6 i7 i8 i9 i10 i11 i12 i13 i14 i15 : Int) (pd p3 : Value → Prop) (hpd : ∀ v, pd v → ∃ a n c, v = .slice a n c)
    (h : ∀ w1, Below w.heap.size w w1 → Calls Tryf.prog 18 #[sl, .string nm1, .string nm2] w1 fun e w' => ∃ dv ev, pd dv ∧ p3 ev ∧ e = .returned (.tuple #[.agg #[.int .u8 i0, .int .u8 i1, .int .u8 i2, .int .u8 i3, .int .u8 i4, .int .u8 i5, .int .u8 i6, .int .u8 i7, .int .u8 i8, .int .u8 i9, .int .u8 i10, .int .u8 i11, .int .u8 i12, .int .u8 i13, .int .u8 i14, .int .u8 i15], dv, ev]) ∧ Below w1.heap.size w1 w') :
    Calls Tryf.prog 13 #[sl] w fun e w' => ∃ dv ev, pd dv ∧ p3 ev ∧ e = .returned (.tuple #[.agg #[.int .u8 i0, .int .u8 i1, .int .u8 i2, .int .u8 i3, .int .u8 i4, .int .u8 i5, .int .u8 i6, .int .u8 i7, .int .u8 i8, .int .u8 i9, .int .u8 i10, .int .u8 i11, .int .u8 i12, .int .u8 i13, .int .u8 i14, .int .u8 i15, dv], ev]) ∧ Below w.heap.size w w' := by
  obtain ⟨sa, sn, sc, rfl⟩ := hs
  have hbw : Below w.heap.size w (w.alloc (.cells #[.int .u8 0, .int .u8 0, .int .u8 0, .int .u8 0, .int .u8 0, .int .u8 0, .int .u8 0, .int .u8 0, .int .u8 0, .int .u8 0, .int .u8 0, .int .u8 0, .int .u8 0, .int .u8 0, .int .u8 0, .int .u8 0, .slice none 0 0] 37)) := (Below.refl _ w).alloc (Nat.le_refl _) _
  have HH : Hid (∀ w1, Below w.heap.size w w1 → Calls Tryf.prog 18 #[.slice sa sn sc, .string ⟨#[108, 101, 97, 118, 105, 110, 103, 95, 112, 101, 101, 114, 95, 105, 100]⟩, .string ⟨#[108, 101, 97, 118, 101, 32, 114, 101, 113, 117, 101, 115, 116]⟩] w1 fun e w' => ∃ dv ev, pd dv ∧ p3 ev ∧ e = .returned (.tuple #[.agg #[.int .u8 i0, .int .u8 i1, .int .u8 i2, .int .u8 i3, .int .u8 i4, .int .u8 i5, .int .u8 i6, .int .u8 i7, .int .u8 i8, .int .u8 i9, .int .u8 i10, .int .u8 i11, .int .u8 i12, .int .u8 i13, .int .u8 i14, .int .u8 i15], dv, ev]) ∧ Below w1.heap.size w1 w') := h
  clear h
  have hbd : ∀ w a n c, (Instr.build 37 #[(0, .agg #[.int .u8 i0, .int .u8 i1, .int .u8 i2, .int .u8 i3, .int .u8 i4, .int .u8 i5, .int .u8 i6, .int .u8 i7, .int .u8 i8, .int .u8 i9, .int .u8 i10, .int .u8 i11, .int .u8 i12, .int .u8 i13, .int .u8 i14, .int .u8 i15]), (1, .slice a n c)]).run Tryf.prog w = .ok (.agg #[.int .u8 i0, .int .u8 i1, .int .u8 i2, .int .u8 i3, .int .u8 i4, .int .u8 i5, .int .u8 i6, .int .u8 i7, .int .u8 i8, .int .u8 i9, .int .u8 i10, .int .u8 i11, .int .u8 i12, .int .u8 i13, .int .u8 i14, .int .u8 i15, .slice a n c]) w := fun w a n c => by kernel_rfl
  go_enter Tryf.func13, Tryf.ntmps13
  go_wp2_with fail
  refine (HH.out _ hbw).mono ?_
  rintro e w1 ⟨dv, ev, hd, h3, rfl, hb1⟩
  obtain ⟨da, dn, dc, rfl⟩ := hpd dv hd
  have HD : Hid (pd (.slice da dn dc) ∧ p3 ev ∧ Below (w.alloc (.cells #[.int .u8 0, .int .u8 0, .int .u8 0, .int .u8 0, .int .u8 0, .int .u8 0, .int .u8 0, .int .u8 0, .int .u8 0, .int .u8 0, .int .u8 0, .int .u8 0, .int .u8 0, .int .u8 0, .int .u8 0, .int .u8 0, .slice none 0 0] 37)).heap.size (w.alloc (.cells #[.int .u8 0, .int .u8 0, .int .u8 0, .int .u8 0, .int .u8 0, .int .u8 0, .int .u8 0, .int .u8 0, .int .u8 0, .int .u8 0, .int .u8 0, .int .u8 0, .int .u8 0, .int .u8 0, .int .u8 0, .int .u8 0, .slice none 0 0] 37)) w1) := ⟨hd, h3, hb1⟩
  clear hd h3 hb1 HH hpd
  have hs1 : w.heap.size < w1.heap.size := by have := HD.out.2.2.size; simp at this; omega
  have HBLK : Hid ((w1.alloc (.cells #[.int .u8 i0, .int .u8 i1, .int .u8 i2, .int .u8 i3, .int .u8 i4, .int .u8 i5, .int .u8 i6, .int .u8 i7, .int .u8 i8, .int .u8 i9, .int .u8 i10, .int .u8 i11, .int .u8 i12, .int .u8 i13, .int .u8 i14, .int .u8 i15] 35)).heap[w.heap.size]? = some (.cells #[.int .u8 0, .int .u8 0, .int .u8 0, .int .u8 0, .int .u8 0, .int .u8 0, .int .u8 0, .int .u8 0, .int .u8 0, .int .u8 0, .int .u8 0, .int .u8 0, .int .u8 0, .int .u8 0, .int .u8 0, .int .u8 0, .slice none 0 0] 37 (0, 0))) :=
    (Below.heap_alloc w1 _ _ hs1).trans ((HD.out.2.2.block _ (by simp)).trans (heap_alloc_new w _))
  have HB1 : Hid (Below w.heap.size w (w1.alloc (.cells #[.int .u8 i0, .int .u8 i1, .int .u8 i2, .int .u8 i3, .int .u8 i4, .int .u8 i5, .int .u8 i6, .int .u8 i7, .int .u8 i8, .int .u8 i9, .int .u8 i10, .int .u8 i11, .int .u8 i12, .int .u8 i13, .int .u8 i14, .int .u8 i15] 35))) := (hbw.trans (HD.out.2.2.mono (by simp))).alloc (by omega) _
  clear hbw
  go_wp2_with (refine wpList_store_row rfl 37 _ _ rfl w.heap.size #[.int .u8 i0, .int .u8 i1, .int .u8 i2, .int .u8 i3, .int .u8 i4, .int .u8 i5, .int .u8 i6, .int .u8 i7, .int .u8 i8, .int .u8 i9, .int .u8 i10, .int .u8 i11, .int .u8 i12, .int .u8 i13, .int .u8 i14, .int .u8 i15, .slice da dn dc] rfl rfl 37 _ HBLK.out (by kernel_rfl) (by kernel_rfl) (by kernel_rfl) ?_)
  exact bodyPost_ret (v := .tuple #[.agg #[.int .u8 i0, .int .u8 i1, .int .u8 i2, .int .u8 i3, .int .u8 i4, .int .u8 i5, .int .u8 i6, .int .u8 i7, .int .u8 i8, .int .u8 i9, .int .u8 i10, .int .u8 i11, .int .u8 i12, .int .u8 i13, .int .u8 i14, .int .u8 i15, .slice da dn dc], ev]) (results_row2 (P := Tryf.prog) (fn := Tryf.f13) (p := 2) (u := 3) (ty := 37) rfl _ _ w.heap.size 37 #[.int .u8 i0, .int .u8 i1, .int .u8 i2, .int .u8 i3, .int .u8 i4, .int .u8 i5, .int .u8 i6, .int .u8 i7, .int .u8 i8, .int .u8 i9, .int .u8 i10, .int .u8 i11, .int .u8 i12, .int .u8 i13, .int .u8 i14, .int .u8 i15, .slice da dn dc] (0, 0) _ rfl (setRow_heap _ _ _ _ 37 (0, 0) HBLK.out) Tryf.underlying37 rfl (by kernel_rfl)) rfl ⟨.slice da dn dc, ev, HD.out.1, HD.out.2.1, rfl, below_setRow HB1.out (Nat.le_refl _) _⟩
end Go.Proofs.Qxb6606217aFmt
