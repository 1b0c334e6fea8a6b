/-
  opq's WORK: A LENGTH OF TWO BYTES, THEN SO MANY BYTES.
-/
import Derived.Test.Qxb6606217aFmtTake
import Derived.Laws.Bits64b
namespace Go.Proofs.Qxb6606217aFmt
open Go.RowKit Go.Extern.Stop Go.Stop Go.Extern

theorem or_256 (c0 c1 : Nat) (h1 : c1 < 256) : c0 * 256 ||| c1 = c0 * 256 + c1 := by
  have := Nat.shiftLeft_add_eq_or_of_lt (i := 8) (b := c1) (by omega) c0
  rw [Nat.shiftLeft_eq, show (2 : Nat) ^ 8 = 256 from rfl] at this
  exact this.symm
theorem or_u64 (c0 c1 : Nat) (h0 : c0 < 256) (h1 : c1 < 256) : bits .or .u64 ((c0 : Int) * 256) (c1 : Int) = ((c0 * 256 + c1 : Nat) : Int) := by
  have := bits_or_u64_nat (c0 * 256) c1 (by omega) (by omega)
  rw [or_256 c0 c1 h1, show ((c0 * 256 : Nat) : Int) = (c0 : Int) * 256 by omega] at this
  exact this
theorem or_i64 (c0 c1 : Nat) (h0 : c0 < 256) (h1 : c1 < 256) : bits .or .i64 ((c0 : Int) * 256) (c1 : Int) = ((c0 * 256 + c1 : Nat) : Int) := by
  have e1 : (BitVec.ofInt 64 ((c0 * 256 : Nat) : Int)).toNat = c0 * 256 := by
    rw [BitVec.ofInt_natCast, BitVec.toNat_ofNat]; exact Nat.mod_eq_of_lt (by omega)
  have e2 : (BitVec.ofInt 64 (c1 : Int)).toNat = c1 := by
    rw [BitVec.ofInt_natCast, BitVec.toNat_ofNat]; exact Nat.mod_eq_of_lt (by omega)
  rw [show (c0 : Int) * 256 = ((c0 * 256 : Nat) : Int) by omega]
  show IntKind.i64.wrap ((BitVec.ofInt 64 ((c0 * 256 : Nat) : Int) ||| BitVec.ofInt 64 (c1 : Int)).toNat : Int) = _
  rw [BitVec.toNat_or, e1, e2, or_256 c0 c1 h1, IntKind.wrap_i64]
  omega
theorem or_zero (c0 : Nat) (h0 : c0 < 256) : bits .or .u64 0 (c0 : Int) = (c0 : Int) := by
  have := or_u64 0 c0 (by omega) h0
  simpa using this

def fld : ByteArray := ⟨#[111, 118, 101, 114, 108, 97, 121, 95, 115, 112, 101, 99, 105, 102, 105, 99, 95, 100, 97, 116, 97]⟩

theorem opq_bad (db eb : Nat) (sl ev : Value) (w : World) (hd : Dec w db eb sl ev) (hb : Bad ev) :
    Calls Tryf.prog 20 #[.pointer (some ⟨db, 0, none⟩), .int .i64 2, .string fld] w fun e w' => e = .returned (.slice none 0 0) ∧ w = w' := by
  have q22 : ∀ (w : World) (a : Option Addr) (n c n' c' : Nat), (binOp .eql 22 (.slice a n c) (.slice none n' c')).run Tryf.prog w = .ok (.bool a.isNone) w := fun w a n c n' c' => Lib.run_eql_slice_nil w _ _ a n c n' c' Tryf.underlying22
  unfold fld
  go_enter Tryf.func20, Tryf.ntmps20
  go_wp2_with fail
  refine (take_bad db eb sl ev _ _ w hd hb).mono ?_
  rintro e w' ⟨rfl, rfl⟩
  go_wp2
  go_ret
  exact ⟨rfl, rfl⟩

theorem opq_short (F : Interp) (a : Addr) (s : ByteArray) (db eb : Nat) (sa : Option Addr) (len cap : Nat) (hn : len < 2) (w : World) (hd : Dec w db eb (.slice sa len cap) .nilIface) (hE : Env F a s w) :
    Calls Tryf.prog 20 #[.pointer (some ⟨db, 0, none⟩), .int .i64 2, .string fld] w fun e w' => e = .returned (.slice none 0 0) ∧ Oth db eb w w' ∧ ∃ v, Bad v ∧ Dec w' db eb (.slice sa len cap) v := by
  have q22 : ∀ (w : World) (a : Option Addr) (n c n' c' : Nat), (binOp .eql 22 (.slice a n c) (.slice none n' c')).run Tryf.prog w = .ok (.bool a.isNone) w := fun w a n c n' c' => Lib.run_eql_slice_nil w _ _ a n c n' c' Tryf.underlying22
  unfold fld
  go_enter Tryf.func20, Tryf.ntmps20
  go_wp2_with fail
  refine (take_short F a s db eb sa len cap 2 (by omega) _ w hd hE).mono ?_
  rintro e w' ⟨rfl, ho, hv⟩
  have HO : Hid (Oth db eb w w' ∧ ∃ v, Bad v ∧ Dec w' db eb (.slice sa len cap) v) := ⟨ho, hv⟩
  clear ho hv
  go_wp2
  go_ret
  exact ⟨rfl, HO.out⟩

set_option maxHeartbeats 1000000 in
theorem opq_ok (db eb b off len cap c0 c1 N : Nat) (hlc : len ≤ cap) (hcap : cap ≤ 1048576 * 4) (h0 : c0 < 256) (h1 : c1 < 256) (hN : N = c0 * 256 + c1) (hln : N + 2 ≤ len) (w : World) (hd : Dec w db eb (.slice (some ⟨b, off, none⟩) len cap) .nilIface) (hbd : b ≠ db)
    (k0 : w.cell? ⟨b, off, none⟩ = some (.int .u8 (c0 : Int))) (k1 : w.cell? ⟨b, off + 1, none⟩ = some (.int .u8 (c1 : Int))) :
    Calls Tryf.prog 20 #[.pointer (some ⟨db, 0, none⟩), .int .i64 2, .string fld] w fun e w' => ∃ o2 o3, e = .returned (.slice (some ⟨b, o2, none⟩) N N) ∧ (2 < cap → o2 = off + 2) ∧ Oth db eb w w' ∧ Dec w' db eb (.slice (some ⟨b, o3, none⟩) (len - 2 - N) (cap - 2 - N)) .nilIface := by
  have q22 : ∀ (w : World) (a : Option Addr) (n c n' c' : Nat), (binOp .eql 22 (.slice a n c) (.slice none n' c')).run Tryf.prog w = .ok (.bool a.isNone) w := fun w a n c n' c' => Lib.run_eql_slice_nil w _ _ a n c n' c' Tryf.underlying22
  have hor : bits .or .u64 ((c0 : Int) * 256) (c1 : Int) = (N : Int) := by rw [hN]; exact or_u64 c0 c1 h0 h1
  have hor0 := or_zero c0 h0
  unfold fld
  go_enter Tryf.func20, Tryf.ntmps20
  go_wp2_with fail
  refine (take_ok db eb b off len cap 2 (by omega) hlc hcap _ w hd).mono ?_
  rintro e w1 ⟨rfl, o2, ho2, hw1⟩
  have hd1 : Dec w1 db eb (.slice (some ⟨b, o2, none⟩) (len - 2) (cap - 2)) .nilIface := by rw [← hw1]; exact hd.set_d _
  have HD1 : Hid (Dec w1 db eb (.slice (some ⟨b, o2, none⟩) (len - 2) (cap - 2)) .nilIface) := hd1
  have e0 : w1.cell? ⟨b, off, none⟩ = some (.int .u8 (c0 : Int)) := by rw [← hw1, World.cell?_of_block (a := ⟨b, off, none⟩) (heap_set_other hbd)]; exact k0
  have e1 : w1.cell? ⟨b, off + 1, none⟩ = some (.int .u8 (c1 : Int)) := by rw [← hw1, World.cell?_of_block (a := ⟨b, off + 1, none⟩) (heap_set_other hbd)]; exact k1
  have ho1 : Oth db eb w w1 := by rw [← hw1]; exact Oth.set_d
  have HO1 : Hid (Oth db eb w w1) := ho1
  have HO2 : Hid (2 < cap → o2 = off + 2) := ho2
  obtain ⟨l2, hl2⟩ : ∃ l2, l2 = len - 2 := ⟨_, rfl⟩
  have cd := hd1.c0
  rw [← hl2] at cd
  have hNl : ¬ (l2 : Int) < (N : Int) := by omega
  have hNb : N ≤ 1048576 * 4 := by omega
  have hlb : l2 ≤ 1048576 * 4 := by omega
  clear hw1 k0 k1 hd hd1 ho1 ho2 hN hl2
  go_wp2
  go_loop [20, 8] (fun i n => (i = .int .i64 0 ∧ n = .int .u64 0) ∨ (i = .int .i64 1 ∧ n = .int .u64 (c0 : Int)) ∨ (i = .int .i64 2 ∧ n = .int .u64 (N : Int))) (fun i _ => 3 - (intOf i).toNat)
  case atStart => exact .inl ⟨rfl, rfl⟩
  case round =>
    rcases hrel with ⟨rfl, rfl⟩ | ⟨rfl, rfl⟩ | ⟨rfl, rfl⟩
    · go_wp2
      go_round
      case rel => exact .inr (.inl ⟨rfl, rfl⟩)
      case measure => simp [intOf]
    · go_wp2
      go_round
      case rel => exact .inr (.inr ⟨rfl, rfl⟩)
      case measure => simp [intOf]
    · go_wp2_with fail
      refine (take_ok db eb b o2 (len - 2) (cap - 2) N (by omega) (by omega) (by omega) _ w1 HD1.out).mono ?_
      rintro e w2 ⟨rfl, o3, ho3, hw2⟩
      have HD2 : Hid (Dec w2 db eb (.slice (some ⟨b, o3, none⟩) (len - 2 - N) (cap - 2 - N)) .nilIface) := by rw [← hw2]; exact HD1.out.set_d _
      have HOT : Hid (Oth db eb w w2) := by rw [← hw2]; exact HO1.out.trans Oth.set_d
      clear hw2 ho3
      go_wp2
      go_ret
      exact ⟨o2, o3, rfl, HO2.out, HOT.out, HD2.out⟩

set_option maxHeartbeats 1000000 in
theorem opq_past (F : Interp) (a : Addr) (s : ByteArray) (db eb b off len cap c0 c1 N : Nat) (hlc : len ≤ cap) (hcap : cap ≤ 1048576 * 4) (h0 : c0 < 256) (h1 : c1 < 256) (hN : N = c0 * 256 + c1) (hl2 : 2 ≤ len) (hln : len < N + 2) (w : World) (hd : Dec w db eb (.slice (some ⟨b, off, none⟩) len cap) .nilIface) (hE : Env F a s w) (hbd : b ≠ db) (z1 : 0 ≠ db) (z2 : 0 ≠ eb) (z3 : a.block ≠ db) (z4 : a.block ≠ eb)
    (k0 : w.cell? ⟨b, off, none⟩ = some (.int .u8 (c0 : Int))) (k1 : w.cell? ⟨b, off + 1, none⟩ = some (.int .u8 (c1 : Int))) :
    Calls Tryf.prog 20 #[.pointer (some ⟨db, 0, none⟩), .int .i64 2, .string fld] w fun e w' => e = .returned (.slice none 0 0) ∧ Oth db eb w w' ∧ ∃ sl v, Bad v ∧ Dec w' db eb sl v := by
  have q22 : ∀ (w : World) (a : Option Addr) (n c n' c' : Nat), (binOp .eql 22 (.slice a n c) (.slice none n' c')).run Tryf.prog w = .ok (.bool a.isNone) w := fun w a n c n' c' => Lib.run_eql_slice_nil w _ _ a n c n' c' Tryf.underlying22
  have hor : bits .or .u64 ((c0 : Int) * 256) (c1 : Int) = (N : Int) := by rw [hN]; exact or_u64 c0 c1 h0 h1
  have hor0 := or_zero c0 h0
  unfold fld
  go_enter Tryf.func20, Tryf.ntmps20
  go_wp2_with fail
  refine (take_ok db eb b off len cap 2 (by omega) hlc hcap _ w hd).mono ?_
  rintro e w1 ⟨rfl, o2, ho2, hw1⟩
  have hd1 : Dec w1 db eb (.slice (some ⟨b, o2, none⟩) (len - 2) (cap - 2)) .nilIface := by rw [← hw1]; exact hd.set_d _
  have e0 : w1.cell? ⟨b, off, none⟩ = some (.int .u8 (c0 : Int)) := by rw [← hw1, World.cell?_of_block (a := ⟨b, off, none⟩) (heap_set_other hbd)]; exact k0
  have e1 : w1.cell? ⟨b, off + 1, none⟩ = some (.int .u8 (c1 : Int)) := by rw [← hw1, World.cell?_of_block (a := ⟨b, off + 1, none⟩) (heap_set_other hbd)]; exact k1
  have ho1 : Oth db eb w w1 := by rw [← hw1]; exact Oth.set_d
  have hE1 : Env F a s w1 := hE.oth ho1 z1 z2 z3 z4
  obtain ⟨l2, hl2'⟩ : ∃ l2, l2 = len - 2 := ⟨_, rfl⟩
  have cd := hd1.c0
  rw [← hl2'] at cd
  have hNl : (l2 : Int) < (N : Int) := by omega
  have hNb : N ≤ 65535 := by omega
  have hlb : l2 ≤ 1048576 * 4 := by omega
  have hbw : Below w1.heap.size w1 (w1.alloc (.cells #[.iface 9 (.string fld), .iface 52 (.int .u64 (N : Int)), .iface 3 (.int .i64 (l2 : Int))] 20)) := (Below.refl _ w1).alloc (Nat.le_refl _) _
  have HF : Hid (Calls Tryf.prog 22 #[.pointer (some ⟨db, 0, none⟩), .string fmB, .slice (some ⟨w1.heap.size, 0, none⟩) 3 3] (w1.alloc (.cells #[.iface 9 (.string fld), .iface 52 (.int .u64 (N : Int)), .iface 3 (.int .i64 (l2 : Int))] 20)) fun e w' => e = .returned (.tuple #[]) ∧ Oth db eb w w' ∧ ∃ sl v, Bad v ∧ Dec w' db eb sl v) := by
    refine (fail_dec F db eb fmB _ (.slice (some ⟨b, o2, none⟩) (len - 2) (cap - 2)) a s _ (hd1.below hbw) (hE1.below hbw) (spB F w1.heap.size fld (N : Int) (l2 : Int) _ (by simpa using hE1.F) (by go_simp) (by go_simp) (by go_simp))).mono ?_
    rintro e w' ⟨rfl, ho, v, hv, hdv⟩
    exact ⟨rfl, (ho1.trans (Oth.of_below hbw)).trans ho, _, v, hv, hdv⟩
  unfold fmB fld at HF
  clear hw1 k0 k1 hd hd1 ho1 ho2 hE hE1 hbw hN hl2'
  go_wp2
  go_loop [20, 8] (fun i n => (i = .int .i64 0 ∧ n = .int .u64 0) ∨ (i = .int .i64 1 ∧ n = .int .u64 (c0 : Int)) ∨ (i = .int .i64 2 ∧ n = .int .u64 (N : Int))) (fun i _ => 3 - (intOf i).toNat)
  case atStart => exact .inl ⟨rfl, rfl⟩
  case round =>
    rcases hrel with ⟨rfl, rfl⟩ | ⟨rfl, rfl⟩ | ⟨rfl, rfl⟩
    · go_wp2
      go_round
      case rel => exact .inr (.inl ⟨rfl, rfl⟩)
      case measure => simp [intOf]
    · go_wp2
      go_round
      case rel => exact .inr (.inr ⟨rfl, rfl⟩)
      case measure => simp [intOf]
    · go_wp2_with fail
      refine HF.out.mono ?_
      rintro e w2 ⟨rfl, ho, hv⟩
      have HO : Hid (Oth db eb w w2 ∧ ∃ sl v, Bad v ∧ Dec w2 db eb sl v) := ⟨ho, hv⟩
      clear ho hv HF
      go_wp2
      go_ret
      exact ⟨rfl, HO.out⟩
end Go.Proofs.Qxb6606217aFmt
