/-
  THE INSTANCE: instanceBytes.
-/
import Derived.Test.Qxb6605507aDoorParts
namespace Go.Proofs.Qxb6605507aDoor
open Go.RowKit Go.Maps

/-- The input, cell by cell. -/
structure Inp where
  s0 : ByteArray
  s1 : ByteArray
  s2 : ByteArray
  s3 : ByteArray
  s4 : ByteArray
  s5 : ByteArray
  s6 : ByteArray
  s7 : ByteArray
  pn : Int
  pe : Bool
  sn : Int
  se : Bool
  ci : Int
  c0 : ByteArray
  c1 : ByteArray
  dka : Option Addr
  dkl : Nat
  dkc : Nat
  dva : Option Addr
  dvl : Nat
  dvc : Nat
  dn : Bool
  l0 : Int
  l1 : Int
  l2 : Int
  l3 : Int
  l4 : Int
  l5 : Int
  mka : Option Addr
  mkl : Nat
  mkc : Nat
  mva : Option Addr
  mvl : Nat
  mvc : Nat
  mn : Bool
  u0 : ByteArray
  u1 : ByteArray
  u2 : ByteArray
  u3 : ByteArray
  u4 : ByteArray
  u5 : ByteArray
  ic : Bool
  t0 : Int
  t1 : Int
  ac : ByteArray

def Inp.cells (i : Inp) : Array Value := #[.string i.s0, .string i.s1, .string i.s2, .string i.s3, .string i.s4, .string i.s5, .string i.s6, .string i.s7, .int .i64 i.pn, .bool i.pe, .int .i64 i.sn, .bool i.se, .int .i64 i.ci,
  .string i.c0, .string i.c1, .slice i.dka i.dkl i.dkc, .slice i.dva i.dvl i.dvc, .bool i.dn, .int .i64 i.l0, .int .i64 i.l1, .int .i64 i.l2, .int .i64 i.l3, .int .i64 i.l4, .int .i64 i.l5,
  .slice i.mka i.mkl i.mkc, .slice i.mva i.mvl i.mvc, .bool i.mn, .string i.u0, .string i.u1, .string i.u2, .string i.u3, .string i.u4, .string i.u5, .bool i.ic, .int .i64 i.t0, .int .i64 i.t1, .string i.ac]

/-- What is known of the input: the bounds of its strings; its four slices of strings. -/
structure Inp.Ok (i : Inp) (w : World) (B : Nat) : Prop where
  dk : StrRow w B i.dka i.dkl
  dv : StrRow w B i.dva i.dvl
  mks : StrRow w B i.mka i.mkl
  mvs : StrRow w B i.mva i.mvl

theorem Inp.Ok.on {i : Inp} {w w' : World} {B : Nat} (h : i.Ok w B) (hb : Below B w w') : i.Ok w' B := ⟨h.dk.on hb, h.dv.on hb, h.mks.on hb, h.mvs.on hb⟩
theorem StrRow.up {w : World} {B B' : Nat} {a : Option Addr} {len : Nat} (h : StrRow w B a len) (hB : B ≤ B') : StrRow w B' a len := by
  obtain ⟨hl, h0 | ⟨b, o, ha, hlt, hc⟩⟩ := h
  · exact ⟨hl, .inl h0⟩
  · exact ⟨hl, .inr ⟨b, o, ha, by omega, hc⟩⟩
theorem Inp.Ok.up {i : Inp} {w : World} {B B' : Nat} (h : i.Ok w B) (hB : B ≤ B') : i.Ok w B' := ⟨h.dk.up hB, h.dv.up hB, h.mks.up hB, h.mvs.up hB⟩

theorem bcell {W w1 : World} (hb : Below W.heap.size W w1) : (∀ b o, b < W.heap.size → w1.cell? ⟨b, o, none⟩ = W.cell? ⟨b, o, none⟩) ∧ (∀ b o, b < W.heap.size → w1.frozen? ⟨b, o, none⟩ = W.frozen? ⟨b, o, none⟩) :=
  ⟨fun b o h => hb.cell (p := ⟨b, o, none⟩) h, fun b o h => hb.frozen (p := ⟨b, o, none⟩) h⟩

set_option maxHeartbeats 2000000 in
theorem inst_any (i : Inp) (w : World) (ok : i.Ok w w.heap.size) :
    Calls Tryd.prog 9 #[.agg i.cells] w fun e w' => (∃ z, e = .returned (.int .i64 z)) ∧ Below w.heap.size w w' := by
  have hB : Hid (Below w.heap.size w (w.alloc (.cells i.cells 32))) := (Below.refl _ _).alloc (Nat.le_refl _) _
  have hz : w.heap.size ≤ (w.alloc (.cells i.cells 32)).heap.size := by simp
  have OK : Hid (i.Ok (w.alloc (.cells i.cells 32)) (w.alloc (.cells i.cells 32)).heap.size) := (ok.on hB.out).up hz
  have HZ : Hid (w.heap.size ≤ (w.alloc (.cells i.cells 32)).heap.size) := hz
  clear ok hz
  unfold Inp.cells at hB HZ OK ⊢
  go_enter Tryd.func9, Tryd.ntmps9
  go_wp2_with (go_at_call 25; refine (addLen_any _ _ _).mono ?_; rintro e w' ⟨⟨z', rfl⟩, rfl⟩)
  refine (meta_any _ _ _ _ _ _ _ _ _ OK.out.mks OK.out.mvs).mono ?_
  rintro e w2 ⟨⟨z2, rfl⟩, hb2⟩
  obtain ⟨hc, hf⟩ := bcell hb2
  have H2 : Hid (Below (w.alloc (.cells i.cells 32)).heap.size (w.alloc (.cells i.cells 32)) w2) := hb2
  have OK2 : Hid (i.Ok w2 w2.heap.size) := (OK.out.on hb2).up hb2.size
  have hs2 : w.heap.size < (w.alloc (.cells i.cells 32)).heap.size := by simp
  clear hb2 OK
  unfold Inp.cells at H2 hs2
  go_wp2_with fail
  refine (meta_any _ _ _ _ _ _ _ _ _ OK2.out.dk OK2.out.dv).mono ?_
  rintro e w3 ⟨⟨z3, rfl⟩, hb3⟩
  have H3 : Hid (Below w2.heap.size w2 w3) := hb3
  clear hb3 hc hf hs2
  go_wp2
  go_ret
  exact ⟨⟨_, rfl⟩, (hB.out.trans (H2.out.mono HZ.out)).trans (H3.out.mono (Nat.le_trans HZ.out H2.out.size))⟩
end Go.Proofs.Qxb6605507aDoor
