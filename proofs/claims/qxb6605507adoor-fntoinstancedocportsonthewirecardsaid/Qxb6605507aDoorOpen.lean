/-
  THE INPUT, OPENED: what a value of the parameter's type that can be read as data looks like.
-/
import Derived.Test.Qxb6605507aDoorInp
import Derived.ProofKit
import Derived.SliceStrings
import Derived.Deep.Strs
import Derived.OpenShut
namespace Go.Proofs.Qxb6605507aDoor
open Go.ChangeShapes Go.WideShapes Go.ChangeAt Go.WideMaps Go.WideElems Go.RowKit

theorem cells32 : Tryd.prog.cellsOf 32 = 37 := by kernel_rfl
theorem cells9 : Tryd.prog.cellsOf 9 = 1 := by kernel_rfl
theorem cells23 : Tryd.prog.cellsOf 23 = 2 := by kernel_rfl
theorem cells2 : Tryd.prog.cellsOf 2 = 1 := by kernel_rfl
theorem cells28 : Tryd.prog.cellsOf 28 = 5 := by kernel_rfl
theorem cells30 : Tryd.prog.cellsOf 30 = 6 := by kernel_rfl
theorem cells26 : Tryd.prog.cellsOf 26 = 3 := by kernel_rfl
theorem cells4 : Tryd.prog.cellsOf 4 = 1 := by kernel_rfl
theorem cells24 : Tryd.prog.cellsOf 24 = 1 := by kernel_rfl

theorem uncons {l : List Value} {n : Nat} (h : l.length = n + 1) : ∃ x t, l = x :: t ∧ t.length = n := by
  cases l with
  | nil => simp at h
  | cons x t => exact ⟨x, t, rfl, by simpa using h⟩
theorem list37 (l : List Value) (h : l.length = 37) : ∃ x0 x1 x2 x3 x4 x5 x6 x7 x8 x9 x10 x11 x12 x13 x14 x15 x16 x17 x18 x19 x20 x21 x22 x23 x24 x25 x26 x27 x28 x29 x30 x31 x32 x33 x34 x35 x36, l = [x0, x1, x2, x3, x4, x5, x6, x7, x8, x9, x10, x11, x12, x13, x14, x15, x16, x17, x18, x19, x20, x21, x22, x23, x24, x25, x26, x27, x28, x29, x30, x31, x32, x33, x34, x35, x36] := by
  obtain ⟨x0, l0, rfl, h0⟩ := uncons h
  obtain ⟨x1, l1, rfl, h1⟩ := uncons h0
  obtain ⟨x2, l2, rfl, h2⟩ := uncons h1
  obtain ⟨x3, l3, rfl, h3⟩ := uncons h2
  obtain ⟨x4, l4, rfl, h4⟩ := uncons h3
  obtain ⟨x5, l5, rfl, h5⟩ := uncons h4
  obtain ⟨x6, l6, rfl, h6⟩ := uncons h5
  obtain ⟨x7, l7, rfl, h7⟩ := uncons h6
  obtain ⟨x8, l8, rfl, h8⟩ := uncons h7
  obtain ⟨x9, l9, rfl, h9⟩ := uncons h8
  obtain ⟨x10, l10, rfl, h10⟩ := uncons h9
  obtain ⟨x11, l11, rfl, h11⟩ := uncons h10
  obtain ⟨x12, l12, rfl, h12⟩ := uncons h11
  obtain ⟨x13, l13, rfl, h13⟩ := uncons h12
  obtain ⟨x14, l14, rfl, h14⟩ := uncons h13
  obtain ⟨x15, l15, rfl, h15⟩ := uncons h14
  obtain ⟨x16, l16, rfl, h16⟩ := uncons h15
  obtain ⟨x17, l17, rfl, h17⟩ := uncons h16
  obtain ⟨x18, l18, rfl, h18⟩ := uncons h17
  obtain ⟨x19, l19, rfl, h19⟩ := uncons h18
  obtain ⟨x20, l20, rfl, h20⟩ := uncons h19
  obtain ⟨x21, l21, rfl, h21⟩ := uncons h20
  obtain ⟨x22, l22, rfl, h22⟩ := uncons h21
  obtain ⟨x23, l23, rfl, h23⟩ := uncons h22
  obtain ⟨x24, l24, rfl, h24⟩ := uncons h23
  obtain ⟨x25, l25, rfl, h25⟩ := uncons h24
  obtain ⟨x26, l26, rfl, h26⟩ := uncons h25
  obtain ⟨x27, l27, rfl, h27⟩ := uncons h26
  obtain ⟨x28, l28, rfl, h28⟩ := uncons h27
  obtain ⟨x29, l29, rfl, h29⟩ := uncons h28
  obtain ⟨x30, l30, rfl, h30⟩ := uncons h29
  obtain ⟨x31, l31, rfl, h31⟩ := uncons h30
  obtain ⟨x32, l32, rfl, h32⟩ := uncons h31
  obtain ⟨x33, l33, rfl, h33⟩ := uncons h32
  obtain ⟨x34, l34, rfl, h34⟩ := uncons h33
  obtain ⟨x35, l35, rfl, h35⟩ := uncons h34
  obtain ⟨x36, l36, rfl, h36⟩ := uncons h35
  obtain rfl := List.eq_nil_of_length_eq_zero h36
  exact ⟨x0, x1, x2, x3, x4, x5, x6, x7, x8, x9, x10, x11, x12, x13, x14, x15, x16, x17, x18, x19, x20, x21, x22, x23, x24, x25, x26, x27, x28, x29, x30, x31, x32, x33, x34, x35, x36, rfl⟩

section
variable {H : Type} {enc : TypeId × Value → H} {W : World} {base : Nat} {sp : Nat → Bool} {held : Bool} {n : Nat} {x : Value} {y : DataW H × List MemPlace}
theorem o_str (h : DataW.trod enc Tryd.prog W base sp held n 9 [x] = some y) : ∃ s : ByteArray, x = .string s := by
  obtain ⟨s, e, _⟩ := DataW.trod_string Tryd.underlying9 h
  exact ⟨s, by simpa using e⟩
theorem o_int (h : DataW.trod enc Tryd.prog W base sp held n 2 [x] = some y) : ∃ z : Int, x = .int .i64 z ∧ -9223372036854775808 ≤ z ∧ z ≤ 9223372036854775807 := by
  obtain ⟨z, e, _, hw⟩ := DataW.trod_int Tryd.underlying2 h
  have hb := bounds_i64 hw
  exact ⟨z, by simpa using e, hb.1, hb.2⟩
theorem o_bool (h : DataW.trod enc Tryd.prog W base sp held n 4 [x] = some y) : ∃ b : Bool, x = .bool b := by
  obtain ⟨b, e, _⟩ := DataW.trod_bool Tryd.underlying4 h
  exact ⟨b, by simpa using e⟩
theorem o_strs (h : DataW.trod enc Tryd.prog W base sp held n 24 [x] = some y) : ∃ (a : Option Addr) (len cap : Nat), x = .slice a len cap ∧ StrRow W W.heap.size a len := by
  rcases open_strings Tryd.underlying24 Tryd.underlying9 cells9 h with ⟨e, _⟩ | ⟨a, len, cap, ss, e, _, hl, hm, hz, _, hcell, hw⟩
  · exact ⟨none, 0, 0, by simpa using e, by omega, .inl rfl⟩
  · refine ⟨some a, len, cap, by simpa using e, by unfold maxLen at hm; omega, ?_⟩
    have hlen : len ≤ ss.length := by rw [hz]; split <;> omega
    by_cases h0 : len = 0
    · exact .inl h0
    · obtain ⟨b, off, spot⟩ := a
      have hspot : spot = none := by simpa [Addr.add] using World.cell?_spot (hcell 0 (by omega))
      subst hspot
      refine .inr ⟨b, off, rfl, ?_, fun i hi => ⟨ss.getD i ByteArray.empty, ?_, ?_⟩⟩
      · have := World.block_lt_of_cell? W _ (hcell 0 (by omega)); simpa [Addr.add] using this
      · have hi' : i < ss.length := by omega
        have := hw (ss.getD i ByteArray.empty) (by simp [List.getD, hi'])
        unfold maxLen at this; exact this
      · rw [← Go.WideShapes.add_plain]; exact hcell i (by omega)
theorem o_meta {x0 x1 x2 : Value} (h : DataW.trod enc Tryd.prog W base sp held n 26 [x0, x1, x2] = some y) :
    ∃ ka kl kc va vl vc b, x0 = .slice ka kl kc ∧ x1 = .slice va vl vc ∧ x2 = .bool b ∧ StrRow W W.heap.size ka kl ∧ StrRow W W.heap.size va vl := by
  obtain ⟨y0, y1, y2, m, _, _, h0, h1, h2⟩ := Deep.trod_struct3 Tryd.underlying26 h
  simp only [cells24, cells4] at h0 h1 h2
  obtain ⟨ka, kl, kc, rfl, r0⟩ := o_strs h0
  obtain ⟨va, vl, vc, rfl, r1⟩ := o_strs h1
  obtain ⟨b, rfl⟩ := o_bool h2
  exact ⟨ka, kl, kc, va, vl, vc, b, rfl, rfl, rfl, r0, r1⟩
theorem o_port {x0 x1 : Value} (h : DataW.trod enc Tryd.prog W base sp held n 23 [x0, x1] = some y) :
    ∃ (z : Int) (b : Bool), x0 = .int .i64 z ∧ x1 = .bool b ∧ -9223372036854775808 ≤ z ∧ z ≤ 9223372036854775807 := by
  obtain ⟨y0, y1, m, _, _, h0, h1⟩ := trod_struct2 Tryd.underlying23 h
  simp only [cells2, cells4] at h0 h1
  obtain ⟨z, rfl, r⟩ := o_int h0
  obtain ⟨b, rfl⟩ := o_bool h1
  exact ⟨z, b, rfl, rfl, r⟩
theorem o_dc {x0 x1 x2 x3 x4 : Value} (h : DataW.trod enc Tryd.prog W base sp held n 28 [x0, x1, x2, x3, x4] = some y) :
    ∃ s0 s1 ka kl kc va vl vc b, x0 = .string s0 ∧ x1 = .string s1 ∧ x2 = .slice ka kl kc ∧ x3 = .slice va vl vc ∧ x4 = .bool b ∧ StrRow W W.heap.size ka kl ∧ StrRow W W.heap.size va vl := by
  obtain ⟨y0, y1, y2, m, _, _, h0, h1, h2⟩ := Deep.trod_struct3 Tryd.underlying28 h
  simp only [cells9, cells26] at h0 h1 h2
  obtain ⟨s0, rfl⟩ := o_str h0
  obtain ⟨s1, rfl⟩ := o_str h1
  obtain ⟨ka, kl, kc, va, vl, vc, b, rfl, rfl, rfl, r0, r1⟩ := o_meta h2
  exact ⟨s0, s1, ka, kl, kc, va, vl, vc, b, rfl, rfl, rfl, rfl, rfl, r0, r1⟩
/-- A field of a struct that can be read can be read. -/
theorem o_field {t : TypeId} {fs : Array Field} {cs : List Value} (ht : Tryd.prog.underlying t = some (.struct fs)) (h : DataW.trod enc Tryd.prog W base sp held n t cs = some y) :
    ∃ m, ∀ (i : Nat) (u : TypeId) (o k : Nat), (fs[i]?).map (fun f => (f.type, f.offset)) = some (u, o) → Tryd.prog.cellsOf u = k → ∃ z, DataW.trod enc Tryd.prog W base sp held m u ((cs.drop o).take k) = some z := by
  obtain ⟨xs, m, _, _, _, hlen, hf⟩ := DataW.trod_struct ht h
  refine ⟨m, fun i u o k hi hk => ?_⟩
  obtain ⟨f, hf', e⟩ := Option.map_eq_some_iff.1 hi
  simp only [Prod.mk.injEq] at e
  obtain ⟨rfl, rfl⟩ := e
  subst hk
  have hi' : i < fs.size := (Array.getElem?_eq_some_iff.1 hf').1
  exact ⟨xs[i], by rw [hf i f hf', List.getElem?_eq_getElem (by omega)]⟩
theorem o_lease {x0 x1 x2 x3 x4 x5 : Value} (h : DataW.trod enc Tryd.prog W base sp held n 30 [x0, x1, x2, x3, x4, x5] = some y) :
    ∃ z0 z1 z2 z3 z4 z5 : Int, x0 = .int .i64 z0 ∧ x1 = .int .i64 z1 ∧ x2 = .int .i64 z2 ∧ x3 = .int .i64 z3 ∧ x4 = .int .i64 z4 ∧ x5 = .int .i64 z5 := by
  obtain ⟨m, hf⟩ := o_field Tryd.underlying30 h
  obtain ⟨_, f0⟩ := hf 0 2 0 1 rfl cells2
  obtain ⟨_, f1⟩ := hf 1 2 1 1 rfl cells2
  obtain ⟨_, f2⟩ := hf 2 2 2 1 rfl cells2
  obtain ⟨_, f3⟩ := hf 3 2 3 1 rfl cells2
  obtain ⟨_, f4⟩ := hf 4 2 4 1 rfl cells2
  obtain ⟨_, f5⟩ := hf 5 2 5 1 rfl cells2
  obtain ⟨z0, rfl, _⟩ := o_int f0
  obtain ⟨z1, rfl, _⟩ := o_int f1
  obtain ⟨z2, rfl, _⟩ := o_int f2
  obtain ⟨z3, rfl, _⟩ := o_int f3
  obtain ⟨z4, rfl, _⟩ := o_int f4
  obtain ⟨z5, rfl, _⟩ := o_int f5
  exact ⟨z0, z1, z2, z3, z4, z5, rfl, rfl, rfl, rfl, rfl, rfl⟩

theorem open_inp {cs : List Value} (hl : cs.length = 37) (h : DataW.trod enc Tryd.prog W base sp held n 32 cs = some y) :
    ∃ i : Inp, cs = i.cells.toList ∧ i.Ok W W.heap.size ∧ -9223372036854775808 ≤ i.pn ∧ i.pn ≤ 9223372036854775807 ∧ -9223372036854775808 ≤ i.sn ∧ i.sn ≤ 9223372036854775807 := by
  obtain ⟨x0, x1, x2, x3, x4, x5, x6, x7, x8, x9, x10, x11, x12, x13, x14, x15, x16, x17, x18, x19, x20, x21, x22, x23, x24, x25, x26, x27, x28, x29, x30, x31, x32, x33, x34, x35, x36, rfl⟩ := list37 cs hl
  obtain ⟨m, hf⟩ := o_field Tryd.underlying32 h
  obtain ⟨_, f0⟩ := hf 0 9 0 1 rfl cells9
  obtain ⟨_, f1⟩ := hf 1 9 1 1 rfl cells9
  obtain ⟨_, f2⟩ := hf 2 9 2 1 rfl cells9
  obtain ⟨_, f3⟩ := hf 3 9 3 1 rfl cells9
  obtain ⟨_, f4⟩ := hf 4 9 4 1 rfl cells9
  obtain ⟨_, f5⟩ := hf 5 9 5 1 rfl cells9
  obtain ⟨_, f6⟩ := hf 6 9 6 1 rfl cells9
  obtain ⟨_, f7⟩ := hf 7 9 7 1 rfl cells9
  obtain ⟨_, f8⟩ := hf 8 23 8 2 rfl cells23
  obtain ⟨_, f9⟩ := hf 9 23 10 2 rfl cells23
  obtain ⟨_, f10⟩ := hf 10 2 12 1 rfl cells2
  obtain ⟨_, f11⟩ := hf 11 28 13 5 rfl cells28
  obtain ⟨_, f12⟩ := hf 12 30 18 6 rfl cells30
  obtain ⟨_, f13⟩ := hf 13 26 24 3 rfl cells26
  obtain ⟨_, f14⟩ := hf 14 9 27 1 rfl cells9
  obtain ⟨_, f15⟩ := hf 15 9 28 1 rfl cells9
  obtain ⟨_, f16⟩ := hf 16 9 29 1 rfl cells9
  obtain ⟨_, f17⟩ := hf 17 9 30 1 rfl cells9
  obtain ⟨_, f18⟩ := hf 18 9 31 1 rfl cells9
  obtain ⟨_, f19⟩ := hf 19 9 32 1 rfl cells9
  obtain ⟨_, f20⟩ := hf 20 4 33 1 rfl cells4
  obtain ⟨_, f21⟩ := hf 21 2 34 1 rfl cells2
  obtain ⟨_, f22⟩ := hf 22 2 35 1 rfl cells2
  obtain ⟨_, f23⟩ := hf 23 9 36 1 rfl cells9
  obtain ⟨s0, rfl⟩ := o_str f0
  obtain ⟨s1, rfl⟩ := o_str f1
  obtain ⟨s2, rfl⟩ := o_str f2
  obtain ⟨s3, rfl⟩ := o_str f3
  obtain ⟨s4, rfl⟩ := o_str f4
  obtain ⟨s5, rfl⟩ := o_str f5
  obtain ⟨s6, rfl⟩ := o_str f6
  obtain ⟨s7, rfl⟩ := o_str f7
  obtain ⟨pn, pe, rfl, rfl, p0, p1⟩ := o_port f8
  obtain ⟨sn, se, rfl, rfl, q0, q1⟩ := o_port f9
  obtain ⟨ci, rfl, _⟩ := o_int f10
  obtain ⟨c0, c1, dka, dkl, dkc, dva, dvl, dvc, dn, rfl, rfl, rfl, rfl, rfl, r0, r1⟩ := o_dc f11
  obtain ⟨l0, l1, l2, l3, l4, l5, rfl, rfl, rfl, rfl, rfl, rfl⟩ := o_lease f12
  obtain ⟨mka, mkl, mkc, mva, mvl, mvc, mn, rfl, rfl, rfl, r2, r3⟩ := o_meta f13
  obtain ⟨u0, rfl⟩ := o_str f14
  obtain ⟨u1, rfl⟩ := o_str f15
  obtain ⟨u2, rfl⟩ := o_str f16
  obtain ⟨u3, rfl⟩ := o_str f17
  obtain ⟨u4, rfl⟩ := o_str f18
  obtain ⟨u5, rfl⟩ := o_str f19
  obtain ⟨ic, rfl⟩ := o_bool f20
  obtain ⟨t0, rfl, _⟩ := o_int f21
  obtain ⟨t1, rfl, _⟩ := o_int f22
  obtain ⟨ac, rfl⟩ := o_str f23
  exact ⟨⟨s0, s1, s2, s3, s4, s5, s6, s7, pn, pe, sn, se, ci, c0, c1, dka, dkl, dkc, dva, dvl, dvc, dn, l0, l1, l2, l3, l4, l5, mka, mkl, mkc, mva, mvl, mvc, mn, u0, u1, u2, u3, u4, u5, ic, t0, t1, ac⟩, rfl, ⟨r0, r1, r2, r3⟩, p0, p1, q0, q1⟩
end
end Go.Proofs.Qxb6605507aDoor
