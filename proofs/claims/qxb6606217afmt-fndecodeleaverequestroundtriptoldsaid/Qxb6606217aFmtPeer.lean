/-
  decodePeerRequest, ITS THREE CALLS TAKEN BY CONTRACTS.
-/
import Derived.Test.Qxb6606217aFmtOpq
namespace Go.Proofs.Qxb6606217aFmt
open Go.RowKit Go.Extern.Stop Go.Stop Go.Extern

def z16 : Array Value := #[.int .u8 0, .int .u8 0, .int .u8 0, .int .u8 0, .int .u8 0, .int .u8 0, .int .u8 0, .int .u8 0, .int .u8 0, .int .u8 0, .int .u8 0, .int .u8 0, .int .u8 0, .int .u8 0, .int .u8 0, .int .u8 0]

theorem results_row3 {P : Program} {fn : Func} {p u v : Tmp} {ty : TypeId} (h : fn.results = #[.cell p ty, .tmp u, .tmp v]) (tmps : Array Value) (w : World) (g : Nat) (t : TypeId) (cs : Array Value) (fr : Nat × Nat) (d : TypeDesc)
    (hp : tmps.getD p undef = .pointer (some ⟨g, 0, none⟩)) (hg : w.heap[g]? = some (.cells cs t fr))
    (hu : P.underlying ty = some d) (hd : (match d with | .struct _ | .array _ _ => true | _ => false) = true) (hi : (P.info? ty).map (·.size) = some cs.size) :
    (results fn tmps).run P w = .ok (.tuple #[.agg cs, tmps.getD u undef, tmps.getD v undef]) w := by
  have hp' : tmps[p]?.getD undef = .pointer (some ⟨g, 0, none⟩) := by simpa using hp
  simp [results, h, hp', asAddr, run_loadVar_row w g t ty cs fr d hg hu hd hi]
theorem results_row2 {P : Program} {fn : Func} {p u : Tmp} {ty : TypeId} (h : fn.results = #[.cell p ty, .tmp u]) (tmps : Array Value) (w : World) (g : Nat) (t : TypeId) (cs : Array Value) (fr : Nat × Nat) (d : TypeDesc)
    (hp : tmps.getD p undef = .pointer (some ⟨g, 0, none⟩)) (hg : w.heap[g]? = some (.cells cs t fr))
    (hu : P.underlying ty = some d) (hd : (match d with | .struct _ | .array _ _ => true | _ => false) = true) (hi : (P.info? ty).map (·.size) = some cs.size) :
    (results fn tmps).run P w = .ok (.tuple #[.agg cs, tmps.getD u undef]) w := by
  have hp' : tmps[p]?.getD undef = .pointer (some ⟨g, 0, none⟩) := by simpa using hp
  simp [results, h, hp', asAddr, run_loadVar_row w g t ty cs fr d hg hu hd hi]

def set16 (W : World) (g : Nat) (v0 v1 v2 v3 v4 v5 v6 v7 v8 v9 v10 v11 v12 v13 v14 v15 : Value) : World := ((((((((((((((((W.setCell ⟨g, 0, none⟩ v0).setCell ⟨g, 1, none⟩ v1).setCell ⟨g, 2, none⟩ v2).setCell ⟨g, 3, none⟩ v3).setCell ⟨g, 4, none⟩ v4).setCell ⟨g, 5, none⟩ v5).setCell ⟨g, 6, none⟩ v6).setCell ⟨g, 7, none⟩ v7).setCell ⟨g, 8, none⟩ v8).setCell ⟨g, 9, none⟩ v9).setCell ⟨g, 10, none⟩ v10).setCell ⟨g, 11, none⟩ v11).setCell ⟨g, 12, none⟩ v12).setCell ⟨g, 13, none⟩ v13).setCell ⟨g, 14, none⟩ v14).setCell ⟨g, 15, none⟩ v15)
theorem heap_set16 (W : World) (g : Nat) (v0 v1 v2 v3 v4 v5 v6 v7 v8 v9 v10 v11 v12 v13 v14 v15 : Value) (h : W.heap[g]? = some (.cells z16 35 (0, 0))) : (set16 W g v0 v1 v2 v3 v4 v5 v6 v7 v8 v9 v10 v11 v12 v13 v14 v15).heap[g]? = some (.cells #[v0, v1, v2, v3, v4, v5, v6, v7, v8, v9, v10, v11, v12, v13, v14, v15] 35 (0, 0)) := by
  have h0 := heap_setCell_same _ g 0 _ 35 v0 h
  have h0 : _ = some (Obj.cells #[v0, .int .u8 0, .int .u8 0, .int .u8 0, .int .u8 0, .int .u8 0, .int .u8 0, .int .u8 0, .int .u8 0, .int .u8 0, .int .u8 0, .int .u8 0, .int .u8 0, .int .u8 0, .int .u8 0, .int .u8 0] 35 (0, 0)) := h0
  have h1 := heap_setCell_same _ g 1 _ 35 v1 h0
  have h1 : _ = some (Obj.cells #[v0, v1, .int .u8 0, .int .u8 0, .int .u8 0, .int .u8 0, .int .u8 0, .int .u8 0, .int .u8 0, .int .u8 0, .int .u8 0, .int .u8 0, .int .u8 0, .int .u8 0, .int .u8 0, .int .u8 0] 35 (0, 0)) := h1
  have h2 := heap_setCell_same _ g 2 _ 35 v2 h1
  have h2 : _ = some (Obj.cells #[v0, v1, v2, .int .u8 0, .int .u8 0, .int .u8 0, .int .u8 0, .int .u8 0, .int .u8 0, .int .u8 0, .int .u8 0, .int .u8 0, .int .u8 0, .int .u8 0, .int .u8 0, .int .u8 0] 35 (0, 0)) := h2
  have h3 := heap_setCell_same _ g 3 _ 35 v3 h2
  have h3 : _ = some (Obj.cells #[v0, v1, v2, v3, .int .u8 0, .int .u8 0, .int .u8 0, .int .u8 0, .int .u8 0, .int .u8 0, .int .u8 0, .int .u8 0, .int .u8 0, .int .u8 0, .int .u8 0, .int .u8 0] 35 (0, 0)) := h3
  have h4 := heap_setCell_same _ g 4 _ 35 v4 h3
  have h4 : _ = some (Obj.cells #[v0, v1, v2, v3, v4, .int .u8 0, .int .u8 0, .int .u8 0, .int .u8 0, .int .u8 0, .int .u8 0, .int .u8 0, .int .u8 0, .int .u8 0, .int .u8 0, .int .u8 0] 35 (0, 0)) := h4
  have h5 := heap_setCell_same _ g 5 _ 35 v5 h4
  have h5 : _ = some (Obj.cells #[v0, v1, v2, v3, v4, v5, .int .u8 0, .int .u8 0, .int .u8 0, .int .u8 0, .int .u8 0, .int .u8 0, .int .u8 0, .int .u8 0, .int .u8 0, .int .u8 0] 35 (0, 0)) := h5
  have h6 := heap_setCell_same _ g 6 _ 35 v6 h5
  have h6 : _ = some (Obj.cells #[v0, v1, v2, v3, v4, v5, v6, .int .u8 0, .int .u8 0, .int .u8 0, .int .u8 0, .int .u8 0, .int .u8 0, .int .u8 0, .int .u8 0, .int .u8 0] 35 (0, 0)) := h6
  have h7 := heap_setCell_same _ g 7 _ 35 v7 h6
  have h7 : _ = some (Obj.cells #[v0, v1, v2, v3, v4, v5, v6, v7, .int .u8 0, .int .u8 0, .int .u8 0, .int .u8 0, .int .u8 0, .int .u8 0, .int .u8 0, .int .u8 0] 35 (0, 0)) := h7
  have h8 := heap_setCell_same _ g 8 _ 35 v8 h7
  have h8 : _ = some (Obj.cells #[v0, v1, v2, v3, v4, v5, v6, v7, v8, .int .u8 0, .int .u8 0, .int .u8 0, .int .u8 0, .int .u8 0, .int .u8 0, .int .u8 0] 35 (0, 0)) := h8
  have h9 := heap_setCell_same _ g 9 _ 35 v9 h8
  have h9 : _ = some (Obj.cells #[v0, v1, v2, v3, v4, v5, v6, v7, v8, v9, .int .u8 0, .int .u8 0, .int .u8 0, .int .u8 0, .int .u8 0, .int .u8 0] 35 (0, 0)) := h9
  have h10 := heap_setCell_same _ g 10 _ 35 v10 h9
  have h10 : _ = some (Obj.cells #[v0, v1, v2, v3, v4, v5, v6, v7, v8, v9, v10, .int .u8 0, .int .u8 0, .int .u8 0, .int .u8 0, .int .u8 0] 35 (0, 0)) := h10
  have h11 := heap_setCell_same _ g 11 _ 35 v11 h10
  have h11 : _ = some (Obj.cells #[v0, v1, v2, v3, v4, v5, v6, v7, v8, v9, v10, v11, .int .u8 0, .int .u8 0, .int .u8 0, .int .u8 0] 35 (0, 0)) := h11
  have h12 := heap_setCell_same _ g 12 _ 35 v12 h11
  have h12 : _ = some (Obj.cells #[v0, v1, v2, v3, v4, v5, v6, v7, v8, v9, v10, v11, v12, .int .u8 0, .int .u8 0, .int .u8 0] 35 (0, 0)) := h12
  have h13 := heap_setCell_same _ g 13 _ 35 v13 h12
  have h13 : _ = some (Obj.cells #[v0, v1, v2, v3, v4, v5, v6, v7, v8, v9, v10, v11, v12, v13, .int .u8 0, .int .u8 0] 35 (0, 0)) := h13
  have h14 := heap_setCell_same _ g 14 _ 35 v14 h13
  have h14 : _ = some (Obj.cells #[v0, v1, v2, v3, v4, v5, v6, v7, v8, v9, v10, v11, v12, v13, v14, .int .u8 0] 35 (0, 0)) := h14
  have h15 := heap_setCell_same _ g 15 _ 35 v15 h14
  have h15 : _ = some (Obj.cells #[v0, v1, v2, v3, v4, v5, v6, v7, v8, v9, v10, v11, v12, v13, v14, v15] 35 (0, 0)) := h15
  exact h15
theorem below_set16 {B : Nat} {w W : World} (h : Below B w W) (g : Nat) (hg : B ≤ g) (v0 v1 v2 v3 v4 v5 v6 v7 v8 v9 v10 v11 v12 v13 v14 v15 : Value) : Below B w (set16 W g v0 v1 v2 v3 v4 v5 v6 v7 v8 v9 v10 v11 v12 v13 v14 v15) := by
  unfold set16
  have h0 := h.setCell (p := ⟨g, 0, none⟩) hg v0
  have h1 := h0.setCell (p := ⟨g, 1, none⟩) hg v1
  have h2 := h1.setCell (p := ⟨g, 2, none⟩) hg v2
  have h3 := h2.setCell (p := ⟨g, 3, none⟩) hg v3
  have h4 := h3.setCell (p := ⟨g, 4, none⟩) hg v4
  have h5 := h4.setCell (p := ⟨g, 5, none⟩) hg v5
  have h6 := h5.setCell (p := ⟨g, 6, none⟩) hg v6
  have h7 := h6.setCell (p := ⟨g, 7, none⟩) hg v7
  have h8 := h7.setCell (p := ⟨g, 8, none⟩) hg v8
  have h9 := h8.setCell (p := ⟨g, 9, none⟩) hg v9
  have h10 := h9.setCell (p := ⟨g, 10, none⟩) hg v10
  have h11 := h10.setCell (p := ⟨g, 11, none⟩) hg v11
  have h12 := h11.setCell (p := ⟨g, 12, none⟩) hg v12
  have h13 := h12.setCell (p := ⟨g, 13, none⟩) hg v13
  have h14 := h13.setCell (p := ⟨g, 14, none⟩) hg v14
  have h15 := h14.setCell (p := ⟨g, 15, none⟩) hg v15
  exact h15

/-- The state while the body is read: w, the world at the call. -/
structure Inv (w : World) (ids : Array Value) (W : World) (sl ev : Value) : Prop where
  dec : Dec W (w.heap.size + 2) (w.heap.size + 1) sl ev
  bel : Below w.heap.size w W
  id : W.heap[w.heap.size + 3]? = some (.cells ids 35 (0, 0))
  res : W.heap[w.heap.size]? = some (.cells z16 35 (0, 0))
theorem setRow_other {w : World} {b k : Nat} {cs : Array Value} (h : k ≠ b) : (w.setRow b cs).heap[k]? = w.heap[k]? := by
  simp only [World.setRow]
  rw [Array.getElem?_modify]
  rw [if_neg (fun e => h e.symm)]
theorem setRow_heap (w : World) (g : Nat) (cs cs' : Array Value) (t : TypeId) (fr : Nat × Nat) (hg : w.heap[g]? = some (.cells cs' t fr)) : (w.setRow g cs).heap[g]? = some (.cells cs t fr) := by
  simp only [World.setRow]
  rw [Array.getElem?_modify, if_pos rfl, hg]
  rfl
theorem Inv.oth {w : World} {ids : Array Value} {W W' : World} {sl ev sl' ev' : Value} (h : Inv w ids W sl ev) (o : Oth (w.heap.size + 2) (w.heap.size + 1) W W') (d : Dec W' (w.heap.size + 2) (w.heap.size + 1) sl' ev') : Inv w ids W' sl' ev' := by
  have l1 := (Array.getElem?_eq_some_iff.1 h.id).1
  have l2 := (Array.getElem?_eq_some_iff.1 h.res).1
  exact ⟨d, o.below h.bel (by omega) (by omega) (by omega), (o.block _ l1 (by omega) (by omega)).trans h.id, (o.block _ l2 (by omega) (by omega)).trans h.res⟩

theorem Inv.row {w : World} {ids ids' : Array Value} {W : World} {sl ev : Value} (h : Inv w ids W sl ev) : Inv w ids' (W.setRow (w.heap.size + 3) ids') sl ev :=
  ⟨⟨(setRow_other (by omega)).trans h.dec.d, (setRow_other (by omega)).trans h.dec.e, h.dec.ne⟩, below_setRow h.bel (by omega) _, setRow_heap _ _ _ _ 35 (0, 0) h.id, (setRow_other (by omega)).trans h.res⟩
theorem Inv.drew {w : World} {ids : Array Value} {W : World} {sl ev : Value} (h : Inv w ids W sl ev) : Inv w ids W.drew sl ev := ⟨⟨h.dec.d, h.dec.e, h.dec.ne⟩, h.bel.drew, h.id, h.res⟩

set_option maxRecDepth 100000 in
set_option maxHeartbeats 2000000 in
theorem peer_any (sl : Value) (hs : ∃ a n c, sl = .slice a n c) (f1 f2 : ByteArray) (w : World) (i0 i1 i2 i3 i4 i5 i6 i7 i8 i9 i10 i11 i12 i13 i14 i15 : Int) (tv : Value) (htv : ∃ a n c, tv = .slice a n c) (p1 p2 : Value → Value → Prop) (pd p3 : Value → Prop)
    (hT : ∀ W, Inv w z16 W sl .nilIface → Calls Tryf.prog 19 #[.pointer (some ⟨w.heap.size + 2, 0, none⟩), .int .i64 16, .string f1] W fun e W' => e = .returned tv ∧ ∃ sl1 ev1, p1 sl1 ev1 ∧ Inv w z16 W' sl1 ev1)
    (hC : ∀ W sl1 ev1, p1 sl1 ev1 → Inv w z16 W sl1 ev1 → ∃ m, (Builtin.copy_ #[22, 22] 3 #[.slice (some ⟨w.heap.size + 3, 0, none⟩) 16 16, tv]).run Tryf.prog W = .ok (goInt m) (W.setRow (w.heap.size + 3) #[.int .u8 i0, .int .u8 i1, .int .u8 i2, .int .u8 i3, .int .u8 i4, .int .u8 i5, .int .u8 i6, .int .u8 i7, .int .u8 i8, .int .u8 i9, .int .u8 i10, .int .u8 i11, .int .u8 i12, .int .u8 i13, .int .u8 i14, .int .u8 i15]))
    (hO : ∀ W sl1 ev1, p1 sl1 ev1 → Inv w #[.int .u8 i0, .int .u8 i1, .int .u8 i2, .int .u8 i3, .int .u8 i4, .int .u8 i5, .int .u8 i6, .int .u8 i7, .int .u8 i8, .int .u8 i9, .int .u8 i10, .int .u8 i11, .int .u8 i12, .int .u8 i13, .int .u8 i14, .int .u8 i15] W sl1 ev1 → Calls Tryf.prog 20 #[.pointer (some ⟨w.heap.size + 2, 0, none⟩), .int .i64 2, .string fld] W fun e W' => ∃ da dn dc, e = .returned (.slice da dn dc) ∧ pd (.slice da dn dc) ∧ ∃ sl2 ev2, p2 sl2 ev2 ∧ Inv w #[.int .u8 i0, .int .u8 i1, .int .u8 i2, .int .u8 i3, .int .u8 i4, .int .u8 i5, .int .u8 i6, .int .u8 i7, .int .u8 i8, .int .u8 i9, .int .u8 i10, .int .u8 i11, .int .u8 i12, .int .u8 i13, .int .u8 i14, .int .u8 i15] W' sl2 ev2)
    (hN : ∀ W sl2 ev2, p2 sl2 ev2 → Inv w #[.int .u8 i0, .int .u8 i1, .int .u8 i2, .int .u8 i3, .int .u8 i4, .int .u8 i5, .int .u8 i6, .int .u8 i7, .int .u8 i8, .int .u8 i9, .int .u8 i10, .int .u8 i11, .int .u8 i12, .int .u8 i13, .int .u8 i14, .int .u8 i15] W sl2 ev2 → Calls Tryf.prog 21 #[.pointer (some ⟨w.heap.size + 2, 0, none⟩), .string f2] W fun e W' => e = .returned (.tuple #[]) ∧ ∃ sl3 ev3, p3 ev3 ∧ Inv w #[.int .u8 i0, .int .u8 i1, .int .u8 i2, .int .u8 i3, .int .u8 i4, .int .u8 i5, .int .u8 i6, .int .u8 i7, .int .u8 i8, .int .u8 i9, .int .u8 i10, .int .u8 i11, .int .u8 i12, .int .u8 i13, .int .u8 i14, .int .u8 i15] W' sl3 ev3) :
    Calls Tryf.prog 18 #[sl, .string f1, .string f2] w fun e w' => ∃ dv ev, pd dv ∧ p3 ev ∧ e = .returned (.tuple #[.agg #[.int .u8 i0, .int .u8 i1, .int .u8 i2, .int .u8 i3, .int .u8 i4, .int .u8 i5, .int .u8 i6, .int .u8 i7, .int .u8 i8, .int .u8 i9, .int .u8 i10, .int .u8 i11, .int .u8 i12, .int .u8 i13, .int .u8 i14, .int .u8 i15], dv, ev]) ∧ Below w.heap.size w w' := by
  obtain ⟨sa, sn, sc, rfl⟩ := hs
  obtain ⟨ta, tn, tc, rfl⟩ := htv
  unfold fld at hO
  go_enter Tryf.func18, Tryf.ntmps18
  go_wp2_with fail
  refine (new_any _ ⟨_, _, _, rfl⟩ _).mono ?_
  rintro e w1 ⟨rfl, hb1, hd1, hs1⟩
  have hI0 : Inv w z16 (w1.alloc (.cells z16 35)) (.slice sa sn sc) .nilIface := by
    simp at hs1
    have hd2 : Dec w1 (w.heap.size + 2) (w.heap.size + 1) (.slice sa sn sc) .nilIface := by
      have h := hd1
      simp only [World.size_alloc] at h
      exact h
    refine ⟨⟨(Below.heap_alloc w1 _ _ (by omega)).trans hd2.d, (Below.heap_alloc w1 _ _ (by omega)).trans hd2.e, by omega⟩, ?_, ?_, ?_⟩
    · refine (((Below.refl w.heap.size w).alloc (Nat.le_refl _) (.cells z16 35)).trans (hb1.mono (by simp))).alloc (by omega) _
    · rw [show w.heap.size + 3 = w1.heap.size by omega]; exact heap_alloc_new w1 _
    · exact (Below.heap_alloc w1 _ _ (by omega)).trans ((hb1.block _ (by simp)).trans (heap_alloc_new w _))
  have HTC : Hid (Calls Tryf.prog 19 #[.pointer (some ⟨w.heap.size + 1 + 1, 0, none⟩), .int .i64 16, .string f1] (w1.alloc (.cells z16 35)).drew fun e W' => e = .returned (.slice ta tn tc) ∧ ∃ m, (Builtin.copy_ #[22, 22] 3 #[.slice (some ⟨w.heap.size + 1 + 2, 0, none⟩) 16 16, .slice ta tn tc]).run Tryf.prog W' = .ok (goInt m) (W'.setRow (w.heap.size + 3) #[.int .u8 i0, .int .u8 i1, .int .u8 i2, .int .u8 i3, .int .u8 i4, .int .u8 i5, .int .u8 i6, .int .u8 i7, .int .u8 i8, .int .u8 i9, .int .u8 i10, .int .u8 i11, .int .u8 i12, .int .u8 i13, .int .u8 i14, .int .u8 i15]) ∧ Hid (∃ sl1 ev1, p1 sl1 ev1 ∧ Inv w #[.int .u8 i0, .int .u8 i1, .int .u8 i2, .int .u8 i3, .int .u8 i4, .int .u8 i5, .int .u8 i6, .int .u8 i7, .int .u8 i8, .int .u8 i9, .int .u8 i10, .int .u8 i11, .int .u8 i12, .int .u8 i13, .int .u8 i14, .int .u8 i15] (W'.setRow (w.heap.size + 3) #[.int .u8 i0, .int .u8 i1, .int .u8 i2, .int .u8 i3, .int .u8 i4, .int .u8 i5, .int .u8 i6, .int .u8 i7, .int .u8 i8, .int .u8 i9, .int .u8 i10, .int .u8 i11, .int .u8 i12, .int .u8 i13, .int .u8 i14, .int .u8 i15]) sl1 ev1)) := by
    refine (hT _ hI0.drew).mono ?_
    rintro e W' ⟨rfl, sl1, ev1, hp, hi⟩
    obtain ⟨m, hm⟩ := hC W' sl1 ev1 hp hi
    exact ⟨rfl, m, hm, sl1, ev1, hp, hi.row⟩
  have HO : Hid (∀ W sl1 ev1, p1 sl1 ev1 → Inv w #[.int .u8 i0, .int .u8 i1, .int .u8 i2, .int .u8 i3, .int .u8 i4, .int .u8 i5, .int .u8 i6, .int .u8 i7, .int .u8 i8, .int .u8 i9, .int .u8 i10, .int .u8 i11, .int .u8 i12, .int .u8 i13, .int .u8 i14, .int .u8 i15] W sl1 ev1 → Calls Tryf.prog 20 #[.pointer (some ⟨w.heap.size + 2, 0, none⟩), .int .i64 2, .string _] W fun e W' => ∃ da dn dc, e = .returned (.slice da dn dc) ∧ pd (.slice da dn dc) ∧ ∃ sl2 ev2, p2 sl2 ev2 ∧ Inv w #[.int .u8 i0, .int .u8 i1, .int .u8 i2, .int .u8 i3, .int .u8 i4, .int .u8 i5, .int .u8 i6, .int .u8 i7, .int .u8 i8, .int .u8 i9, .int .u8 i10, .int .u8 i11, .int .u8 i12, .int .u8 i13, .int .u8 i14, .int .u8 i15] W' sl2 ev2) := hO
  have HN : Hid (∀ W sl2 ev2, p2 sl2 ev2 → Inv w #[.int .u8 i0, .int .u8 i1, .int .u8 i2, .int .u8 i3, .int .u8 i4, .int .u8 i5, .int .u8 i6, .int .u8 i7, .int .u8 i8, .int .u8 i9, .int .u8 i10, .int .u8 i11, .int .u8 i12, .int .u8 i13, .int .u8 i14, .int .u8 i15] W sl2 ev2 → Calls Tryf.prog 21 #[.pointer (some ⟨w.heap.size + 2, 0, none⟩), .string f2] W fun e W' => e = .returned (.tuple #[]) ∧ ∃ sl3 ev3, p3 ev3 ∧ Inv w #[.int .u8 i0, .int .u8 i1, .int .u8 i2, .int .u8 i3, .int .u8 i4, .int .u8 i5, .int .u8 i6, .int .u8 i7, .int .u8 i8, .int .u8 i9, .int .u8 i10, .int .u8 i11, .int .u8 i12, .int .u8 i13, .int .u8 i14, .int .u8 i15] W' sl3 ev3) := hN
  unfold z16 at HTC
  clear hT hC hO hN hI0 hd1 hb1
  go_wp2
  go_region_with (go_at_call 19; refine HTC.out.mono ?_; rintro e W' ⟨rfl, m, hcp, hiw⟩)
  go_wp2_with fail
  obtain ⟨sl1, ev1, hp1, hi1⟩ := hiw.out
  have HI1 := (HO.out _ sl1 ev1 hp1 hi1)
  clear hp1 hi1
  refine HI1.mono ?_
  rintro e W2 ⟨da, dn, dc, rfl, hpd, sl2, ev2, hp2, hi2⟩
  have HPD : Hid (pd (.slice da dn dc)) := hpd
  have HP2 : Hid (p2 sl2 ev2) := hp2
  clear HI1 hpd hp2
  have HI2 : Hid (Inv w #[.int .u8 i0, .int .u8 i1, .int .u8 i2, .int .u8 i3, .int .u8 i4, .int .u8 i5, .int .u8 i6, .int .u8 i7, .int .u8 i8, .int .u8 i9, .int .u8 i10, .int .u8 i11, .int .u8 i12, .int .u8 i13, .int .u8 i14, .int .u8 i15] W2 sl2 ev2) := hi2
  clear hi2 hiw
  go_wp2_with fail
  refine (HN.out _ sl2 ev2 HP2.out HI2.out).mono ?_
  rintro e W3 ⟨rfl, sl3, ev3, hp3, hi3⟩
  have HP3 : Hid (p3 ev3) := hp3
  clear hp3
  have HI3 : Hid (Inv w #[.int .u8 i0, .int .u8 i1, .int .u8 i2, .int .u8 i3, .int .u8 i4, .int .u8 i5, .int .u8 i6, .int .u8 i7, .int .u8 i8, .int .u8 i9, .int .u8 i10, .int .u8 i11, .int .u8 i12, .int .u8 i13, .int .u8 i14, .int .u8 i15] W3 sl3 ev3) := hi3
  have q1 := hi3.dec.c1
  have q2 := hi3.dec.ce
  clear hi3 HI2
  have ci0 : W3.cell? ⟨w.heap.size + 1 + 2, 0, none⟩ = some (.int .u8 i0) := by rw [cell_of_row _ _ _ _ _ _ HI3.out.id]; rfl
  have ci1 : W3.cell? ⟨w.heap.size + 1 + 2, 1, none⟩ = some (.int .u8 i1) := by rw [cell_of_row _ _ _ _ _ _ HI3.out.id]; rfl
  have ci2 : W3.cell? ⟨w.heap.size + 1 + 2, 2, none⟩ = some (.int .u8 i2) := by rw [cell_of_row _ _ _ _ _ _ HI3.out.id]; rfl
  have ci3 : W3.cell? ⟨w.heap.size + 1 + 2, 3, none⟩ = some (.int .u8 i3) := by rw [cell_of_row _ _ _ _ _ _ HI3.out.id]; rfl
  have ci4 : W3.cell? ⟨w.heap.size + 1 + 2, 4, none⟩ = some (.int .u8 i4) := by rw [cell_of_row _ _ _ _ _ _ HI3.out.id]; rfl
  have ci5 : W3.cell? ⟨w.heap.size + 1 + 2, 5, none⟩ = some (.int .u8 i5) := by rw [cell_of_row _ _ _ _ _ _ HI3.out.id]; rfl
  have ci6 : W3.cell? ⟨w.heap.size + 1 + 2, 6, none⟩ = some (.int .u8 i6) := by rw [cell_of_row _ _ _ _ _ _ HI3.out.id]; rfl
  have ci7 : W3.cell? ⟨w.heap.size + 1 + 2, 7, none⟩ = some (.int .u8 i7) := by rw [cell_of_row _ _ _ _ _ _ HI3.out.id]; rfl
  have ci8 : W3.cell? ⟨w.heap.size + 1 + 2, 8, none⟩ = some (.int .u8 i8) := by rw [cell_of_row _ _ _ _ _ _ HI3.out.id]; rfl
  have ci9 : W3.cell? ⟨w.heap.size + 1 + 2, 9, none⟩ = some (.int .u8 i9) := by rw [cell_of_row _ _ _ _ _ _ HI3.out.id]; rfl
  have ci10 : W3.cell? ⟨w.heap.size + 1 + 2, 10, none⟩ = some (.int .u8 i10) := by rw [cell_of_row _ _ _ _ _ _ HI3.out.id]; rfl
  have ci11 : W3.cell? ⟨w.heap.size + 1 + 2, 11, none⟩ = some (.int .u8 i11) := by rw [cell_of_row _ _ _ _ _ _ HI3.out.id]; rfl
  have ci12 : W3.cell? ⟨w.heap.size + 1 + 2, 12, none⟩ = some (.int .u8 i12) := by rw [cell_of_row _ _ _ _ _ _ HI3.out.id]; rfl
  have ci13 : W3.cell? ⟨w.heap.size + 1 + 2, 13, none⟩ = some (.int .u8 i13) := by rw [cell_of_row _ _ _ _ _ _ HI3.out.id]; rfl
  have ci14 : W3.cell? ⟨w.heap.size + 1 + 2, 14, none⟩ = some (.int .u8 i14) := by rw [cell_of_row _ _ _ _ _ _ HI3.out.id]; rfl
  have ci15 : W3.cell? ⟨w.heap.size + 1 + 2, 15, none⟩ = some (.int .u8 i15) := by rw [cell_of_row _ _ _ _ _ _ HI3.out.id]; rfl
  have cr0 : W3.cell? ⟨w.heap.size, 0, none⟩ = some (.int .u8 0) := by rw [cell_of_row _ _ _ _ _ _ HI3.out.res]; rfl
  have cr1 : W3.cell? ⟨w.heap.size, 1, none⟩ = some (.int .u8 0) := by rw [cell_of_row _ _ _ _ _ _ HI3.out.res]; rfl
  have cr2 : W3.cell? ⟨w.heap.size, 2, none⟩ = some (.int .u8 0) := by rw [cell_of_row _ _ _ _ _ _ HI3.out.res]; rfl
  have cr3 : W3.cell? ⟨w.heap.size, 3, none⟩ = some (.int .u8 0) := by rw [cell_of_row _ _ _ _ _ _ HI3.out.res]; rfl
  have cr4 : W3.cell? ⟨w.heap.size, 4, none⟩ = some (.int .u8 0) := by rw [cell_of_row _ _ _ _ _ _ HI3.out.res]; rfl
  have cr5 : W3.cell? ⟨w.heap.size, 5, none⟩ = some (.int .u8 0) := by rw [cell_of_row _ _ _ _ _ _ HI3.out.res]; rfl
  have cr6 : W3.cell? ⟨w.heap.size, 6, none⟩ = some (.int .u8 0) := by rw [cell_of_row _ _ _ _ _ _ HI3.out.res]; rfl
  have cr7 : W3.cell? ⟨w.heap.size, 7, none⟩ = some (.int .u8 0) := by rw [cell_of_row _ _ _ _ _ _ HI3.out.res]; rfl
  have cr8 : W3.cell? ⟨w.heap.size, 8, none⟩ = some (.int .u8 0) := by rw [cell_of_row _ _ _ _ _ _ HI3.out.res]; rfl
  have cr9 : W3.cell? ⟨w.heap.size, 9, none⟩ = some (.int .u8 0) := by rw [cell_of_row _ _ _ _ _ _ HI3.out.res]; rfl
  have cr10 : W3.cell? ⟨w.heap.size, 10, none⟩ = some (.int .u8 0) := by rw [cell_of_row _ _ _ _ _ _ HI3.out.res]; rfl
  have cr11 : W3.cell? ⟨w.heap.size, 11, none⟩ = some (.int .u8 0) := by rw [cell_of_row _ _ _ _ _ _ HI3.out.res]; rfl
  have cr12 : W3.cell? ⟨w.heap.size, 12, none⟩ = some (.int .u8 0) := by rw [cell_of_row _ _ _ _ _ _ HI3.out.res]; rfl
  have cr13 : W3.cell? ⟨w.heap.size, 13, none⟩ = some (.int .u8 0) := by rw [cell_of_row _ _ _ _ _ _ HI3.out.res]; rfl
  have cr14 : W3.cell? ⟨w.heap.size, 14, none⟩ = some (.int .u8 0) := by rw [cell_of_row _ _ _ _ _ _ HI3.out.res]; rfl
  have cr15 : W3.cell? ⟨w.heap.size, 15, none⟩ = some (.int .u8 0) := by rw [cell_of_row _ _ _ _ _ _ HI3.out.res]; rfl
  have fr0 : W3.frozen? ⟨w.heap.size, 0, none⟩ = false := frozen_of_row _ _ _ _ _ HI3.out.res
  have fr1 : W3.frozen? ⟨w.heap.size, 1, none⟩ = false := frozen_of_row _ _ _ _ _ HI3.out.res
  have fr2 : W3.frozen? ⟨w.heap.size, 2, none⟩ = false := frozen_of_row _ _ _ _ _ HI3.out.res
  have fr3 : W3.frozen? ⟨w.heap.size, 3, none⟩ = false := frozen_of_row _ _ _ _ _ HI3.out.res
  have fr4 : W3.frozen? ⟨w.heap.size, 4, none⟩ = false := frozen_of_row _ _ _ _ _ HI3.out.res
  have fr5 : W3.frozen? ⟨w.heap.size, 5, none⟩ = false := frozen_of_row _ _ _ _ _ HI3.out.res
  have fr6 : W3.frozen? ⟨w.heap.size, 6, none⟩ = false := frozen_of_row _ _ _ _ _ HI3.out.res
  have fr7 : W3.frozen? ⟨w.heap.size, 7, none⟩ = false := frozen_of_row _ _ _ _ _ HI3.out.res
  have fr8 : W3.frozen? ⟨w.heap.size, 8, none⟩ = false := frozen_of_row _ _ _ _ _ HI3.out.res
  have fr9 : W3.frozen? ⟨w.heap.size, 9, none⟩ = false := frozen_of_row _ _ _ _ _ HI3.out.res
  have fr10 : W3.frozen? ⟨w.heap.size, 10, none⟩ = false := frozen_of_row _ _ _ _ _ HI3.out.res
  have fr11 : W3.frozen? ⟨w.heap.size, 11, none⟩ = false := frozen_of_row _ _ _ _ _ HI3.out.res
  have fr12 : W3.frozen? ⟨w.heap.size, 12, none⟩ = false := frozen_of_row _ _ _ _ _ HI3.out.res
  have fr13 : W3.frozen? ⟨w.heap.size, 13, none⟩ = false := frozen_of_row _ _ _ _ _ HI3.out.res
  have fr14 : W3.frozen? ⟨w.heap.size, 14, none⟩ = false := frozen_of_row _ _ _ _ _ HI3.out.res
  have fr15 : W3.frozen? ⟨w.heap.size, 15, none⟩ = false := frozen_of_row _ _ _ _ _ HI3.out.res
  go_wp2
  go_region
  go_wp2
  have hW := heap_set16 W3 w.heap.size (.int .u8 i0) (.int .u8 i1) (.int .u8 i2) (.int .u8 i3) (.int .u8 i4) (.int .u8 i5) (.int .u8 i6) (.int .u8 i7) (.int .u8 i8) (.int .u8 i9) (.int .u8 i10) (.int .u8 i11) (.int .u8 i12) (.int .u8 i13) (.int .u8 i14) (.int .u8 i15) HI3.out.res
  have hBW := below_set16 HI3.out.bel w.heap.size (Nat.le_refl _) (.int .u8 i0) (.int .u8 i1) (.int .u8 i2) (.int .u8 i3) (.int .u8 i4) (.int .u8 i5) (.int .u8 i6) (.int .u8 i7) (.int .u8 i8) (.int .u8 i9) (.int .u8 i10) (.int .u8 i11) (.int .u8 i12) (.int .u8 i13) (.int .u8 i14) (.int .u8 i15)
  change bodyPost _ _ _ _ _ (set16 W3 w.heap.size (.int .u8 i0) (.int .u8 i1) (.int .u8 i2) (.int .u8 i3) (.int .u8 i4) (.int .u8 i5) (.int .u8 i6) (.int .u8 i7) (.int .u8 i8) (.int .u8 i9) (.int .u8 i10) (.int .u8 i11) (.int .u8 i12) (.int .u8 i13) (.int .u8 i14) (.int .u8 i15)).drew
  generalize set16 W3 w.heap.size (.int .u8 i0) (.int .u8 i1) (.int .u8 i2) (.int .u8 i3) (.int .u8 i4) (.int .u8 i5) (.int .u8 i6) (.int .u8 i7) (.int .u8 i8) (.int .u8 i9) (.int .u8 i10) (.int .u8 i11) (.int .u8 i12) (.int .u8 i13) (.int .u8 i14) (.int .u8 i15) = WF at *
  exact bodyPost_ret (v := .tuple #[.agg #[.int .u8 i0, .int .u8 i1, .int .u8 i2, .int .u8 i3, .int .u8 i4, .int .u8 i5, .int .u8 i6, .int .u8 i7, .int .u8 i8, .int .u8 i9, .int .u8 i10, .int .u8 i11, .int .u8 i12, .int .u8 i13, .int .u8 i14, .int .u8 i15], .slice da dn dc, ev3]) (results_row3 (P := Tryf.prog) (fn := Tryf.f18) (p := 6) (u := 7) (v := 8) (ty := 35) rfl _ WF.drew w.heap.size 35 #[.int .u8 i0, .int .u8 i1, .int .u8 i2, .int .u8 i3, .int .u8 i4, .int .u8 i5, .int .u8 i6, .int .u8 i7, .int .u8 i8, .int .u8 i9, .int .u8 i10, .int .u8 i11, .int .u8 i12, .int .u8 i13, .int .u8 i14, .int .u8 i15] (0, 0) _ rfl hW Tryf.underlying35 rfl (by kernel_rfl)) rfl ⟨.slice da dn dc, ev3, HPD.out, HP3.out, rfl, hBW.drew⟩
end Go.Proofs.Qxb6606217aFmt
