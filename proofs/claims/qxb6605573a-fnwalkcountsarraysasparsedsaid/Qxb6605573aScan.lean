/-
  THE READER's STATE IN MEMORY.
-/
import Derived.Test.Qxb6605573aStr
import Derived.Test.Qxb6605573aRow
namespace Go.Proofs.Qxb6605573a
open Go.RowKit

theorem info3 : (Try.prog.info? 3).map (fun i => (i.zero, i.size, i.bytes)) = some (some (.int .i64 0), 1, 8) := by kernel_rfl

def ints (l : List Nat) : List Value := l.map fun (x : Nat) => Value.int .i64 (x : Int)
theorem ints_length (l : List Nat) : (ints l).length = l.length := by simp [ints]
theorem ints_at {l : List Nat} {j : Nat} (h : j < l.length) : (ints l)[j]? = some (.int .i64 ((l.getD j 0 : Nat) : Int)) := by simp [ints, List.getD, h]
theorem ints_snoc (l : List Nat) (z : Nat) : ints l ++ [.int .i64 (z : Int)] = ints (l ++ [z]) := by simp [ints]
theorem ints_set (l : List Nat) (k z : Nat) : (ints l).set k (.int .i64 (z : Int)) = ints (l.set k z) := by simp [ints, List.map_set]

/-- The reader at block mb: the text, the two lists, the count. -/
structure ScanAt (w : World) (mb g cap B : Nat) (S : List UInt8) (A N : List Nat) (cnt : Nat) (av nv : Value) : Prop where
  blk : w.heap[mb]? = some (.cells #[.slice (some ⟨g, 0, none⟩) S.length cap, av, nv, .int .i64 (cnt : Int)] 30 (0, 0))
  row : RowOf w g S
  ats : SRow w B 1 av A.length (ints A)
  ns : SRow w B 1 nv N.length (ints N)
  ne : ∀ k, av.ownBlock = some k → nv.ownBlock ≠ some k
  mB : mb < B
  gB : g < B
  gm : g ≠ mb
  Bw : B ≤ w.heap.size

section
variable {w : World} {mb g cap B : Nat} {S : List UInt8} {A N : List Nat} {cnt : Nat} {av nv : Value}
theorem ScanAt.c0 (h : ScanAt w mb g cap B S A N cnt av nv) : w.cell? ⟨mb, 0, none⟩ = some (.slice (some ⟨g, 0, none⟩) S.length cap) := by rw [cell_of_row _ _ _ _ _ _ h.blk]; rfl
theorem ScanAt.c1 (h : ScanAt w mb g cap B S A N cnt av nv) : w.cell? ⟨mb, 1, none⟩ = some av := by rw [cell_of_row _ _ _ _ _ _ h.blk]; rfl
theorem ScanAt.c2 (h : ScanAt w mb g cap B S A N cnt av nv) : w.cell? ⟨mb, 2, none⟩ = some nv := by rw [cell_of_row _ _ _ _ _ _ h.blk]; rfl
theorem ScanAt.c3 (h : ScanAt w mb g cap B S A N cnt av nv) : w.cell? ⟨mb, 3, none⟩ = some (.int .i64 (cnt : Int)) := by rw [cell_of_row _ _ _ _ _ _ h.blk]; rfl
theorem ScanAt.fz (h : ScanAt w mb g cap B S A N cnt av nv) (j : Nat) : w.frozen? ⟨mb, j, none⟩ = false := frozen_of_row _ _ _ _ _ h.blk
theorem ScanAt.mw (h : ScanAt w mb g cap B S A N cnt av nv) : mb < w.heap.size := Nat.lt_of_lt_of_le h.mB h.Bw

theorem RowOf.of_block {w w' : World} {g : Nat} {S : List UInt8} (h : RowOf w g S) (e : w'.heap[g]? = w.heap[g]?) : RowOf w' g S :=
  fun j hj => (World.cell?_of_block (a := ⟨g, j, none⟩) e).trans (h j hj)

/-- New blocks, and nothing of ours turned. -/
theorem ScanAt.keep {w' : World} (h : ScanAt w mb g cap B S A N cnt av nv) (hb : ∀ k, k < w.heap.size → w'.heap[k]? = w.heap[k]?) (hs : w.heap.size ≤ w'.heap.size) : ScanAt w' mb g cap B S A N cnt av nv :=
  ⟨(hb _ h.mw).trans h.blk, h.row.of_block (hb _ (Nat.lt_of_lt_of_le h.gB h.Bw)), h.ats.keep (fun b e => hb b (h.ats.lt b e).2) hs, h.ns.keep (fun b e => hb b (h.ns.lt b e).2) hs, h.ne, h.mB, h.gB, h.gm, Nat.le_trans h.Bw hs⟩
theorem ScanAt.alloc (h : ScanAt w mb g cap B S A N cnt av nv) (o : Obj) : ScanAt (w.alloc o) mb g cap B S A N cnt av nv :=
  h.keep (fun k hk => Below.heap_alloc w o k hk) (by simp)

/-- behind an append to the first list, ahead of the store -/
theorem ScanAt.mid1 {w1 : World} (h : ScanAt w mb g cap B S A N cnt av nv) (hg : w.grownBy w1 av.ownBlock) : w1.heap[mb]? = some (.cells #[.slice (some ⟨g, 0, none⟩) S.length cap, av, nv, .int .i64 (cnt : Int)] 30 (0, 0)) :=
  (hg.block _ h.mw (fun e => by have := (h.ats.lt mb e.symm).1; have := h.mB; omega)).trans h.blk
theorem ScanAt.mid2 {w1 : World} (h : ScanAt w mb g cap B S A N cnt av nv) (hg : w.grownBy w1 nv.ownBlock) : w1.heap[mb]? = some (.cells #[.slice (some ⟨g, 0, none⟩) S.length cap, av, nv, .int .i64 (cnt : Int)] 30 (0, 0)) :=
  (hg.block _ h.mw (fun e => by have := (h.ns.lt mb e.symm).1; have := h.mB; omega)).trans h.blk

theorem heap_set_other {w : World} {mb j k : Nat} {u : Value} (h : k ≠ mb) : (w.setCell ⟨mb, j, none⟩ u).heap[k]? = w.heap[k]? := Below.heap_setCell w ⟨mb, j, none⟩ u k h

/-- THE FIRST LIST, GROWN AND STORED BACK. -/
theorem ScanAt.grow1 {w1 : World} {k c z : Nat} (h : ScanAt w mb g cap B S A N cnt av nv) (hS : SRow w1 B 1 (.slice (some ⟨k, 0, none⟩) (A.length + 1) c) (A.length + 1) (ints A ++ [.int .i64 (z : Int)])) (hg : w.grownBy w1 av.ownBlock) (hf : av.ownBlock = some k ∨ w.heap.size ≤ k) :
    ScanAt (w1.setCell ⟨mb, 1, none⟩ (.slice (some ⟨k, 0, none⟩) (A.length + 1) c)) mb g cap B S (A ++ [z]) N cnt (.slice (some ⟨k, 0, none⟩) (A.length + 1) c) nv := by
  have hmk : mb ≠ k := fun e => by have := (hS.lt k rfl).1; have := h.mB; omega
  have hgk : some g ≠ av.ownBlock := fun e => by have := (h.ats.lt g e.symm).1; have := h.gB; omega
  have e0 := heap_setCell_same w1 mb 1 _ 30 (.slice (some ⟨k, 0, none⟩) (A.length + 1) c) (h.mid1 hg)
  refine ⟨e0, ?_, ?_, ?_, ?_, h.mB, h.gB, h.gm, by simpa using Nat.le_trans h.Bw hg.size⟩
  · refine (h.row.of_block (w' := w1) (hg.block g (Nat.lt_of_lt_of_le h.gB h.Bw) hgk)).of_block (heap_set_other h.gm)
  · have := hS.keep (w' := w1.setCell ⟨mb, 1, none⟩ (.slice (some ⟨k, 0, none⟩) (A.length + 1) c)) (fun b e => by cases e; exact heap_set_other (fun e => hmk e.symm)) (by simp)
    rw [ints_snoc] at this
    simpa using this
  · refine h.ns.keep (fun b e => ?_) (by simpa using hg.size)
    obtain ⟨hb1, hb2⟩ := h.ns.lt b e
    have hbm : b ≠ mb := fun e' => by have := h.mB; omega
    exact (heap_set_other hbm).trans (hg.block b hb2 (fun e' => h.ne b e'.symm e))
  · intro k' e e'
    cases e
    rcases hf with hf | hf
    · exact h.ne k hf e'
    · have := (h.ns.lt k e').2; omega

/-- THE SECOND LIST, LIKEWISE. -/
theorem ScanAt.grow2 {w1 : World} {k c z : Nat} (h : ScanAt w mb g cap B S A N cnt av nv) (hS : SRow w1 B 1 (.slice (some ⟨k, 0, none⟩) (N.length + 1) c) (N.length + 1) (ints N ++ [.int .i64 (z : Int)])) (hg : w.grownBy w1 nv.ownBlock) (hf : nv.ownBlock = some k ∨ w.heap.size ≤ k) :
    ScanAt (w1.setCell ⟨mb, 2, none⟩ (.slice (some ⟨k, 0, none⟩) (N.length + 1) c)) mb g cap B S A (N ++ [z]) cnt av (.slice (some ⟨k, 0, none⟩) (N.length + 1) c) := by
  have hmk : mb ≠ k := fun e => by have := (hS.lt k rfl).1; have := h.mB; omega
  have hgk : some g ≠ nv.ownBlock := fun e => by have := (h.ns.lt g e.symm).1; have := h.gB; omega
  have e0 := heap_setCell_same w1 mb 2 _ 30 (.slice (some ⟨k, 0, none⟩) (N.length + 1) c) (h.mid2 hg)
  refine ⟨e0, ?_, ?_, ?_, ?_, h.mB, h.gB, h.gm, by simpa using Nat.le_trans h.Bw hg.size⟩
  · refine (h.row.of_block (w' := w1) (hg.block g (Nat.lt_of_lt_of_le h.gB h.Bw) hgk)).of_block (heap_set_other h.gm)
  · refine h.ats.keep (fun b e => ?_) (by simpa using hg.size)
    obtain ⟨hb1, hb2⟩ := h.ats.lt b e
    have hbm : b ≠ mb := fun e' => by have := h.mB; omega
    exact (heap_set_other hbm).trans (hg.block b hb2 (fun e' => h.ne b e e'.symm))
  · have := hS.keep (w' := w1.setCell ⟨mb, 2, none⟩ (.slice (some ⟨k, 0, none⟩) (N.length + 1) c)) (fun b e => by cases e; exact heap_set_other (fun e => hmk e.symm)) (by simp)
    rw [ints_snoc] at this
    simpa using this
  · intro k' e e'
    cases e'
    rcases hf with hf | hf
    · exact h.ne k e hf
    · have := (h.ats.lt k e).2; omega

/-- THE COUNT STORED. -/
theorem ScanAt.count (h : ScanAt w mb g cap B S A N cnt av nv) (c : Nat) : ScanAt (w.setCell ⟨mb, 3, none⟩ (.int .i64 (c : Int))) mb g cap B S A N c av nv := by
  have e0 := heap_setCell_same w mb 3 _ 30 (.int .i64 (c : Int)) h.blk
  refine ⟨e0, h.row.of_block (heap_set_other h.gm), h.ats.keep (fun b e => heap_set_other ?_) (by simp), h.ns.keep (fun b e => heap_set_other ?_) (by simp), h.ne, h.mB, h.gB, h.gm, by simpa using h.Bw⟩
  · have := (h.ats.lt b e).1; have := h.mB; omega
  · have := (h.ns.lt b e).1; have := h.mB; omega

/-- ONE NUMBER OF THE SECOND LIST STORED. -/
theorem ScanAt.setN {k c j z : Nat} (h : ScanAt w mb g cap B S A N cnt av (.slice (some ⟨k, 0, none⟩) N.length c)) (hj : j < N.length) : ScanAt (w.setCell ⟨k, j, none⟩ (.int .i64 (z : Int))) mb g cap B S A (N.set j z) cnt av (.slice (some ⟨k, 0, none⟩) N.length c) := by
  have hk := (h.ns.lt k rfl).1
  have hst := h.ns.stored j (by simpa using hj) (.int .i64 (z : Int))
  rw [ints_set] at hst
  refine ⟨(heap_set_other (by have := h.mB; omega)).trans h.blk, h.row.of_block (heap_set_other (by have := h.gB; omega)), h.ats.keep (fun b e => heap_set_other (fun e' => h.ne b e (by rw [e']; rfl))) (by simp), by simpa using hst, h.ne, h.mB, h.gB, h.gm, by simpa using h.Bw⟩
end

/-- The reader with the entries C. -/
def Scan (w : World) (mb g cap B : Nat) (S : List UInt8) (C : List (Nat × Nat)) : Prop := ∃ av nv, ScanAt w mb g cap B S (C.map (·.1)) (C.map (·.2)) C.length av nv

/-- What the reader's functions leave. 'G p q E': what they found. -/
def Post (G : Nat → List (Nat × Nat) → Prop) (w : World) (mb g cap B : Nat) (S : List UInt8) (C : List (Nat × Nat)) (e : Ending) (w' : World) : Prop :=
  Below mb w w' ∧ (e = .returned (.int .i64 (-1)) ∨ ∃ (q : Nat) (E : List (Nat × Nat)), e = .returned (.int .i64 (q : Int)) ∧ G q E ∧ C.length + E.length ≤ q ∧ Scan w' mb g cap B S (C ++ E))
end Go.Proofs.Qxb6605573a
