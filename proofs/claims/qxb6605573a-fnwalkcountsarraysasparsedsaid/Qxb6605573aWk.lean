/-
  THE DECODER's STATE IN MEMORY WHILE 'walk' GOES.
-/
import Derived.Test.Qxb6605573aArr
namespace Go.Proofs.Qxb6605573a
open Go.RowKit

theorem info49 : (Try.prog.info? 49).map (fun i => (i.zero, i.size, i.bytes)) = some (some (.agg #[.int .i64 0, .int .i64 0]), 2, 16) := by kernel_rfl

def intsZ (l : List Int) : List Value := l.map (Value.int .i64)
def stk (st : List Int) : List Value := intsZ st.reverse
theorem stk_length (st : List Int) : (stk st).length = st.length := by simp [stk, intsZ]
theorem stk_push (st : List Int) (x : Int) : stk st ++ [.int .i64 x] = stk (x :: st) := by simp [stk, intsZ]
theorem stk_top (t : Int) (st : List Int) : (stk (t :: st))[st.length]? = some (.int .i64 t) := by simp [stk, intsZ]
theorem stk_pop (t : Int) (st : List Int) : (stk (t :: st)).take st.length = stk st := by
  rw [← stk_push]
  have : (stk st).length = st.length := stk_length st
  rw [← this, List.take_left]

def pairs (D : List (Nat × Nat)) : List Value := D.flatMap fun x => [.int .i64 (x.1 : Int), .int .i64 (x.2 : Int)]
theorem pairs_length (D : List (Nat × Nat)) : (pairs D).length = D.length * 2 := by
  induction D with
  | nil => rfl
  | cons x D ih => simp only [pairs, List.flatMap_cons, List.length_append, List.length_cons, List.length_nil] at *; omega
theorem pairs_snoc (D : List (Nat × Nat)) (a n : Nat) : pairs D ++ [.int .i64 (a : Int), .int .i64 (n : Int)] = pairs (D ++ [(a, n)]) := by simp [pairs]
theorem pairs_at (D : List (Nat × Nat)) (k : Nat) (h : k < D.length) : (pairs D)[k * 2]? = some (.int .i64 ((D.getD k (0, 0)).1 : Int)) ∧ (pairs D)[k * 2 + 1]? = some (.int .i64 ((D.getD k (0, 0)).2 : Int)) := by
  induction D generalizing k with
  | nil => simp at h
  | cons x D ih =>
    have e : pairs (x :: D) = .int .i64 (x.1 : Int) :: .int .i64 (x.2 : Int) :: pairs D := rfl
    rw [e]
    cases k with
    | zero => exact ⟨rfl, rfl⟩
    | succ k =>
      have := ih k (by simpa using h)
      rw [show (k + 1) * 2 = k * 2 + 2 by omega]
      simpa using this
theorem pairs_set (D : List (Nat × Nat)) (k : Nat) (z : Nat) (h : k < D.length) : (pairs D).set (k * 2 + 1) (.int .i64 (z : Int)) = pairs (D.set k ((D.getD k (0, 0)).1, z)) := by
  induction D generalizing k with
  | nil => simp at h
  | cons x D ih =>
    have e : pairs (x :: D) = .int .i64 (x.1 : Int) :: .int .i64 (x.2 : Int) :: pairs D := rfl
    rw [e]
    cases k with
    | zero => rfl
    | succ k =>
      have := ih k (by simpa using h)
      rw [show (k + 1) * 2 + 1 = k * 2 + 1 + 2 by omega]
      simp only [List.set_cons_succ, this]
      rfl
theorem bump_length (D : List (Nat × Nat)) (k : Nat) : (bump D k).length = D.length := by simp [bump]
theorem pairs_bump (D : List (Nat × Nat)) (k : Nat) (h : k < D.length) : (pairs D).set (k * 2 + 1) (.int .i64 (((D.getD k (0, 0)).2 + 1 : Nat) : Int)) = pairs (bump D k) := by
  rw [pairs_set D k _ h]; rfl

/-- An owned slice cut by its last element. -/
theorem SRow.pop {w : World} {B g cap n : Nat} {xs : List Value} (h : SRow w B 1 (.slice (some ⟨g, 0, none⟩) (n + 1) cap) (n + 1) xs) : SRow w B 1 (.slice (some ⟨g, 0, none⟩) n cap) n (xs.take n) := by
  obtain ⟨hl, ⟨h0, _⟩ | ⟨g', cap', hv, hB, hg, hn, hth, hc⟩⟩ := h
  · cases h0
  · cases hv
    exact ⟨by rw [List.length_take, hl]; omega, .inr ⟨g, cap, rfl, hB, hg, by omega, hth, fun j u hu => hc j u (by
      rw [List.getElem?_take] at hu
      split at hu
      · exact hu
      · cases hu)⟩⟩

structure WkAt (w : World) (db g cap B : Nat) (S : List UInt8) (pos : Int) (esc : Bool) (sca : Int) (st : List Int) (D : List (Nat × Nat)) (go co : Nat) (cv : Value) : Prop where
  blk : w.heap[db]? = some (.cells #[.slice (some ⟨g, 0, none⟩) S.length cap, .int .i64 pos, .bool esc, cv, .int .i64 sca] 46 (0, 0))
  row : RowOf w g S
  opn : SRow w B 1 (.slice (some ⟨go, 0, none⟩) st.length co) st.length (stk st)
  cnt : SRow w B 2 cv D.length (pairs D)
  ne : cv.ownBlock ≠ some go
  dB : db < B
  gB : g < B
  gd : g ≠ db
  Bw : B ≤ w.heap.size

section
variable {w : World} {db g cap B : Nat} {S : List UInt8} {pos : Int} {esc : Bool} {sca : Int} {st : List Int} {D : List (Nat × Nat)} {go co : Nat} {cv : Value}
theorem WkAt.c0 (h : WkAt w db g cap B S pos esc sca st D go co cv) : w.cell? ⟨db, 0, none⟩ = some (.slice (some ⟨g, 0, none⟩) S.length cap) := by rw [cell_of_row _ _ _ _ _ _ h.blk]; rfl
theorem WkAt.c3 (h : WkAt w db g cap B S pos esc sca st D go co cv) : w.cell? ⟨db, 3, none⟩ = some cv := by rw [cell_of_row _ _ _ _ _ _ h.blk]; rfl
theorem WkAt.f3 (h : WkAt w db g cap B S pos esc sca st D go co cv) : w.frozen? ⟨db, 3, none⟩ = false := frozen_of_row _ _ _ _ _ h.blk
theorem WkAt.dw (h : WkAt w db g cap B S pos esc sca st D go co cv) : db < w.heap.size := Nat.lt_of_lt_of_le h.dB h.Bw
theorem WkAt.keep {w' : World} (h : WkAt w db g cap B S pos esc sca st D go co cv) (hb : ∀ k, k < w.heap.size → w'.heap[k]? = w.heap[k]?) (hs : w.heap.size ≤ w'.heap.size) : WkAt w' db g cap B S pos esc sca st D go co cv :=
  ⟨(hb _ h.dw).trans h.blk, h.row.of_block (hb _ (Nat.lt_of_lt_of_le h.gB h.Bw)), h.opn.keep (fun b e => hb b (h.opn.lt b e).2) hs, h.cnt.keep (fun b e => hb b (h.cnt.lt b e).2) hs, h.ne, h.dB, h.gB, h.gd, Nat.le_trans h.Bw hs⟩
theorem WkAt.alloc (h : WkAt w db g cap B S pos esc sca st D go co cv) (o : Obj) : WkAt (w.alloc o) db g cap B S pos esc sca st D go co cv :=
  h.keep (fun k hk => Below.heap_alloc w o k hk) (by simp)

/-- THE STACK GROWN. -/
theorem WkAt.push {w1 : World} {k c : Nat} {x : Int} (h : WkAt w db g cap B S pos esc sca st D go co cv) (hS : SRow w1 B 1 (.slice (some ⟨k, 0, none⟩) (st.length + 1) c) (st.length + 1) (stk st ++ [.int .i64 x])) (hg : w.grownBy w1 (some go)) (hf : some go = some k ∨ w.heap.size ≤ k) :
    WkAt w1 db g cap B S pos esc sca (x :: st) D k c cv := by
  have hgo := h.opn.lt go rfl
  refine ⟨(hg.block _ h.dw (fun e => by have := h.dB; simp at e; omega)).trans h.blk, h.row.of_block (hg.block g (Nat.lt_of_lt_of_le h.gB h.Bw) (fun e => by have := h.gB; simp at e; omega)), ?_, ?_, ?_, h.dB, h.gB, h.gd, Nat.le_trans h.Bw hg.size⟩
  · rw [stk_push] at hS; exact hS
  · exact h.cnt.keep (fun b e => hg.block b (h.cnt.lt b e).2 (fun e' => h.ne (by rw [e, e']))) hg.size
  · intro e
    rcases hf with hf | hf
    · cases hf; exact h.ne e
    · have := (h.cnt.lt k e).2; omega
theorem WkAt.pop {t : Int} (h : WkAt w db g cap B S pos esc sca (t :: st) D go co cv) : WkAt w db g cap B S pos esc sca st D go co cv := by
  refine ⟨h.blk, h.row, ?_, h.cnt, h.ne, h.dB, h.gB, h.gd, h.Bw⟩
  have := SRow.pop (n := st.length) h.opn
  rw [stk_pop] at this
  exact this
theorem WkAt.mid {w1 : World} (h : WkAt w db g cap B S pos esc sca st D go co cv) (hg : w.grownBy w1 cv.ownBlock) : w1.heap[db]? = some (.cells #[.slice (some ⟨g, 0, none⟩) S.length cap, .int .i64 pos, .bool esc, cv, .int .i64 sca] 46 (0, 0)) :=
  (hg.block _ h.dw (fun e => by have := (h.cnt.lt db e.symm).1; have := h.dB; omega)).trans h.blk
/-- THE COUNTS GROWN AND STORED BACK. -/
theorem WkAt.grow {w1 : World} {k c a n : Nat} (h : WkAt w db g cap B S pos esc sca st D go co cv) (hS : SRow w1 B 2 (.slice (some ⟨k, 0, none⟩) (D.length + 1) c) (D.length + 1) (pairs D ++ [.int .i64 (a : Int), .int .i64 (n : Int)])) (hg : w.grownBy w1 cv.ownBlock) (hf : cv.ownBlock = some k ∨ w.heap.size ≤ k) :
    WkAt (w1.setCell ⟨db, 3, none⟩ (.slice (some ⟨k, 0, none⟩) (D.length + 1) c)) db g cap B S pos esc sca st (D ++ [(a, n)]) go co (.slice (some ⟨k, 0, none⟩) (D.length + 1) c) := by
  have hdk : db ≠ k := fun e => by have := (hS.lt k rfl).1; have := h.dB; omega
  have hgo := h.opn.lt go rfl
  have e0 := heap_setCell_same w1 db 3 _ 46 (.slice (some ⟨k, 0, none⟩) (D.length + 1) c) (h.mid hg)
  refine ⟨e0, ?_, ?_, ?_, ?_, h.dB, h.gB, h.gd, by simpa using Nat.le_trans h.Bw hg.size⟩
  · exact (h.row.of_block (w' := w1) (hg.block g (Nat.lt_of_lt_of_le h.gB h.Bw) (fun e => by have := (h.cnt.lt g e.symm).1; have := h.gB; omega))).of_block (heap_set_other h.gd)
  · refine h.opn.keep (fun b e => ?_) (by simpa using hg.size)
    cases e
    exact (heap_set_other (show go ≠ db by have := h.dB; omega)).trans (hg.block go hgo.2 (fun e' => h.ne e'.symm))
  · have := hS.keep (w' := w1.setCell ⟨db, 3, none⟩ (.slice (some ⟨k, 0, none⟩) (D.length + 1) c)) (fun b e => by cases e; exact heap_set_other (fun e => hdk e.symm)) (by simp)
    rw [pairs_snoc] at this
    simpa using this
  · intro e
    have hek : k = go := by simpa [Value.ownBlock] using e
    subst hek
    rcases hf with hf | hf
    · exact h.ne hf
    · omega
/-- ONE COUNT RAISED. -/
theorem WkAt.raise {k c j : Nat} (h : WkAt w db g cap B S pos esc sca st D go co (.slice (some ⟨k, 0, none⟩) D.length c)) (hj : j < D.length) : WkAt (w.setCell ⟨k, j * 2 + 1, none⟩ (.int .i64 (((D.getD j (0, 0)).2 + 1 : Nat) : Int))) db g cap B S pos esc sca st (bump D j) go co (.slice (some ⟨k, 0, none⟩) D.length c) := by
  have hk := (h.cnt.lt k rfl).1
  have hst := h.cnt.stored (j * 2 + 1) (by omega) (.int .i64 (((D.getD j (0, 0)).2 + 1 : Nat) : Int))
  rw [pairs_bump D j hj] at hst
  refine ⟨(heap_set_other (by have := h.dB; omega)).trans h.blk, h.row.of_block (heap_set_other (by have := h.gB; omega)), h.opn.keep (fun b e => by cases e; exact heap_set_other (fun e' => h.ne (by rw [show go = k from e']; rfl))) (by simp), by rw [bump_length]; exact hst, h.ne, h.dB, h.gB, h.gd, by simpa using h.Bw⟩
end

theorem two_cell (w : World) (a b : Int) : ∀ j u, [Value.int .i64 a, Value.int .i64 b][j]? = some u → (w.alloc (.cells #[.int .i64 a, .int .i64 b] 49)).cell? ((⟨w.heap.size, 0, none⟩ : Addr).add j) = some u := by
  intro j u hj
  match j, hj with
  | 0, hj => simp at hj; subst hj; simp [Addr.add]
  | 1, hj => simp at hj; subst hj; simp [Addr.add]

/-- 'append(counts, arrayCount{a, n})'. -/
theorem appC (w : World) (x y : Int) {ops : Array Oper} {rest : List Oper} {o : Oper} {a : Act} {Q : Exit → Act → World → Prop}
    (hg : o.guard = none) (s v : Operand) (hop : o.op = Op.call { callee := Callee.builtin Builtin.append, args := #[s, v], argTypes := #[44, 44] })
    (B n : Nat) (xs : List Value) (ao : Option Addr) (c : Nat) (hs : a.eval s = .slice ao n c) (hr : SRow w B 2 (.slice ao n c) n xs) (k : Nat) (hx : a.eval v = .slice (some ⟨k, 0, none⟩) 1 1) (hk : k = w.heap.size) (hn : n ≤ 4000000) (hB : B ≤ w.heap.size)
    (hK : ∀ g cap w', SRow w' B 2 (.slice (some ⟨g, 0, none⟩) (n + 1) cap) (n + 1) (xs ++ [.int .i64 x, .int .i64 y]) → (w.alloc (.cells #[.int .i64 x, .int .i64 y] 49)).grownBy w' (Value.slice ao n c).ownBlock → ((Value.slice ao n c).ownBlock = some g ∨ (w.alloc (.cells #[.int .i64 x, .int .i64 y] 49)).heap.size ≤ g) → wpList Try.prog ops Q rest (a.put o.dst (.slice (some ⟨g, 0, none⟩) (n + 1) cap)) w') :
    wpList Try.prog ops Q (o :: rest) a (w.alloc (.cells #[.int .i64 x, .int .i64 y] 49)) := by
  obtain ⟨i0, hi, hz0, hz1, hz2⟩ := info_parts info49
  subst hk
  refine appS _ hg s v 44 hop 49 i0 (.agg #[.int .i64 0, .int .i64 0]) 2 16 Try.underlying44 hi hz0 hz1 hz2 rfl (by decide) B _ n xs hs (hr.keep (fun b e => Below.heap_alloc w _ b (hr.lt b e).2) (by simp)) ⟨w.heap.size, 0, none⟩ 1 [.int .i64 x, .int .i64 y] hx rfl (two_cell w x y) (by intro u hu; simp at hu; rcases hu with rfl | rfl <;> rfl) (by unfold maxLen; omega) (by omega) (by simp; omega) hK
end Go.Proofs.Qxb6605573a
