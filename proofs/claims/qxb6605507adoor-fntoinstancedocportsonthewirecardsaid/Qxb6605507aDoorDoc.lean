/-
  THE INSTANCE AS THE REGISTRY's, AND AS A DOCUMENT: toRegistry, toInstanceDoc, ZZToInstanceDoc.
-/
import Derived.Test.Qxb6605507aDoorInp
namespace Go.Proofs.Qxb6605507aDoor
open Go.RowKit Go.Maps

/-- A composite literal's law at the operation: its value is known. -/
theorem wpList_build_at {P : Program} (t : TypeId) (w : World) {ops : Array Oper} {rest : List Oper} {o : Oper} {a : Act} {Q : Exit → Act → World → Prop}
    (hg : o.guard = none) (parts : Array (Nat × Operand)) (hop : o.op = Op.build t parts) (v : Value) (hrun : (Instr.build t (parts.map fun (i, x) => (i, a.eval x))).run P w = .ok v w)
    (hK : wpList P ops Q rest (a.put o.dst v) w) : wpList P ops Q (o :: rest) a w := by
  refine wpList_plain hg fun K hK' => ?_
  unfold Oper.wp
  simp only [execOp, hop, hrun, Sem.run_bind, Result.andThen_ok, Sem.run_pure]
  exact hK' _ _ hK

/-- The registry's record, cell by cell. -/
def Inp.reg (i : Inp) (md dc : Option Nat) : Array Value := #[.string i.s0, .string i.s1, .string i.s2, .string i.s3, .string i.s4, .string i.s5, .string i.s6, .string i.s7, .int .i64 i.pn, .bool i.pe, .int .i64 i.sn, .bool i.se, .int .i64 i.ci,
  .string i.c0, .string i.c1, .map dc, .int .i64 i.l0, .int .i64 i.l1, .int .i64 i.l2, .int .i64 i.l3, .int .i64 i.l4, .int .i64 i.l5,
  .map md, .string i.u0, .string i.u1, .string i.u2, .string i.u3, .string i.u4, .string i.u5, .bool i.ic, .int .i64 i.t0, .int .i64 i.t1, .string i.ac, .string ByteArray.empty, .int .i64 0, .bool false]

theorem cells56 : Tryd.prog.cellsOf 56 = 36 := by kernel_rfl

theorem below_setRow' {B : Nat} {a w : World} (h : Below B a w) {g : Nat} (hg : B ≤ g) (cs : Array Value) : Below B a (w.setRow g cs) :=
  ⟨h.os, h.tape, h.output, by rw [size_setRow]; exact h.size, fun k hk => by rw [setRow_other _ _ _ _ (by omega)]; exact h.block k hk⟩

set_option maxRecDepth 100000 in
set_option maxHeartbeats 2000000 in
theorem reg_any (i : Inp) (md dc : Option Nat) (w : World) :
    Calls Tryd.prog 12 #[.agg i.cells, .map md, .map dc] w fun e w' => e = .returned (.agg (i.reg md dc)) ∧ Below w.heap.size w w' := by
  unfold Inp.cells
  go_enter Tryd.func12, Tryd.ntmps12
  go_wp2_with (first
    | (refine wpList_build_at 56 _ rfl _ rfl (.agg (i.reg md dc)) (by kernel_rfl) ?_)
    | (refine wpList_store_row rfl 56 _ _ rfl (w.heap.size + 1) (i.reg md dc) rfl rfl 56 _ (heap_alloc2_new w _ _) (by kernel_rfl) (by kernel_rfl) (by kernel_rfl) ?_))
  refine bodyPost_ret (v := .agg (i.reg md dc)) (results_cell_row (P := Tryd.prog) rfl _ _ (w.heap.size + 1) 56 (i.reg md dc) (0, 0) _ rfl (setRow_heap _ _ _ _ 56 (0, 0) (heap_alloc2_new w _ _)) Tryd.underlying56 rfl (by kernel_rfl)) rfl ⟨rfl, ?_⟩
  exact below_setRow' ((((Below.refl _ _).alloc (Nat.le_refl _) _)).alloc (by simp) _) (by omega) _

/-- The document, cell by cell. -/
def Inp.doc (i : Inp) (p : Nat) (m : Option Nat) : Array Value := #[.string i.s0, .string i.s3, .string i.s1, .string i.s2, .string i.s4, .string i.s5, .string i.s6, .string i.s7, .int .i64 i.pn, .bool i.pe, .int .i64 i.sn, .bool i.se, .int .i64 i.ci,
  .pointer (some ⟨p, 0, none⟩), .int .i64 i.l0, .int .i64 i.l1, .int .i64 i.l2, .int .i64 i.l3, .int .i64 i.l4, .int .i64 i.l5,
  .map m, .string i.u0, .string i.u1, .string i.u2, .string i.u3, .string i.u4, .string i.u5, .bool i.ic, .int .i64 i.t0, .int .i64 i.t1, .string i.ac]

theorem heap3 (w : World) (A B C : Obj) : (((w.alloc A).alloc B).alloc C).heap[w.heap.size + 1]? = some B := by
  rw [Below.heap_alloc _ _ _ (by simp)]; exact heap_alloc2_new w A B
theorem heap4 (w : World) (A B C D : Obj) : ((((w.alloc A).alloc B).alloc C).alloc D).heap[w.heap.size + 1]? = some B := by
  rw [Below.heap_alloc _ _ _ (by simp)]; exact heap3 w A B C

set_option maxRecDepth 100000 in
set_option maxHeartbeats 2000000 in
theorem doc_some (i : Inp) (md : Nat) (dc : Option Nat) (w : World) :
    Calls Tryd.prog 27 #[.agg (i.reg (some md) dc)] w fun e w' => (∃ p m, e = .returned (.agg (i.doc p m))) ∧ Below w.heap.size w w' := by
  unfold Inp.reg
  have hnil := fun w => run_eql_map_nil (P := Tryd.prog) (w := w) 35 9 9 (some md) Tryd.underlying35
  go_enter Tryd.func27, Tryd.ntmps27
  go_wp2_with (first
    | (refine wpList_build_at 47 _ rfl _ rfl (.agg (i.doc (w.heap.size + 2) (some md))) (by kernel_rfl) ?_)
    | (refine wpList_store_row rfl 47 _ _ rfl (w.heap.size + 1) (i.doc (w.heap.size + 2) (some md)) rfl rfl 47 _ (heap3 w _ _ _) (by kernel_rfl) (by kernel_rfl) (by kernel_rfl) ?_))
  refine bodyPost_ret (v := .agg (i.doc (w.heap.size + 2) (some md))) (results_cell_row (P := Tryd.prog) rfl _ _ (w.heap.size + 1) 47 (i.doc (w.heap.size + 2) (some md)) (0, 0) _ rfl (setRow_heap _ _ _ _ 47 (0, 0) (heap3 w _ _ _)) Tryd.underlying47 rfl (by kernel_rfl)) rfl ⟨⟨_, _, rfl⟩, ?_⟩
  exact below_setRow' (((((Below.refl _ _).alloc (Nat.le_refl _) _)).alloc (by simp) _).alloc (by simp; omega) _) (by omega) _

set_option maxRecDepth 100000 in
set_option maxHeartbeats 2000000 in
theorem doc_none (i : Inp) (dc : Option Nat) (w : World) :
    Calls Tryd.prog 27 #[.agg (i.reg none dc)] w fun e w' => (∃ p m, e = .returned (.agg (i.doc p m))) ∧ Below w.heap.size w w' := by
  unfold Inp.reg
  have hnil := fun w => run_eql_map_nil (P := Tryd.prog) (w := w) 35 9 9 none Tryd.underlying35
  have hmm := @run_makeMap Tryd.prog
  go_enter Tryd.func27, Tryd.ntmps27
  go_wp2_with (first
    | (refine wpList_build_at 47 _ rfl _ rfl (.agg (i.doc (w.heap.size + 3) (some (w.heap.size + 2)))) (by kernel_rfl) ?_)
    | (refine wpList_store_row rfl 47 _ _ rfl (w.heap.size + 1) (i.doc (w.heap.size + 3) (some (w.heap.size + 2))) rfl rfl 47 _ (heap4 w _ _ _ _) (by kernel_rfl) (by kernel_rfl) (by kernel_rfl) ?_))
  refine bodyPost_ret (v := .agg (i.doc (w.heap.size + 3) (some (w.heap.size + 2)))) (results_cell_row (P := Tryd.prog) rfl _ _ (w.heap.size + 1) 47 (i.doc (w.heap.size + 3) (some (w.heap.size + 2))) (0, 0) _ rfl (setRow_heap _ _ _ _ 47 (0, 0) (heap4 w _ _ _ _)) Tryd.underlying47 rfl (by kernel_rfl)) rfl ⟨⟨_, _, rfl⟩, ?_⟩
  exact below_setRow' ((((((Below.refl _ _).alloc (Nat.le_refl _) _)).alloc (by simp) _).alloc (by simp; omega) _).alloc (by simp; omega) _) (by omega) _

theorem doc_any (i : Inp) (md dc : Option Nat) (w : World) :
    Calls Tryd.prog 27 #[.agg (i.reg md dc)] w fun e w' => (∃ p m, e = .returned (.agg (i.doc p m))) ∧ Below w.heap.size w w' := by
  cases md with
  | none => exact doc_none i dc w
  | some md => exact doc_some i md dc w
end Go.Proofs.Qxb6605507aDoor
