/-
  ZZToInstanceDoc.
-/
import Derived.Test.Qxb6605507aDoorDoc
namespace Go.Proofs.Qxb6605507aDoor
open Go.RowKit Go.Maps

set_option maxRecDepth 100000 in
set_option maxHeartbeats 2000000 in
theorem zzdoc_any (i : Inp) (md dc : Option Nat) (w : World) :
    Calls Tryd.prog 11 #[.agg (i.reg md dc)] w fun e w' => (∃ p m, e = .returned (.agg (i.doc p m))) ∧ Below w.heap.size w w' := by
  go_enter Tryd.func11, Tryd.ntmps11
  go_wp2_with (refine wpList_load_row rfl 56 _ rfl w.heap.size rfl 56 (i.reg md dc) (0, 0) _ (heap_alloc2_old w _ _) Tryd.underlying56 rfl (by kernel_rfl) ?_)
  refine (doc_any i md dc _).mono ?_
  rintro e w1 ⟨⟨p, m, rfl⟩, hb⟩
  have hh := (hb.block (w.heap.size + 1) (by simp)).trans (heap_alloc2_new w _ _)
  have H1 : Hid (Below w.heap.size w w1) := ((((Below.refl _ _).alloc (Nat.le_refl _) _)).alloc (by simp) _).trans (hb.mono (by simp; omega))
  have HH : Hid (w1.heap[w.heap.size + 1]? = _) := hh
  clear hb hh
  go_wp2_with (refine wpList_store_row rfl 47 _ _ rfl (w.heap.size + 1) (i.doc p m) rfl rfl 47 _ HH.out (by kernel_rfl) (by kernel_rfl) (by kernel_rfl) ?_)
  exact bodyPost_ret (v := .agg (i.doc p m)) (results_cell_row (P := Tryd.prog) rfl _ _ (w.heap.size + 1) 47 (i.doc p m) (0, 0) _ rfl (setRow_heap _ _ _ _ 47 (0, 0) HH.out) Tryd.underlying47 rfl (by kernel_rfl)) rfl ⟨⟨_, _, rfl⟩, below_setRow' H1.out (by omega) _⟩
end Go.Proofs.Qxb6605507aDoor
