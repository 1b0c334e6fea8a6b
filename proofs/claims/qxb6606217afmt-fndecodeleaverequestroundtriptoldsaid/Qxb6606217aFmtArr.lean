/-
  TWO ARRAYS OF 16 BYTES COMPARED; SO MANY CELLS LOADED.
-/
import Derived.Test.Qxb6606217aFmtChecked
import Derived.ChangeKeysEq
import Derived.Laws.StructEq
import Derived.KernelRfl
import Derived.Laws.Rows
namespace Go.Proofs.Qxb6606217aFmt
theorem items16 (d : Nat) (xs : Array Value) (w : World) : ∀ is : List Nat, (∀ i ∈ is, ∃ n, xs[i]? = some (.int .u8 n)) → (Op.eqItems (d + 1) 5 1 xs xs is).run Tryf.prog w = .ok true w
  | [], _ => by simp [Op.eqItems]
  | i :: is, h => by
    obtain ⟨n, hn⟩ := h i (by simp)
    have ih := items16 d xs w is (fun j hj => h j (by simp [hj]))
    simp only [Op.eqItems, Sem.run_bind, Nat.mul_one, run_part_plain w (P := Tryf.prog) (e := 5) (by kernel_rfl) hn, Result.andThen_ok, run_equalIn_int (P := Tryf.prog) w d 5 .u8 .u8 n n Tryf.underlying5]
    simpa using ih
theorem cells5 : Tryf.prog.cellsOf 5 = 1 := by kernel_rfl
theorem neq35 (xs : Array Value) (h : ∀ i, i < 16 → ∃ n, xs[i]? = some (.int .u8 n)) (w : World) : (binOp .neq 35 (.agg xs) (.agg xs)).run Tryf.prog w = .ok (.bool false) w := by
  rw [run_neq_struct]
  have hs : (Tryf.prog.info? 5).isSome = true := by kernel_rfl
  cases hq : Tryf.prog.info? 5 with
  | none => rw [hq] at hs; cases hs
  | some i =>
  rw [run_equalIn_array (P := Tryf.prog) w 9999 xs xs Tryf.underlying35 hq, cells5, items16 9998 xs w _ (fun i hi => h i (by simpa using hi))]
  rfl

theorem run_loadVar_cells {P : Program} (w : World) (a : Addr) (ty : TypeId) (cs : Array Value) (d : TypeDesc) (hg : ∀ j v, cs[j]? = some v → w.cell? (a.add j) = some v)
    (hu : P.underlying ty = some d) (hd : (match d with | .struct _ | .array _ _ => true | _ => false) = true) (hi : (P.info? ty).map (·.size) = some cs.size) :
    (loadVar ty a).run P w = .ok (.agg cs) w := by
  have hl : (loadCells a cs.toList.length).run P w = .ok cs.toList.toArray w :=
    run_loadCells_list (P := P) w a cs.toList (fun j v hv => hg j v (by simpa using hv))
  cases hq : P.info? ty with
  | none => simp [hq] at hi
  | some i =>
    have hs : i.size = cs.size := by simpa [hq] using hi
    have hagg : (isAgg ty).run P w = .ok true w := by
      unfold isAgg
      rw [Sem.run_bind, run_underlying hu w]
      cases d <;> simp_all
    simp only [Array.length_toList, Array.toArray_toList] at hl
    simp [loadVar, Sem.run_bind, hagg, sizeOf, typeInfo, hq, hs, hl]
theorem wpList_load_cells {P : Program} {ops : Array Oper} {rest : List Oper} {o : Oper} {a : Act} {w : World} {Q : Exit → Act → World → Prop} (hgd : o.guard = none) (ty : TypeId) (x : Operand) (ho : o.op = .load ty x)
    (g : Addr) (hx : a.eval x = .pointer (some g)) (cs : Array Value) (d : TypeDesc) (hg : ∀ j v, cs[j]? = some v → w.cell? (g.add j) = some v)
    (hu : P.underlying ty = some d) (hd : (match d with | .struct _ | .array _ _ => true | _ => false) = true) (hi : (P.info? ty).map (·.size) = some cs.size)
    (h : wpList P ops Q rest (a.put o.dst (.agg cs)) w) : wpList P ops Q (o :: rest) a w :=
  wpList_plain hgd fun _ hK => by
    unfold Oper.wp execOp
    simp only [ho, hx, Instr.loadAt, Instr.sureAddr, Sem.run_bind, Sem.run_pure, Result.andThen_ok, run_loadVar_cells w g ty cs d hg hu hd hi]
    exact hK _ _ h
end Go.Proofs.Qxb6606217aFmt
