/-
  THE SMALL FUNCTIONS ON THE ROAD.
-/
import Derived.Test.Qxb6605573aWk
import Derived.Laws.CopyOwn
import Derived.BigQuiet
import Derived.Deep.WholeRow
namespace Go.Proofs.Qxb6605573a
open Go.RowKit

theorem info5 : (Try.prog.info? 5).map (fun i => (i.zero, i.size, i.bytes)) = some (some (.int .u8 0), 1, 1) := by kernel_rfl

theorem bytes_any (a0 : Option Addr) (len cap : Nat) (hl : len ≤ 9223372036854775807) (p1 p2 p3 p4 p5 : Value) (w : World) :
    Calls Try.prog 17 #[.slice a0 len cap, p1, p2, p3, p4, p5] w fun e w' => e = .returned (.bool (decide (len ≤ 1048576))) ∧ w = w' := by
  by_cases h : len ≤ 1048576
  · have hb : ¬ (1048576 : Int) < (len : Int) := by omega
    go_enter Try.func17, Try.ntmps17
    go_wp2
    go_ret
    exact ⟨by simp, rfl⟩
  · have hb : (1048576 : Int) < (len : Int) := by omega
    go_enter Try.func17, Try.ntmps17
    go_wp2
    go_ret
    exact ⟨by simp [h], rfl⟩

def bytesV (S : List UInt8) : List Value := S.map fun b => Value.int .u8 ((b.toNat : Nat) : Int)
theorem bytesV_length (S : List UInt8) : (bytesV S).length = S.length := by simp [bytesV]
theorem bytesV_at {S : List UInt8} {j : Nat} (h : j < S.length) : (bytesV S)[j]? = some (.int .u8 ((ch S j : Nat) : Int)) := by simp [bytesV, ch, List.getD, h]

theorem clone_any (x : Addr) (len cap : Nat) (S : List UInt8) (hS : S.length = len) (hl : len ≤ 1048576) (w : World) (hc : ∀ j, j < S.length → w.cell? (x.add j) = some (.int .u8 ((ch S j : Nat) : Int))) (hxw : 0 < len → x.block < w.heap.size) :
    Calls Try.prog 8 #[.slice (some x) len cap] w fun e w' => e = .returned (.slice (some ⟨w.heap.size, 0, none⟩) len len) ∧ Below w.heap.size w w' ∧ RowOf w' w.heap.size S ∧ w.heap.size < w'.heap.size := by
  obtain ⟨i0, hi, hz0, hz1, hz2⟩ := info_parts info5
  have HC : Hid (∀ j, j < S.length → w.cell? (x.add j) = some (.int .u8 ((ch S j : Nat) : Int))) := hc
  clear hc
  have q22 : ∀ (w : World) (a : Option Addr) (n c n' c' : Nat), (binOp .eql 22 (.slice a n c) (.slice none n' c')).run Try.prog w = .ok (.bool a.isNone) w := fun w a n c n' c' => Lib.run_eql_slice_nil w _ _ a n c n' c' Try.underlying22
  have hmk : ∀ w, (Instr.makeSlice 22 (.int .i64 (len : Int)) (.int .i64 (len : Int))).run Try.prog w = .ok (.slice (some ⟨w.heap.size, 0, none⟩) len len) (w.alloc (.cells (madeCells #[.int .u8 0] len) 5)) := by
    intro w
    have := run_make (P := Try.prog) w 22 5 i0 (.int .u8 0) Try.underlying22 hi hz0 .i64 .i64 (len : Int) (len : Int) (by omega) (by omega) (by rw [hz2]; omega) (by omega)
    rw [this, hz1]
    simp [Value.cells]
  have hcp : (Builtin.copy_ #[22, 22] 3 #[.slice (some ⟨w.heap.size, 0, none⟩) len len, .slice (some x) len cap]).run Try.prog (w.alloc (.cells (madeCells #[.int .u8 0] len) 5)) = .ok (goInt (bytesV S).length) (w.alloc (.cells (bytesV S).toArray 5)) := by
    have := run_copy_row (P := Try.prog) (w.alloc (.cells (madeCells #[.int .u8 0] len) 5)) 22 22 3 5 w.heap.size 0 len len x len cap (madeCells #[.int .u8 0] len) 5 (bytesV S) Try.underlying22 (by rw [hi]; simp [hz1]) (heap_alloc_new w _) (by rw [bytesV_length, hS]; simp) (by
      intro j v hv
      have hj : j < S.length := by
        rw [← bytesV_length S]
        exact (List.getElem?_eq_some_iff.1 hv).1
      rw [bytesV_at hj] at hv
      cases hv
      exact (World.cell?_of_block (a := x.add j) (Below.heap_alloc w _ _ (by have := hxw (by omega); unfold Addr.add; split <;> exact this))).trans (HC.out j hj)) (by simp [madeCells, bytesV_length]; omega) (by intro v hv; simp [bytesV] at hv; obtain ⟨_, _, rfl⟩ := hv; rfl)
    rw [this, World.setRow_alloc_new]
    congr 3
    simp [madeCells, bytesV_length, hS]
  have HB : Hid (Below w.heap.size w (w.alloc (.cells (bytesV S).toArray 5))) := (Below.refl _ _).alloc (Nat.le_refl _) _
  have HR : Hid (RowOf (w.alloc (.cells (bytesV S).toArray 5)) w.heap.size S) := fun j hj => by
    rw [cell_of_row _ _ _ _ _ _ (heap_alloc_new w _)]
    have := bytesV_at hj
    simpa using this
  clear hi hz0 hz1 hz2
  go_enter Try.func8, Try.ntmps8
  go_wp2
  go_ret
  exact ⟨rfl, HB.out, HR.out, by simp⟩

theorem new_any (s : Value) (p q : Int) (b : Bool) (hs : ∃ a n c, s = .slice a n c) (w : World) :
    Calls Try.prog 15 #[s, .int .i64 p, .bool b, .int .i64 q] w fun e w' => e = .returned (.pointer (some ⟨w.heap.size, 0, none⟩)) ∧ w.alloc (.cells #[s, .int .i64 p, .bool b, .slice none 0 0, .int .i64 q] 46) = w' := by
  obtain ⟨a, n, c, rfl⟩ := hs
  have hb : ∀ w, (Instr.build 46 #[(0, .slice a n c), (1, .int .i64 p), (2, .bool b), (4, .int .i64 q)]).run Try.prog w = .ok (.agg #[.slice a n c, .int .i64 p, .bool b, .slice none 0 0, .int .i64 q]) w := fun w => by kernel_rfl
  go_enter Try.func15, Try.ntmps15
  go_wp2
  go_ret
  exact ⟨rfl, rfl⟩

theorem walkdoor_any (d : Option Addr) (st : Int) (b : Bool) (w : World) (Q : Ending → World → Prop) (a1 a2 : Int) (h : Calls Try.prog 31 #[.pointer d, .int .i64 st, .bool b] w fun e w' => e = .returned (.tuple #[.int .i64 a1, .int .i64 a2]) ∧ Q e w') :
    Calls Try.prog 19 #[.pointer d, .int .i64 st, .bool b] w fun e w' => e = .returned (.tuple #[.int .i64 a1, .int .i64 a2]) ∧ Q e w' := by
  go_enter Try.func19, Try.ntmps19
  go_wp2_with fail
  refine h.mono ?_
  rintro e w' ⟨rfl, hq⟩
  go_wp2
  go_ret2
  exact ⟨rfl, hq⟩

theorem len_any (db : Nat) (a : Option Addr) (n c : Nat) (w : World) (hc : w.cell? ⟨db, 3, none⟩ = some (.slice a n c)) :
    Calls Try.prog 20 #[.pointer (some ⟨db, 0, none⟩)] w fun e w' => e = .returned (.int .i64 (n : Int)) ∧ w = w' := by
  go_enter Try.func20, Try.ntmps20
  go_wp2
  go_ret
  exact ⟨rfl, rfl⟩

theorem at_any (db gc n c k : Nat) (hk : k < n) (x y : Int) (w : World) (hc : w.cell? ⟨db, 3, none⟩ = some (.slice (some ⟨gc, 0, none⟩) n c)) (hx : w.cell? ⟨gc, k * 2, none⟩ = some (.int .i64 x)) (hy : w.cell? ⟨gc, k * 2 + 1, none⟩ = some (.int .i64 y)) :
    Calls Try.prog 21 #[.pointer (some ⟨db, 0, none⟩), .int .i64 (k : Int)] w fun e w' => e = .returned (.tuple #[.int .i64 x, .int .i64 y]) ∧ w.drew = w' := by
  have hkb : (k : Int) < (n : Int) := by omega
  go_enter Try.func21, Try.ntmps21
  go_wp2
  go_region
  go_wp2
  go_ret2
  exact ⟨rfl, rfl⟩
end Go.Proofs.Qxb6605573a
