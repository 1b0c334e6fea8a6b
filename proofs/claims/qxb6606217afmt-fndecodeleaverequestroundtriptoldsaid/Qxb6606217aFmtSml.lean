/-
  zzBytes, zzClone, zzSame.
-/
import Derived.Test.Qxb6606217aFmtAns
import Derived.BigQuiet
namespace Go.Proofs.Qxb6606217aFmt
open Go.RowKit Go.Extern.Stop Go.Stop Go.Extern

theorem info5 : (Tryf.prog.info? 5).map (fun i => (i.zero, i.size, i.bytes)) = some (some (.int .u8 0), 1, 1) := by kernel_rfl

theorem bytes_any (a0 : Option Addr) (len cap : Nat) (hl : len ≤ 9223372036854775807) (w : World) :
    Calls Tryf.prog 12 #[.slice a0 len cap] w fun e w' => e = .returned (.bool (decide (len ≤ 1048576))) ∧ w = w' := by
  by_cases h : len ≤ 1048576
  · have hb : ¬ (1048576 : Int) < (len : Int) := by omega
    go_enter Tryf.func12, Tryf.ntmps12
    go_wp2
    go_ret
    exact ⟨by simp, rfl⟩
  · have hb : (1048576 : Int) < (len : Int) := by omega
    go_enter Tryf.func12, Tryf.ntmps12
    go_wp2
    go_ret
    exact ⟨by simp [h], rfl⟩

theorem clone_nil (w : World) : Calls Tryf.prog 7 #[.slice none 0 0] w fun e w' => e = .returned (.slice none 0 0) ∧ w = w' := by
  have q22 : ∀ (w : World) (a : Option Addr) (n c n' c' : Nat), (binOp .eql 22 (.slice a n c) (.slice none n' c')).run Tryf.prog w = .ok (.bool a.isNone) w := fun w a n c n' c' => Lib.run_eql_slice_nil w _ _ a n c n' c' Tryf.underlying22
  go_enter Tryf.func7, Tryf.ntmps7
  go_wp2
  go_ret
  exact ⟨rfl, rfl⟩

/-- Two rows alike. -/
theorem same_any (b1 o1 c1 b2 o2 c2 n : Nat) (hn : n ≤ 1048576 * 4) (w : World) (f : Nat → Int) (h1 : ∀ j, j < n → w.cell? ⟨b1, o1 + j, none⟩ = some (.int .u8 (f j))) (h2 : ∀ j, j < n → w.cell? ⟨b2, o2 + j, none⟩ = some (.int .u8 (f j))) (m : Nat) :
    Calls Tryf.prog 14 #[.slice (some ⟨b1, o1, none⟩) n c1, .slice (some ⟨b2, o2, none⟩) n c2] (w.drewN m) fun e w' => e = .returned (.bool true) ∧ ∃ k, w' = w.drewN k := by
  have H1 : Hid (∀ j, j < n → w.cell? ⟨b1, o1 + j, none⟩ = some (.int .u8 (f j))) := h1
  have H2 : Hid (∀ j, j < n → w.cell? ⟨b2, o2 + j, none⟩ = some (.int .u8 (f j))) := h2
  clear h1 h2
  go_enter Tryf.func14, Tryf.ntmps14
  go_wp2
  go_loopw [5] (fun kv wr => ∃ k q : Nat, kv = .int .i64 (k : Int) ∧ k ≤ n ∧ wr = w.drewN q) (fun kv _ => n + 1 - (intOf kv).toNat)
  case atStart => exact ⟨0, m, rfl, Nat.zero_le _, rfl⟩
  case round =>
    obtain ⟨k, q, rfl, hk, rfl⟩ := hrel
    by_cases hkn : k < n
    · have e1 := H1.out k hkn
      have e2 := H2.out k hkn
      have hkb : (k : Int) < (n : Int) := by omega
      go_wp2
      go_quiet (fail)
      go_wp2
      go_roundw
      case rel => exact ⟨k + 1, _, by go_num, by omega, rfl⟩
      case measure => simp [intOf]; omega
    · have hkb : ¬ (k : Int) < (n : Int) := by omega
      go_wp2
      go_ret
      exact ⟨rfl, q, rfl⟩

/-- What clone's loop keeps. -/
def CRel (w : World) (S : List UInt8) (kv : Value) (wr : World) : Prop := ∃ k : Nat, kv = .int .i64 (k : Int) ∧ k ≤ S.length ∧ Below w.heap.size w wr ∧ w.heap.size < wr.heap.size ∧ (∀ j, j < k → wr.cell? ⟨w.heap.size, j, none⟩ = some (.int .u8 ((ch S j : Nat) : Int))) ∧ (∀ j, j < S.length → (∃ v, wr.cell? ⟨w.heap.size, j, none⟩ = some v) ∧ wr.frozen? ⟨w.heap.size, j, none⟩ = false)

theorem clone_any (x : Addr) (cap : Nat) (S : List UInt8) (hl : S.length ≤ 1048576) (w : World) (hc : ∀ j, j < S.length → w.cell? (x.add j) = some (.int .u8 ((ch S j : Nat) : Int))) :
    Calls Tryf.prog 7 #[.slice (some x) S.length cap] w fun e w' => e = .returned (.slice (some ⟨w.heap.size, 0, none⟩) S.length S.length) ∧ Below w.heap.size w w' ∧ RowOf w' w.heap.size S ∧ w.heap.size < w'.heap.size := by
  have q22 : ∀ (w : World) (a : Option Addr) (n c n' c' : Nat), (binOp .eql 22 (.slice a n c) (.slice none n' c')).run Tryf.prog w = .ok (.bool a.isNone) w := fun w a n c n' c' => Lib.run_eql_slice_nil w _ _ a n c n' c' Tryf.underlying22
  obtain ⟨i0, hi, hz0, hz1, hz2⟩ : ∃ i0, Tryf.prog.info? 5 = some i0 ∧ i0.zero = some (.int .u8 0) ∧ i0.size = 1 ∧ i0.bytes = 1 := by
    have h := info5
    cases hq : Tryf.prog.info? 5 with
    | none => rw [hq] at h; cases h
    | some i => rw [hq] at h; simp at h; exact ⟨i, rfl, h.1, h.2.1, h.2.2⟩
  have hmk : ∀ w, (Instr.makeSlice 22 (.int .i64 (S.length : Int)) (.int .i64 (S.length : Int))).run Tryf.prog w = .ok (.slice (some ⟨w.heap.size, 0, none⟩) S.length S.length) (w.alloc (.cells (madeCells #[.int .u8 0] S.length) 5)) := by
    intro w
    have := run_make (P := Tryf.prog) w 22 5 i0 (.int .u8 0) Tryf.underlying22 hi hz0 .i64 .i64 (S.length : Int) (S.length : Int) (by omega) (by omega) (by rw [hz2]; omega) (by omega)
    rw [this, hz1]
    simp [Value.cells]
  have HC : Hid (∀ j, j < S.length → w.cell? (x.add j) = some (.int .u8 ((ch S j : Nat) : Int))) := hc
  have H0 : Hid (CRel w S (.int .i64 0) (w.alloc (.cells (madeCells #[.int .u8 0] S.length) 5))) := by
    refine ⟨0, rfl, Nat.zero_le _, (Below.refl _ _).alloc (Nat.le_refl _) _, by simp, fun j hj => absurd hj (Nat.not_lt_zero _), fun j hj => ⟨?_, frozen_of_row _ _ _ _ _ (heap_alloc_new w _)⟩⟩
    rw [cell_of_row _ _ _ _ _ _ (heap_alloc_new w _)]
    exact ⟨_, Array.getElem?_eq_getElem (by rw [size_madeCells]; exact hj)⟩
  clear hc hi hz0 hz1 hz2
  go_enter Tryf.func7, Tryf.ntmps7
  go_wp2
  go_loopw [4] (fun kv wr => CRel w S kv wr) (fun kv _ => S.length + 1 - (intOf kv).toNat)
  case atStart => exact H0.out
  case round =>
    clear H0
    obtain ⟨k, rfl, hk, hb, hs, hd, ha⟩ := hrel
    have HB : Hid (Below w.heap.size w wr) := hb
    have HD : Hid (∀ j, j < k → wr.cell? ⟨w.heap.size, j, none⟩ = some (.int .u8 ((ch S j : Nat) : Int))) := hd
    have HA : Hid (∀ j, j < S.length → (∃ v, wr.cell? ⟨w.heap.size, j, none⟩ = some v) ∧ wr.frozen? ⟨w.heap.size, j, none⟩ = false) := ha
    clear hb hd ha
    by_cases hkn : k < S.length
    · have e1 : wr.cell? (x.add k) = some (.int .u8 ((ch S k : Nat) : Int)) := by
        have h0 := HC.out k hkn
        exact (HB.out.cell (cell_lt h0)).trans h0
      obtain ⟨⟨v, e2⟩, e3⟩ := HA.out k hkn
      have hkb : (k : Int) < (S.length : Int) := by omega
      have HN : Hid (CRel w S (.int .i64 ((k + 1 : Nat) : Int)) (wr.setCell ⟨w.heap.size, k, none⟩ (.int .u8 ((ch S k : Nat) : Int)))) := by
        refine ⟨k + 1, rfl, by omega, HB.out.setCell (p := ⟨w.heap.size, k, none⟩) (Nat.le_refl _) _, by simpa using hs, ?_, ?_⟩
        · intro j hj
          by_cases hjk : j = k
          · subst hjk
            exact World.cell?_setCell_same wr ⟨w.heap.size, j, none⟩ _ e2
          · refine (World.cell?_setCell_other wr ⟨w.heap.size, k, none⟩ ⟨w.heap.size, j, none⟩ _ (fun e => hjk (by cases e; rfl))).trans (HD.out j (by omega))
        · intro j hj
          obtain ⟨⟨v', h1⟩, h2⟩ := HA.out j hj
          refine ⟨?_, by simpa using h2⟩
          obtain ⟨u, hu⟩ := cell?_setCell_some (w := wr) (p := ⟨w.heap.size, k, none⟩) (x := .int .u8 ((ch S k : Nat) : Int)) (q := ⟨w.heap.size, j, none⟩) (v := v') h1
          exact ⟨u, hu⟩
      go_wp2
      go_roundw
      case rel =>
        have := HN.out
        rw [show ((k + 1 : Nat) : Int) = (k : Int) + 1 by omega] at this
        exact this
      case measure => simp [intOf]; omega
    · have hkb : ¬ (k : Int) < (S.length : Int) := by omega
      go_wp2
      go_ret
      exact ⟨rfl, HB.out, fun j hj => HD.out j (by omega), hs⟩
end Go.Proofs.Qxb6606217aFmt
