/-
  fmt's CALLS ON THE ROAD.
-/
import Derived.Test.Qxb6606217aFmtFacts
import Derived.WalkKit
import Derived.WalkSpells
import Derived.Stop.Texts
import Derived.BigRegion
import Derived.Deep.RegionWith
namespace Go.Proofs.Qxb6606217aFmt
open Go.RowKit Go.Extern.Stop Go.Stop Go.Extern

set_option maxRecDepth 100000 in
set_option maxHeartbeats 800000 in
theorem errorf_any (F : Interp) (k : Nat) (a : Addr) (s t : ByteArray) (w : World) (hF : F.answers w.tape) (h0 : w.cell? ⟨k, 0, none⟩ = some (.iface 58 (.pointer (some a)))) (h1 : w.cell? ⟨k, 1, none⟩ = some (.iface 9 (.string t))) (hs : w.cell? a = some (.string s)) :
    Calls Tryf.prog 23 #[.string ⟨#[37, 119, 58, 32, 37, 115]⟩, .slice (some ⟨k, 0, none⟩) 2 2] w fun e w' => e = .returned (.iface 57 (.pointer (some ⟨w.heap.size, 0, none⟩))) ∧ Below w.heap.size w w' ∧ w.heap.size < w'.heap.size := by
  have hF' := answers_open hF
  have hop := opPlain58_119w "fmt.errorf" a s _ hs
  go_enter Tryf.func23, Tryf.ntmps23
  go_wp2
  go_ret
  exact ⟨rfl, ((Below.refl _ w).alloc (Nat.le_refl _) _).drew, by simp⟩

/-- fmt.Sprintf answers here: some text, one draw, nothing written. -/
def SpOk (w : World) (f : ByteArray) (a : Value) : Prop := ∃ ps, (callFunc 24 #[.string f, a]).run Tryf.prog w = .ok (.row FmtCalls.turnsRow (FmtCalls.save 0 0 a f [] ps)) w ∧
  ∀ R : Value → World → Prop, (∀ t, R (.string t) w.drew) → Rows Tryf.prog FmtCalls.turnsRow (FmtCalls.save 0 0 a f [] ps) w R

theorem spA (F : Interp) (k : Nat) (x0 : ByteArray) (x1 : Int) (x2 : Int) (w : World) (hF : F.answers w.tape) (h0 : w.cell? ⟨k, 0, none⟩ = some (.iface 9 (.string x0))) (h1 : w.cell? ⟨k, 1, none⟩ = some (.iface 3 (.int .i64 x1))) (h2 : w.cell? ⟨k, 2, none⟩ = some (.iface 3 (.int .i64 x2))) : SpOk w fmA (.slice (some ⟨k, 0, none⟩) 3 3) := by
  have hF' := answers_open hF
  refine ⟨[(0, 115, false), (1, 100, false), (2, 100, false)], ?_, ?_⟩
  · unfold fmA
    rw [call24]
    go_simp
  · intro R hR
    unfold fmA
    apply rows_value nextTurns
    case hr =>
      go_simp
      exact ⟨rfl, rfl⟩
    exact hR _
theorem spB (F : Interp) (k : Nat) (x0 : ByteArray) (x1 : Int) (x2 : Int) (w : World) (hF : F.answers w.tape) (h0 : w.cell? ⟨k, 0, none⟩ = some (.iface 9 (.string x0))) (h1 : w.cell? ⟨k, 1, none⟩ = some (.iface 52 (.int .u64 x1))) (h2 : w.cell? ⟨k, 2, none⟩ = some (.iface 3 (.int .i64 x2))) : SpOk w fmB (.slice (some ⟨k, 0, none⟩) 3 3) := by
  have hF' := answers_open hF
  refine ⟨[(0, 115, false), (1, 100, false), (2, 100, false)], ?_, ?_⟩
  · unfold fmB
    rw [call24]
    go_simp
  · intro R hR
    unfold fmB
    apply rows_value nextTurns
    case hr =>
      go_simp
      exact ⟨rfl, rfl⟩
    exact hR _
theorem spC (F : Interp) (k : Nat) (x0 : Int) (x1 : ByteArray) (w : World) (hF : F.answers w.tape) (h0 : w.cell? ⟨k, 0, none⟩ = some (.iface 3 (.int .i64 x0))) (h1 : w.cell? ⟨k, 1, none⟩ = some (.iface 9 (.string x1))) : SpOk w fmC (.slice (some ⟨k, 0, none⟩) 2 2) := by
  have hF' := answers_open hF
  refine ⟨[(0, 100, false), (1, 115, false)], ?_, ?_⟩
  · unfold fmC
    rw [call24]
    go_simp
  · intro R hR
    unfold fmC
    apply rows_value nextTurns
    case hr =>
      go_simp
      exact ⟨rfl, rfl⟩
    exact hR _
end Go.Proofs.Qxb6606217aFmt
