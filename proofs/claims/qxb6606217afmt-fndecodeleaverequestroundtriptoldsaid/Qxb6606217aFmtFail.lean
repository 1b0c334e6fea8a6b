/-
  fail WALKED.
-/
import Derived.Test.Qxb6606217aFmtWk
namespace Go.Proofs.Qxb6606217aFmt
open Go.RowKit Go.Extern.Stop Go.Stop Go.Extern

theorem cell_lt {w : World} {a : Addr} {v : Value} (h : w.cell? a = some v) : a.block < w.heap.size := by
  by_cases hb : a.block < w.heap.size
  · exact hb
  · simp [World.cell?, Array.getElem?_eq_none (Nat.le_of_not_lt hb)] at h

set_option maxRecDepth 100000 in
set_option maxHeartbeats 1600000 in
theorem fail_any (F : Interp) (db eb : Nat) (f : ByteArray) (av : Value) (a : Addr) (s : ByteArray) (w : World) (hF : F.answers w.tape)
    (hd1 : w.cell? ⟨db, 1, none⟩ = some (.pointer (some ⟨eb, 0, none⟩))) (he : w.cell? ⟨eb, 0, none⟩ = some .nilIface) (hef : w.frozen? ⟨eb, 0, none⟩ = false) (hg : w.cell? ⟨0, 0, none⟩ = some (.iface 58 (.pointer (some a)))) (hs : w.cell? a = some (.string s)) (hsp : SpOk w.drew f av) :
    Calls Tryf.prog 22 #[.pointer (some ⟨db, 0, none⟩), .string f, av] w fun e w' => e = .returned (.tuple #[]) ∧ ∃ (w1 : World) (k : Nat), Below w.heap.size w w1 ∧ w' = w1.setCell ⟨eb, 0, none⟩ (.iface 57 (.pointer (some ⟨k, 0, none⟩))) := by
  obtain ⟨ps, hc24, hr24⟩ := hsp
  have hdl := cell_lt hd1
  have hel := cell_lt he
  have hal := cell_lt hs
  simp only at hdl hel
  have HE : Hid (∀ t, Calls Tryf.prog 23 #[.string ⟨#[37, 119, 58, 32, 37, 115]⟩, .slice (some ⟨w.heap.size, 0, none⟩) 2 2] (w.alloc (.cells #[.iface 58 (.pointer (some a)), .iface 9 (.string t)] 20)).drew.drew fun e w' => e = .returned (.iface 57 (.pointer (some ⟨w.heap.size + 1, 0, none⟩))) ∧ w'.cell? ⟨db, 1, none⟩ = some (.pointer (some ⟨eb, 0, none⟩)) ∧ w'.cell? ⟨eb, 0, none⟩ = some .nilIface ∧ w'.frozen? ⟨eb, 0, none⟩ = false ∧ Hid (Below w.heap.size w w')) := by
    intro t
    have hb0 : Below w.heap.size w (w.alloc (.cells #[.iface 58 (.pointer (some a)), .iface 9 (.string t)] 20)).drew.drew := ((Below.refl _ w).alloc (Nat.le_refl _) _).drew.drew
    refine (errorf_any F w.heap.size a s t _ (by simpa using hF) (by go_simp) (by go_simp) ((hb0.cell hal).trans hs)).mono ?_
    rintro e w' ⟨rfl, hbe, hsz⟩
    have hb : Below w.heap.size w w' := hb0.trans (hbe.mono (by simp))
    exact ⟨by simp, (hb.cell (p := ⟨db, 1, none⟩) hdl).trans hd1, (hb.cell (p := ⟨eb, 0, none⟩) hel).trans he, (hb.frozen (p := ⟨eb, 0, none⟩) hel).trans hef, hb⟩
  go_enter Tryf.func22, Tryf.ntmps22
  go_wp2
  go_region_with (first | (refine hr24 _ ?_; intro t) | (go_at_call 23; refine (HE.out _).mono ?_; rintro e w' ⟨rfl, hc1, hc2, hc3, hbw⟩))
  all_goals
    go_end0
    exact ⟨rfl, _, _, hbw.out, rfl⟩
end Go.Proofs.Qxb6606217aFmt
