/-
  take, newDecoder, end.
-/
import Derived.Test.Qxb6606217aFmtFail
import Derived.Laws.CopyOwn
import Derived.Deep.WholeRow
namespace Go.Proofs.Qxb6606217aFmt
open Go.RowKit Go.Extern.Stop Go.Stop Go.Extern

/-- The decoder at db, its error at eb. -/
structure Dec (w : World) (db eb : Nat) (sl ev : Value) : Prop where
  d : w.heap[db]? = some (.cells #[sl, .pointer (some ⟨eb, 0, none⟩)] 46 (0, 0))
  e : w.heap[eb]? = some (.cells #[ev] 30 (0, 0))
  ne : db ≠ eb

/-- Nothing that was there is turned but two blocks. -/
structure Oth (db eb : Nat) (w w' : World) : Prop where
  os : w'.os = w.os
  tape : w'.tape = w.tape
  output : w'.output = w.output
  size : w.heap.size ≤ w'.heap.size
  block : ∀ k, k < w.heap.size → k ≠ db → k ≠ eb → w'.heap[k]? = w.heap[k]?

theorem Oth.refl (db eb : Nat) (w : World) : Oth db eb w w := ⟨rfl, rfl, rfl, Nat.le_refl _, fun _ _ _ _ => rfl⟩
theorem Oth.trans {db eb : Nat} {a b c : World} (h : Oth db eb a b) (k : Oth db eb b c) : Oth db eb a c :=
  ⟨k.os.trans h.os, k.tape.trans h.tape, k.output.trans h.output, Nat.le_trans h.size k.size, fun j hj h1 h2 => (k.block j (Nat.lt_of_lt_of_le hj h.size) h1 h2).trans (h.block j hj h1 h2)⟩
theorem Oth.of_below {db eb : Nat} {w w' : World} (h : Below w.heap.size w w') : Oth db eb w w' := ⟨h.os, h.tape, h.output, h.size, fun k hk _ _ => h.block k hk⟩
theorem Oth.below {db eb B : Nat} {w0 w w' : World} (h : Oth db eb w w') (hb : Below B w0 w) (hB : B ≤ w.heap.size) (h1 : B ≤ db) (h2 : B ≤ eb) : Below B w0 w' :=
  ⟨h.os.trans hb.os, h.tape.trans hb.tape, h.output.trans hb.output, Nat.le_trans hb.size h.size, fun k hk => (h.block k (by omega) (by omega) (by omega)).trans (hb.block k hk)⟩
theorem heap_set_other {w : World} {b j k : Nat} {u : Value} (h : k ≠ b) : (w.setCell ⟨b, j, none⟩ u).heap[k]? = w.heap[k]? := Below.heap_setCell w ⟨b, j, none⟩ u k h
theorem Oth.set_e {db eb j : Nat} {w : World} {u : Value} : Oth db eb w (w.setCell ⟨eb, j, none⟩ u) := ⟨by simp [World.setCell], by simp [World.setCell], by simp [World.setCell], by simp, fun _ _ _ h => heap_set_other h⟩
theorem Oth.set_d {db eb j : Nat} {w : World} {u : Value} : Oth db eb w (w.setCell ⟨db, j, none⟩ u) := ⟨by simp [World.setCell], by simp [World.setCell], by simp [World.setCell], by simp, fun _ _ h _ => heap_set_other h⟩

section
variable {w : World} {db eb : Nat} {sl ev : Value}
theorem Dec.c0 (h : Dec w db eb sl ev) : w.cell? ⟨db, 0, none⟩ = some sl := by rw [cell_of_row _ _ _ _ _ _ h.d]; rfl
theorem Dec.c1 (h : Dec w db eb sl ev) : w.cell? ⟨db, 1, none⟩ = some (.pointer (some ⟨eb, 0, none⟩)) := by rw [cell_of_row _ _ _ _ _ _ h.d]; rfl
theorem Dec.ce (h : Dec w db eb sl ev) : w.cell? ⟨eb, 0, none⟩ = some ev := by rw [cell_of_row _ _ _ _ _ _ h.e]; rfl
theorem Dec.fd (h : Dec w db eb sl ev) (j : Nat) : w.frozen? ⟨db, j, none⟩ = false := frozen_of_row _ _ _ _ _ h.d
theorem Dec.fe (h : Dec w db eb sl ev) : w.frozen? ⟨eb, 0, none⟩ = false := frozen_of_row _ _ _ _ _ h.e
theorem Dec.ld (h : Dec w db eb sl ev) : db < w.heap.size := (Array.getElem?_eq_some_iff.1 h.d).1
theorem Dec.le (h : Dec w db eb sl ev) : eb < w.heap.size := (Array.getElem?_eq_some_iff.1 h.e).1
theorem Dec.below {w' : World} (h : Dec w db eb sl ev) (hb : Below w.heap.size w w') : Dec w' db eb sl ev := ⟨(hb.block _ h.ld).trans h.d, (hb.block _ h.le).trans h.e, h.ne⟩
theorem Dec.set_e (h : Dec w db eb sl ev) (u : Value) : Dec (w.setCell ⟨eb, 0, none⟩ u) db eb sl u :=
  ⟨(heap_set_other h.ne).trans h.d, heap_setCell_same w eb 0 _ 30 u h.e, h.ne⟩
theorem Dec.set_d (h : Dec w db eb sl ev) (u : Value) : Dec (w.setCell ⟨db, 0, none⟩ u) db eb u ev :=
  ⟨heap_setCell_same w db 0 _ 46 u h.d, (heap_set_other (fun e => h.ne e.symm)).trans h.e, h.ne⟩
end

/-- What the package's variable holds, and fmt's answers. -/
structure Env (F : Interp) (a : Addr) (s : ByteArray) (w : World) : Prop where
  F : F.answers w.tape
  g : w.cell? ⟨0, 0, none⟩ = some (.iface 58 (.pointer (some a)))
  s : w.cell? a = some (.string s)

theorem heap_of_cell {w w' : World} {a : Addr} (h : w'.heap[a.block]? = w.heap[a.block]?) : w'.cell? a = w.cell? a := World.cell?_of_block h
theorem Env.oth {F : Interp} {a : Addr} {s : ByteArray} {w w' : World} {db eb : Nat} (h : Env F a s w) (o : Oth db eb w w') (h1 : 0 ≠ db) (h2 : 0 ≠ eb) (h3 : a.block ≠ db) (h4 : a.block ≠ eb) : Env F a s w' :=
  ⟨by rw [o.tape]; exact h.F, (heap_of_cell (a := ⟨0, 0, none⟩) (o.block 0 (cell_lt h.g) h1 h2)).trans h.g, (heap_of_cell (a := a) (o.block _ (cell_lt h.s) h3 h4)).trans h.s⟩
theorem Env.below {F : Interp} {a : Addr} {s : ByteArray} {w w' : World} (h : Env F a s w) (b : Below w.heap.size w w') : Env F a s w' :=
  ⟨by rw [b.tape]; exact h.F, (b.cell (p := ⟨0, 0, none⟩) (cell_lt h.g)).trans h.g, (b.cell (p := a) (cell_lt h.s)).trans h.s⟩

/-- An error that is none of nil. -/
def Bad (v : Value) : Prop := ∃ k, v = .iface 57 (.pointer (some ⟨k, 0, none⟩))

theorem new_any (sl : Value) (hs : ∃ a n c, sl = .slice a n c) (w : World) :
    Calls Tryf.prog 16 #[sl] w fun e w' => e = .returned (.pointer (some ⟨w.heap.size + 1, 0, none⟩)) ∧ Below w.heap.size w w' ∧ Dec w' (w.heap.size + 1) w.heap.size sl .nilIface ∧ w'.heap.size = w.heap.size + 2 := by
  obtain ⟨a, n, c, rfl⟩ := hs
  have hb : ∀ w p, (Instr.build 46 #[(0, .slice a n c), (1, .pointer (some p))]).run Tryf.prog w = .ok (.agg #[.slice a n c, .pointer (some p)]) w := fun w p => by kernel_rfl
  go_enter Tryf.func16, Tryf.ntmps16
  go_wp2
  go_ret
  refine ⟨rfl, ((Below.refl _ _).alloc (Nat.le_refl _) _).alloc (by simp) _, ⟨?_, ?_, by omega⟩, by simp⟩
  · have := heap_alloc_new (w.alloc (.cells #[.nilIface] 30)) (.cells #[.slice a n c, .pointer (some ⟨w.heap.size, 0, none⟩)] 46)
    simpa using this
  · exact (Below.heap_alloc _ _ _ (by simp)).trans (heap_alloc_new w _)

/-- fail, in these words. -/
theorem fail_dec (F : Interp) (db eb : Nat) (f : ByteArray) (av sl : Value) (a : Addr) (s : ByteArray) (w : World) (hd : Dec w db eb sl .nilIface) (hE : Env F a s w) (hsp : SpOk w.drew f av) :
    Calls Tryf.prog 22 #[.pointer (some ⟨db, 0, none⟩), .string f, av] w fun e w' => e = .returned (.tuple #[]) ∧ Oth db eb w w' ∧ ∃ v, Bad v ∧ Dec w' db eb sl v := by
  refine (fail_any F db eb f av a s w hE.F hd.c1 hd.ce hd.fe hE.g hE.s hsp).mono ?_
  rintro e w' ⟨rfl, w1, k, hb, rfl⟩
  exact ⟨rfl, (Oth.of_below hb).trans Oth.set_e, _, ⟨k, rfl⟩, (hd.below hb).set_e _⟩

/-- 'take' behind an error. -/
theorem take_bad (db eb : Nat) (sl ev : Value) (n : Int) (fd : ByteArray) (w : World) (hd : Dec w db eb sl ev) (hb : Bad ev) :
    Calls Tryf.prog 19 #[.pointer (some ⟨db, 0, none⟩), .int .i64 n, .string fd] w fun e w' => e = .returned (.slice none 0 0) ∧ w = w' := by
  obtain ⟨k, rfl⟩ := hb
  have c1 := hd.c1
  have ce := hd.ce
  go_enter Tryf.func19, Tryf.ntmps19
  go_wp2
  go_ret
  exact ⟨rfl, rfl⟩

/-- 'take' of more than remains. -/
theorem take_short (F : Interp) (a : Addr) (s : ByteArray) (db eb : Nat) (sa : Option Addr) (len cap : Nat) (n : Int) (hn : (len : Int) < n) (fd : ByteArray) (w : World) (hd : Dec w db eb (.slice sa len cap) .nilIface) (hE : Env F a s w) :
    Calls Tryf.prog 19 #[.pointer (some ⟨db, 0, none⟩), .int .i64 n, .string fd] w fun e w' => e = .returned (.slice none 0 0) ∧ Oth db eb w w' ∧ ∃ v, Bad v ∧ Dec w' db eb (.slice sa len cap) v := by
  have c0 := hd.c0
  have c1 := hd.c1
  have ce := hd.ce
  have hb : Below w.heap.size w (w.alloc (.cells #[.iface 9 (.string fd), .iface 3 (.int .i64 n), .iface 3 (.int .i64 (len : Int))] 20)) := (Below.refl _ w).alloc (Nat.le_refl _) _
  have HF : Hid (Calls Tryf.prog 22 #[.pointer (some ⟨db, 0, none⟩), .string fmA, .slice (some ⟨w.heap.size, 0, none⟩) 3 3] (w.alloc (.cells #[.iface 9 (.string fd), .iface 3 (.int .i64 n), .iface 3 (.int .i64 (len : Int))] 20)) fun e w' => e = .returned (.tuple #[]) ∧ Oth db eb w w' ∧ ∃ v, Bad v ∧ Dec w' db eb (.slice sa len cap) v) := by
    refine (fail_dec F db eb fmA _ (.slice sa len cap) a s _ (hd.below hb) (hE.below hb) (spA F w.heap.size fd n (len : Int) _ (by simpa using hE.F) (by go_simp) (by go_simp) (by go_simp))).mono ?_
    rintro e w' ⟨rfl, ho, hv⟩
    exact ⟨rfl, (Oth.of_below hb).trans ho, hv⟩
  unfold fmA at HF
  clear hd hE hb
  go_enter Tryf.func19, Tryf.ntmps19
  go_wp2_with fail
  refine HF.out.mono ?_
  rintro e w' ⟨rfl, ho, hv⟩
  have HO : Hid (Oth db eb w w' ∧ ∃ v, Bad v ∧ Dec w' db eb (.slice sa len cap) v) := ⟨ho, hv⟩
  clear ho hv HF
  go_wp2
  go_ret
  exact ⟨rfl, HO.out⟩

/-- 'take' of what is there. -/
theorem take_ok (db eb b off len cap n : Nat) (hn : n ≤ len) (hlc : len ≤ cap) (hcap : cap ≤ 1048576 * 4) (fd : ByteArray) (w : World) (hd : Dec w db eb (.slice (some ⟨b, off, none⟩) len cap) .nilIface) :
    Calls Tryf.prog 19 #[.pointer (some ⟨db, 0, none⟩), .int .i64 (n : Int), .string fd] w fun e w' => e = .returned (.slice (some ⟨b, off, none⟩) n n) ∧ ∃ o2, (n < cap → o2 = off + n) ∧ w.setCell ⟨db, 0, none⟩ (.slice (some ⟨b, o2, none⟩) (len - n) (cap - n)) = w' := by
  have c0 := hd.c0
  have c1 := hd.c1
  have ce := hd.ce
  have f0 := hd.fd 0
  have h1 : ¬ (len : Int) < (n : Int) := by omega
  have h2 : (n : Int) ≤ (len : Int) := by omega
  have h3 : (n : Int) ≤ (cap : Int) := by omega
  by_cases hc : n = cap
  · subst hc
    go_enter Tryf.func19, Tryf.ntmps19
    go_wp2
    go_ret
    exact ⟨rfl, off, rfl⟩
  · have h4 : (n : Int) < (cap : Int) := by omega
    have h5 : ¬ cap - n = 0 := by omega
    go_enter Tryf.func19, Tryf.ntmps19
    go_wp2
    go_ret
    exact ⟨rfl, off + n, fun _ => rfl, rfl⟩

/-- 'end' behind an error. -/
theorem end_bad (db eb : Nat) (sl ev : Value) (fd : ByteArray) (w : World) (hd : Dec w db eb sl ev) (hb : Bad ev) :
    Calls Tryf.prog 21 #[.pointer (some ⟨db, 0, none⟩), .string fd] w fun e w' => e = .returned (.tuple #[]) ∧ w = w' := by
  obtain ⟨k, rfl⟩ := hb
  have c1 := hd.c1
  have ce := hd.ce
  go_enter Tryf.func21, Tryf.ntmps21
  go_wp2
  go_end0
  exact ⟨rfl, rfl⟩

/-- 'end' where nothing is left. -/
theorem end_ok (db eb : Nat) (sa : Option Addr) (cap : Nat) (fd : ByteArray) (w : World) (hd : Dec w db eb (.slice sa 0 cap) .nilIface) :
    Calls Tryf.prog 21 #[.pointer (some ⟨db, 0, none⟩), .string fd] w fun e w' => e = .returned (.tuple #[]) ∧ w = w' := by
  have c0 := hd.c0
  have c1 := hd.c1
  have ce := hd.ce
  go_enter Tryf.func21, Tryf.ntmps21
  go_wp2
  go_end0
  exact ⟨rfl, rfl⟩

/-- 'end' where something is left. -/
theorem end_more (F : Interp) (a : Addr) (s : ByteArray) (db eb : Nat) (sa : Option Addr) (len cap : Nat) (hl : 0 < len) (fd : ByteArray) (w : World) (hd : Dec w db eb (.slice sa len cap) .nilIface) (hE : Env F a s w) :
    Calls Tryf.prog 21 #[.pointer (some ⟨db, 0, none⟩), .string fd] w fun e w' => e = .returned (.tuple #[]) ∧ Oth db eb w w' ∧ ∃ v, Bad v ∧ Dec w' db eb (.slice sa len cap) v := by
  have c0 := hd.c0
  have c1 := hd.c1
  have ce := hd.ce
  have hli : (0 : Int) < (len : Int) := by omega
  have hb : Below w.heap.size w (w.alloc (.cells #[.iface 3 (.int .i64 (len : Int)), .iface 9 (.string fd)] 20)) := (Below.refl _ w).alloc (Nat.le_refl _) _
  have HF : Hid (Calls Tryf.prog 22 #[.pointer (some ⟨db, 0, none⟩), .string fmC, .slice (some ⟨w.heap.size, 0, none⟩) 2 2] (w.alloc (.cells #[.iface 3 (.int .i64 (len : Int)), .iface 9 (.string fd)] 20)) fun e w' => e = .returned (.tuple #[]) ∧ Oth db eb w w' ∧ ∃ v, Bad v ∧ Dec w' db eb (.slice sa len cap) v) := by
    refine (fail_dec F db eb fmC _ (.slice sa len cap) a s _ (hd.below hb) (hE.below hb) (spC F w.heap.size (len : Int) fd _ (by simpa using hE.F) (by go_simp) (by go_simp))).mono ?_
    rintro e w' ⟨rfl, ho, hv⟩
    exact ⟨rfl, (Oth.of_below hb).trans ho, hv⟩
  unfold fmC at HF
  clear hd hE hb
  go_enter Tryf.func21, Tryf.ntmps21
  go_wp2_with fail
  refine HF.out.mono ?_
  rintro e w' ⟨rfl, ho, hv⟩
  have HO : Hid (Oth db eb w w' ∧ ∃ v, Bad v ∧ Dec w' db eb (.slice sa len cap) v) := ⟨ho, hv⟩
  clear ho hv HF
  go_wp2
  go_end0
  exact ⟨rfl, HO.out⟩
end Go.Proofs.Qxb6606217aFmt
