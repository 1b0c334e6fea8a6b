/-
  WHAT decodePeerRequest ANSWERS, CASE BY CASE.
-/
import Derived.Test.Qxb6606217aFmtPeer
namespace Go.Proofs.Qxb6606217aFmt
open Go.RowKit Go.Extern.Stop Go.Stop Go.Extern

def ch (S : List UInt8) (j : Nat) : Nat := (S.getD j 0).toNat
theorem ch_lt (S : List UInt8) (j : Nat) : ch S j < 256 := (S.getD j 0).toNat_lt
def RowOf (w : World) (b : Nat) (S : List UInt8) : Prop := ∀ j, j < S.length → w.cell? ⟨b, j, none⟩ = some (.int .u8 ((ch S j : Nat) : Int))
theorem RowOf.below {w w' : World} {b B : Nat} {S : List UInt8} (h : RowOf w b S) (hb : Below B w w') (hB : b < B) : RowOf w' b S := fun j hj => (hb.cell (p := ⟨b, j, none⟩) hB).trans (h j hj)

section
variable {F : Interp} {a : Addr} {s : ByteArray} {w : World} {ids : Array Value} {W : World} {sl ev : Value}
theorem Inv.env (h : Inv w ids W sl ev) (hE : Env F a s w) : Env F a s W := hE.below h.bel
theorem Env.z (hE : Env F a s w) : 0 < w.heap.size ∧ a.block < w.heap.size := ⟨cell_lt hE.g, cell_lt hE.s⟩

/-- opq behind an error, in these words. -/
theorem opqB (h : Inv w ids W sl ev) (hb : Bad ev) : Calls Tryf.prog 20 #[.pointer (some ⟨w.heap.size + 2, 0, none⟩), .int .i64 2, .string fld] W fun e W' => ∃ da dn dc, e = .returned (.slice da dn dc) ∧ Value.slice da dn dc = .slice none 0 0 ∧ ∃ sl2 ev2, Bad ev2 ∧ Inv w ids W' sl2 ev2 := by
  refine (opq_bad _ _ sl ev W h.dec hb).mono ?_
  rintro e W' ⟨rfl, rfl⟩
  exact ⟨none, 0, 0, rfl, rfl, sl, ev, hb, h⟩
theorem endB (h : Inv w ids W sl ev) (hb : Bad ev) (f2 : ByteArray) : Calls Tryf.prog 21 #[.pointer (some ⟨w.heap.size + 2, 0, none⟩), .string f2] W fun e W' => e = .returned (.tuple #[]) ∧ ∃ sl3 ev3, Bad ev3 ∧ Inv w ids W' sl3 ev3 := by
  refine (end_bad _ _ sl ev f2 W h.dec hb).mono ?_
  rintro e W' ⟨rfl, rfl⟩
  exact ⟨rfl, sl, ev, hb, h⟩
end

def z16I : Array Value := #[.int .u8 0, .int .u8 0, .int .u8 0, .int .u8 0, .int .u8 0, .int .u8 0, .int .u8 0, .int .u8 0, .int .u8 0, .int .u8 0, .int .u8 0, .int .u8 0, .int .u8 0, .int .u8 0, .int .u8 0, .int .u8 0]

/-- A body of fewer than 16 bytes. -/
theorem peer_lt16 (F : Interp) (a : Addr) (s : ByteArray) (sa : Option Addr) (len cap : Nat) (hl : len < 16) (f1 f2 : ByteArray) (w : World) (hE : Env F a s w) :
    Calls Tryf.prog 18 #[.slice sa len cap, .string f1, .string f2] w fun e w' => ∃ dv ev, dv = .slice none 0 0 ∧ Bad ev ∧ e = .returned (.tuple #[.agg z16, dv, ev]) ∧ Below w.heap.size w w' := by
  refine peer_any _ ⟨_, _, _, rfl⟩ f1 f2 w 0 0 0 0 0 0 0 0 0 0 0 0 0 0 0 0 (.slice none 0 0) ⟨_, _, _, rfl⟩ (fun _ ev => Bad ev) (fun _ ev => Bad ev) (fun v => v = .slice none 0 0) Bad ?_ ?_ ?_ ?_
  · intro W hi
    refine (take_short F a s _ _ sa len cap 16 (by omega) f1 W hi.dec (hi.env hE)).mono ?_
    rintro e W' ⟨rfl, ho, v, hb, hd⟩
    exact ⟨rfl, _, v, hb, hi.oth ho hd⟩
  · intro W sl1 ev1 hb hi
    refine ⟨0, ?_⟩
    have h1 := run_copy_none (P := Tryf.prog) W 22 22 3 5 (some ⟨w.heap.size + 3, 0, none⟩) none 16 16 0 0 Tryf.underlying22 (by kernel_rfl) rfl
    rw [h1]
    exact congrArg _ (setRow_self W _ _ 35 (0, 0) hi.id).symm
  · intro W sl1 ev1 hb hi
    exact opqB hi hb
  · intro W sl2 ev2 hb hi
    exact endB hi hb f2

def ids16 (S : List UInt8) : Array Value := #[.int .u8 (ch S 0 : Int), .int .u8 (ch S 1 : Int), .int .u8 (ch S 2 : Int), .int .u8 (ch S 3 : Int), .int .u8 (ch S 4 : Int), .int .u8 (ch S 5 : Int), .int .u8 (ch S 6 : Int), .int .u8 (ch S 7 : Int), .int .u8 (ch S 8 : Int), .int .u8 (ch S 9 : Int), .int .u8 (ch S 10 : Int), .int .u8 (ch S 11 : Int), .int .u8 (ch S 12 : Int), .int .u8 (ch S 13 : Int), .int .u8 (ch S 14 : Int), .int .u8 (ch S 15 : Int)]

/-- What take has left of a body of 16 bytes or more. -/
def Rest (b len cap : Nat) (sl ev : Value) : Prop := ev = .nilIface ∧ ∃ o, (16 < cap → o = 16) ∧ sl = .slice (some ⟨b, o, none⟩) (len - 16) (cap - 16)

theorem peer_ge16 (b cap : Nat) (S : List UInt8) (h16 : 16 ≤ S.length) (hlc : S.length ≤ cap) (hcap : cap ≤ 1048576 * 4) (f1 f2 : ByteArray) (w : World) (hR : RowOf w b S) (hbw : b < w.heap.size) (p2 : Value → Value → Prop) (pd p3 : Value → Prop)
    (hO : ∀ W sl1 ev1, Rest b S.length cap sl1 ev1 → Inv w (ids16 S) W sl1 ev1 → Calls Tryf.prog 20 #[.pointer (some ⟨w.heap.size + 2, 0, none⟩), .int .i64 2, .string fld] W fun e W' => ∃ da dn dc, e = .returned (.slice da dn dc) ∧ pd (.slice da dn dc) ∧ ∃ sl2 ev2, p2 sl2 ev2 ∧ Inv w (ids16 S) W' sl2 ev2)
    (hN : ∀ W sl2 ev2, p2 sl2 ev2 → Inv w (ids16 S) W sl2 ev2 → Calls Tryf.prog 21 #[.pointer (some ⟨w.heap.size + 2, 0, none⟩), .string f2] W fun e W' => e = .returned (.tuple #[]) ∧ ∃ sl3 ev3, p3 ev3 ∧ Inv w (ids16 S) W' sl3 ev3) :
    Calls Tryf.prog 18 #[.slice (some ⟨b, 0, none⟩) S.length cap, .string f1, .string f2] w fun e w' => ∃ dv ev, pd dv ∧ p3 ev ∧ e = .returned (.tuple #[.agg (ids16 S), dv, ev]) ∧ Below w.heap.size w w' := by
  refine peer_any _ ⟨_, _, _, rfl⟩ f1 f2 w (ch S 0 : Int) (ch S 1 : Int) (ch S 2 : Int) (ch S 3 : Int) (ch S 4 : Int) (ch S 5 : Int) (ch S 6 : Int) (ch S 7 : Int) (ch S 8 : Int) (ch S 9 : Int) (ch S 10 : Int) (ch S 11 : Int) (ch S 12 : Int) (ch S 13 : Int) (ch S 14 : Int) (ch S 15 : Int) (.slice (some ⟨b, 0, none⟩) 16 16) ⟨_, _, _, rfl⟩ (Rest b S.length cap) p2 pd p3 ?_ ?_ hO hN
  · intro W hi
    refine (take_ok _ _ b 0 S.length cap 16 h16 hlc hcap f1 W hi.dec).mono ?_
    rintro e W' ⟨rfl, o2, ho2, rfl⟩
    exact ⟨rfl, _, .nilIface, ⟨rfl, o2, fun h => by simpa using ho2 h, rfl⟩, hi.oth Oth.set_d (hi.dec.set_d _)⟩
  · intro W sl1 ev1 hp hi
    refine ⟨16, ?_⟩
    have hRW := hR.below hi.bel hbw
    have h1 := run_copy_row (P := Tryf.prog) W 22 22 3 5 (w.heap.size + 3) 0 16 16 ⟨b, 0, none⟩ 16 16 z16 35 [.int .u8 (ch S 0 : Int), .int .u8 (ch S 1 : Int), .int .u8 (ch S 2 : Int), .int .u8 (ch S 3 : Int), .int .u8 (ch S 4 : Int), .int .u8 (ch S 5 : Int), .int .u8 (ch S 6 : Int), .int .u8 (ch S 7 : Int), .int .u8 (ch S 8 : Int), .int .u8 (ch S 9 : Int), .int .u8 (ch S 10 : Int), .int .u8 (ch S 11 : Int), .int .u8 (ch S 12 : Int), .int .u8 (ch S 13 : Int), .int .u8 (ch S 14 : Int), .int .u8 (ch S 15 : Int)] Tryf.underlying22 (by kernel_rfl) hi.id rfl ?_ (by simp [z16]) (by intro v hv; simp at hv; rcases hv with rfl | rfl | rfl | rfl | rfl | rfl | rfl | rfl | rfl | rfl | rfl | rfl | rfl | rfl | rfl | rfl <;> rfl)
    · rw [h1]
      rfl
    · intro j v hv
      have hj : j < 16 := by
        have := (List.getElem?_eq_some_iff.1 hv).1
        simpa using this
      have hadd : (⟨b, 0, none⟩ : Addr).add j = ⟨b, j, none⟩ := by unfold Addr.add; split <;> simp_all
      rw [hadd, hRW j (by omega), ← hv]
      match j, hj with
      | 0, _ | 1, _ | 2, _ | 3, _ | 4, _ | 5, _ | 6, _ | 7, _ | 8, _ | 9, _ | 10, _ | 11, _ | 12, _ | 13, _ | 14, _ | 15, _ => rfl

/-- The length that the body's bytes 16 and 17 tell. -/
def told (S : List UInt8) : Nat := ch S 16 * 256 + ch S 17

theorem peer_lt18 (F : Interp) (a : Addr) (s : ByteArray) (b cap : Nat) (S : List UInt8) (h16 : 16 ≤ S.length) (h18 : S.length < 18) (hlc : S.length ≤ cap) (hcap : cap ≤ 1048576 * 4) (f1 f2 : ByteArray) (w : World) (hE : Env F a s w) (hR : RowOf w b S) (hbw : b < w.heap.size) :
    Calls Tryf.prog 18 #[.slice (some ⟨b, 0, none⟩) S.length cap, .string f1, .string f2] w fun e w' => ∃ dv ev, dv = .slice none 0 0 ∧ Bad ev ∧ e = .returned (.tuple #[.agg (ids16 S), dv, ev]) ∧ Below w.heap.size w w' := by
  refine peer_ge16 b cap S h16 hlc hcap f1 f2 w hR hbw (fun _ ev => Bad ev) (fun v => v = .slice none 0 0) Bad ?_ (fun W sl2 ev2 hb hi => endB hi hb f2)
  rintro W sl1 ev1 ⟨rfl, o, ho, rfl⟩ hi
  refine (opq_short F a s _ _ _ _ _ (by omega) W hi.dec (hi.env hE)).mono ?_
  rintro e W' ⟨rfl, ho, v, hb, hd⟩
  exact ⟨none, 0, 0, rfl, rfl, _, v, hb, hi.oth ho hd⟩

theorem peer_past (F : Interp) (a : Addr) (s : ByteArray) (b cap : Nat) (S : List UInt8) (h18 : 18 ≤ S.length) (hN : S.length - 18 < told S) (hlc : S.length ≤ cap) (hcap : cap ≤ 1048576 * 4) (f1 f2 : ByteArray) (w : World) (hE : Env F a s w) (hR : RowOf w b S) (hbw : b < w.heap.size) :
    Calls Tryf.prog 18 #[.slice (some ⟨b, 0, none⟩) S.length cap, .string f1, .string f2] w fun e w' => ∃ dv ev, dv = .slice none 0 0 ∧ Bad ev ∧ e = .returned (.tuple #[.agg (ids16 S), dv, ev]) ∧ Below w.heap.size w w' := by
  refine peer_ge16 b cap S (by omega) hlc hcap f1 f2 w hR hbw (fun _ ev => Bad ev) (fun v => v = .slice none 0 0) Bad ?_ (fun W sl2 ev2 hb hi => endB hi hb f2)
  rintro W sl1 ev1 ⟨rfl, o, ho, rfl⟩ hi
  obtain rfl : o = 16 := ho (by omega)
  have hz := hE.z
  have hRW := hR.below hi.bel hbw
  refine (opq_past F a s _ _ b 16 (S.length - 16) (cap - 16) (ch S 16) (ch S 17) (told S) (by omega) (by omega) (ch_lt _ _) (ch_lt _ _) rfl (by omega) (by omega) W hi.dec (hi.env hE) (by omega) (by omega) (by omega) (by omega) (by omega) (hRW 16 (by omega)) (hRW 17 (by omega))).mono ?_
  rintro e W' ⟨rfl, ho, sl, v, hb, hd⟩
  exact ⟨none, 0, 0, rfl, rfl, sl, v, hb, hi.oth ho hd⟩

theorem peer_ok (F : Interp) (a : Addr) (s : ByteArray) (b cap : Nat) (S : List UInt8) (h18 : 18 ≤ S.length) (hN : told S ≤ S.length - 18) (hlc : S.length ≤ cap) (hcap : cap ≤ 1048576 * 4) (f1 f2 : ByteArray) (w : World) (hE : Env F a s w) (hR : RowOf w b S) (hbw : b < w.heap.size) :
    Calls Tryf.prog 18 #[.slice (some ⟨b, 0, none⟩) S.length cap, .string f1, .string f2] w fun e w' => ∃ dv ev, (∃ o, (18 < cap → o = 18) ∧ dv = .slice (some ⟨b, o, none⟩) (told S) (told S)) ∧ (if told S = S.length - 18 then ev = .nilIface else Bad ev) ∧ e = .returned (.tuple #[.agg (ids16 S), dv, ev]) ∧ Below w.heap.size w w' := by
  refine peer_ge16 b cap S (by omega) hlc hcap f1 f2 w hR hbw (fun sl ev => ev = .nilIface ∧ ∃ o, sl = .slice (some ⟨b, o, none⟩) (S.length - 16 - 2 - told S) (cap - 16 - 2 - told S)) (fun v => ∃ o, (18 < cap → o = 18) ∧ v = .slice (some ⟨b, o, none⟩) (told S) (told S)) (fun ev => if told S = S.length - 18 then ev = .nilIface else Bad ev) ?_ ?_
  · rintro W sl1 ev1 ⟨rfl, o, ho, rfl⟩ hi
    obtain rfl : o = 16 := ho (by omega)
    have hRW := hR.below hi.bel hbw
    refine (opq_ok _ _ b 16 (S.length - 16) (cap - 16) (ch S 16) (ch S 17) (told S) (by omega) (by omega) (ch_lt _ _) (ch_lt _ _) rfl (by omega) W hi.dec (by omega) (hRW 16 (by omega)) (hRW 17 (by omega))).mono ?_
    rintro e W' ⟨o2, o3, rfl, ho2, ho, hd⟩
    exact ⟨_, _, _, rfl, ⟨o2, fun h => ho2 (by omega), rfl⟩, _, _, ⟨rfl, o3, rfl⟩, hi.oth ho hd⟩
  · rintro W sl2 ev2 ⟨rfl, o, rfl⟩ hi
    by_cases hq : told S = S.length - 18
    · have h0 : S.length - 16 - 2 - told S = 0 := by omega
      rw [h0] at hi
      refine (end_ok _ _ _ _ f2 W hi.dec).mono ?_
      rintro e W' ⟨rfl, rfl⟩
      exact ⟨rfl, _, .nilIface, by simp [hq], hi⟩
    · refine (end_more F a s _ _ _ _ _ (by omega) f2 W hi.dec (hi.env hE)).mono ?_
      rintro e W' ⟨rfl, ho, v, hb, hd⟩
      exact ⟨rfl, _, v, by rw [if_neg hq]; exact hb, hi.oth ho hd⟩
end Go.Proofs.Qxb6606217aFmt
