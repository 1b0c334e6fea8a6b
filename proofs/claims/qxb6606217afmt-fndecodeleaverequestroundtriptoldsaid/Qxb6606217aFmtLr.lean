/-
  WHAT DecodeLeaveRequest ANSWERS, CASE BY CASE.
-/
import Derived.Test.Qxb6606217aFmtDec
import Derived.Test.Qxb6606217aFmtSml
namespace Go.Proofs.Qxb6606217aFmt
open Go.RowKit Go.Extern.Stop Go.Stop Go.Extern

def z17 (dv : Value) : Array Value := #[.int .u8 0, .int .u8 0, .int .u8 0, .int .u8 0, .int .u8 0, .int .u8 0, .int .u8 0, .int .u8 0, .int .u8 0, .int .u8 0, .int .u8 0, .int .u8 0, .int .u8 0, .int .u8 0, .int .u8 0, .int .u8 0, dv]
def ids17 (S : List UInt8) (dv : Value) : Array Value := #[.int .u8 (ch S 0 : Int), .int .u8 (ch S 1 : Int), .int .u8 (ch S 2 : Int), .int .u8 (ch S 3 : Int), .int .u8 (ch S 4 : Int), .int .u8 (ch S 5 : Int), .int .u8 (ch S 6 : Int), .int .u8 (ch S 7 : Int), .int .u8 (ch S 8 : Int), .int .u8 (ch S 9 : Int), .int .u8 (ch S 10 : Int), .int .u8 (ch S 11 : Int), .int .u8 (ch S 12 : Int), .int .u8 (ch S 13 : Int), .int .u8 (ch S 14 : Int), .int .u8 (ch S 15 : Int), dv]

theorem lr_lt16 (F : Interp) (a : Addr) (s : ByteArray) (sa : Option Addr) (len cap : Nat) (hl : len < 16) (w : World) (hE : Env F a s w) :
    Calls Tryf.prog 13 #[.slice sa len cap] w fun e w' => ∃ dv ev, dv = .slice none 0 0 ∧ Bad ev ∧ e = .returned (.tuple #[.agg (z17 dv), ev]) ∧ Below w.heap.size w w' :=
  dec_any _ ⟨_, _, _, rfl⟩ w 0 0 0 0 0 0 0 0 0 0 0 0 0 0 0 0 (fun v => v = .slice none 0 0) Bad (fun _ h => ⟨_, _, _, h⟩) fun w1 hb => peer_lt16 F a s sa len cap hl nm1 nm2 w1 (hE.below hb)

theorem lr_ge16 (b cap : Nat) (S : List UInt8) (w : World) (pd p3 : Value → Prop) (hpd : ∀ v, pd v → ∃ a n c, v = .slice a n c)
    (h : ∀ w1, Below w.heap.size w w1 → Calls Tryf.prog 18 #[.slice (some ⟨b, 0, none⟩) S.length cap, .string nm1, .string nm2] w1 fun e w' => ∃ dv ev, pd dv ∧ p3 ev ∧ e = .returned (.tuple #[.agg (ids16 S), dv, ev]) ∧ Below w1.heap.size w1 w') :
    Calls Tryf.prog 13 #[.slice (some ⟨b, 0, none⟩) S.length cap] w fun e w' => ∃ dv ev, pd dv ∧ p3 ev ∧ e = .returned (.tuple #[.agg (ids17 S dv), ev]) ∧ Below w.heap.size w w' :=
  dec_any _ ⟨_, _, _, rfl⟩ w (ch S 0 : Int) (ch S 1 : Int) (ch S 2 : Int) (ch S 3 : Int) (ch S 4 : Int) (ch S 5 : Int) (ch S 6 : Int) (ch S 7 : Int) (ch S 8 : Int) (ch S 9 : Int) (ch S 10 : Int) (ch S 11 : Int) (ch S 12 : Int) (ch S 13 : Int) (ch S 14 : Int) (ch S 15 : Int) pd p3 hpd h

theorem lr_bad (F : Interp) (a : Addr) (s : ByteArray) (b cap : Nat) (S : List UInt8) (h16 : 16 ≤ S.length) (hc : S.length < 18 ∨ (18 ≤ S.length ∧ S.length - 18 < told S)) (hlc : S.length ≤ cap) (hcap : cap ≤ 1048576 * 4) (w : World) (hE : Env F a s w) (hR : RowOf w b S) (hbw : b < w.heap.size) :
    Calls Tryf.prog 13 #[.slice (some ⟨b, 0, none⟩) S.length cap] w fun e w' => ∃ dv ev, dv = .slice none 0 0 ∧ Bad ev ∧ e = .returned (.tuple #[.agg (ids17 S dv), ev]) ∧ Below w.heap.size w w' := by
  refine lr_ge16 b cap S w (fun v => v = .slice none 0 0) Bad (fun _ h => ⟨_, _, _, h⟩) fun w1 hb => ?_
  have hs := hb.size
  rcases hc with hc | ⟨h18, hc⟩
  · exact peer_lt18 F a s b cap S h16 hc hlc hcap nm1 nm2 w1 (hE.below hb) (hR.below hb hbw) (by omega)
  · exact peer_past F a s b cap S h18 hc hlc hcap nm1 nm2 w1 (hE.below hb) (hR.below hb hbw) (by omega)

theorem lr_ok (F : Interp) (a : Addr) (s : ByteArray) (b cap : Nat) (S : List UInt8) (h18 : 18 ≤ S.length) (hN : told S ≤ S.length - 18) (hlc : S.length ≤ cap) (hcap : cap ≤ 1048576 * 4) (w : World) (hE : Env F a s w) (hR : RowOf w b S) (hbw : b < w.heap.size) :
    Calls Tryf.prog 13 #[.slice (some ⟨b, 0, none⟩) S.length cap] w fun e w' => ∃ dv ev, (∃ o, (18 < cap → o = 18) ∧ dv = .slice (some ⟨b, o, none⟩) (told S) (told S)) ∧ (if told S = S.length - 18 then ev = .nilIface else Bad ev) ∧ e = .returned (.tuple #[.agg (ids17 S dv), ev]) ∧ Below w.heap.size w w' := by
  refine lr_ge16 b cap S w (fun v => ∃ o, (18 < cap → o = 18) ∧ v = .slice (some ⟨b, o, none⟩) (told S) (told S)) (fun ev => if told S = S.length - 18 then ev = .nilIface else Bad ev) (fun _ h => by obtain ⟨o, _, h⟩ := h; exact ⟨_, _, _, h⟩) fun w1 hb => ?_
  have hs := hb.size
  exact peer_ok F a s b cap S h18 hN hlc hcap nm1 nm2 w1 (hE.below hb) (hR.below hb hbw) (by omega)
end Go.Proofs.Qxb6606217aFmt
