/-
  THE STATEMENT's FUNCTION, WALKED.
-/
import Derived.Test.Qxb6605573aWalk
import Derived.Test.Qxb6605573aVal
import Derived.Test.Qxb6605573aParts
import Derived.OpenShut
namespace Go.Proofs.Qxb6605573a
open Go.RowKit

theorem bytes_of (zs : List Int) (h : ∀ n ∈ zs, (Lit.int .u8 n).wf = true) : ∀ j, j < zs.length → zs.getD j 0 = ((ch (zs.map fun n => UInt8.ofNat n.toNat) j : Nat) : Int) := by
  intro j hj
  have hm : zs[j] ∈ zs := List.getElem_mem hj
  have hw := h _ hm
  have hb : 0 ≤ zs[j] ∧ zs[j] < 256 := by have := bounds_u8 hw; omega
  simp [ch, List.getD, hj]
  omega

theorem cell_lt {w : World} {a : Addr} {v : Value} (h : w.cell? a = some v) : a.block < w.heap.size := by
  by_cases hb : a.block < w.heap.size
  · exact hb
  · simp [World.cell?, Array.getElem?_eq_none (Nat.le_of_not_lt hb)] at h

/-- What the loop at the end keeps. -/
def LRel (w : World) (mb db g cap B1 B2 : Nat) (S : List UInt8) (pos : Int) (esc : Bool) (sca : Int) (E : List (Nat × Nat)) (av nv cv : Value) (kv : Value) (wr : World) : Prop :=
  ∃ (k : Nat) (st : List Int) (go co : Nat), kv = .int .i64 (k : Int) ∧ k ≤ E.length ∧ Below w.heap.size w wr ∧ ScanAt wr mb g cap B1 S (E.map (·.1)) (E.map (·.2)) E.length av nv ∧ WkAt wr db g cap B2 S pos esc sca st E go co cv

theorem bel_drewN {B : Nat} {a w : World} (h : Below B a w) (n : Nat) : Below B a (w.drewN n) := ⟨h.os, h.tape, h.output, h.size, h.block⟩
theorem ScanAt.drew {w : World} {mb g cap B : Nat} {S : List UInt8} {A N : List Nat} {cnt : Nat} {av nv : Value} (h : ScanAt w mb g cap B S A N cnt av nv) (n : Nat) : ScanAt (w.drewN n) mb g cap B S A N cnt av nv := h.keep (fun _ _ => rfl) (Nat.le_refl _)
theorem WkAt.drew {w : World} {db g cap B : Nat} {S : List UInt8} {pos : Int} {esc : Bool} {sca : Int} {st : List Int} {D : List (Nat × Nat)} {go co : Nat} {cv : Value} (h : WkAt w db g cap B S pos esc sca st D go co cv) (n : Nat) : WkAt (w.drewN n) db g cap B S pos esc sca st D go co cv := h.keep (fun _ _ => rfl) (Nat.le_refl _)

set_option maxRecDepth 10000 in
set_option maxHeartbeats 4000000 in
theorem main_row (x : Addr) (len cap : Nat) (S : List UInt8) (hS : S.length = len) (hlen : len ≤ 1048576) (a1 : Int) (a2 : Bool) (a3 : Int) (p : Nat) (hp : p < len) (a5 : Bool) (w : World) (hc : ∀ j, j < S.length → w.cell? (x.add j) = some (.int .u8 ((ch S j : Nat) : Int))) :
    Calls Try.prog 5 #[.slice (some x) len cap, .int .i64 a1, .bool a2, .int .i64 a3, .int .i64 ((p : Int) + 1), .bool a5] w fun e w' => e = .returned (.bool true) ∧ Below w.heap.size w w' := by
  have hx0 : x.block < w.heap.size := by
    have := hc 0 (by omega)
    exact cell_lt (by simpa [Addr.add] using this)
  have HC : Hid (∀ j, j < S.length → w.cell? (x.add j) = some (.int .u8 ((ch S j : Nat) : Int))) := hc
  clear hc
  subst hS
  have hpb : (p : Int) < (S.length : Int) := by omega
  have hpb2 : ¬ (S.length : Int) < (p : Int) + 1 := by omega
  have hpb3 : ¬ (p : Int) + 1 < 1 := by omega
  go_enter Try.func5, Try.ntmps5
  go_wp2_with fail
  refine (bytes_any (some x) S.length cap (by omega) _ _ _ _ _ w).mono ?_
  rintro e w' ⟨rfl, rfl⟩
  have hd : decide (S.length ≤ 1048576) = true := by simp; omega
  rw [hd]
  clear hd
  go_wp2_with fail
  refine (clone_any x S.length cap S rfl hlen w HC.out (fun _ => hx0)).mono ?_
  rintro e w1 ⟨rfl, hb1, hr1, hs1⟩
  have HB1 : Hid (Below w.heap.size w w1) := hb1
  have HR1 : Hid (RowOf w1 w.heap.size S) := hr1
  have hcp := hr1 p hp
  clear hb1 hr1 HC
  by_cases h91 : ch S p = 91
  · rw [h91] at hcp
    clear h91
    have HSC : Hid (ScanAt (w1.alloc (.cells #[.slice (some ⟨w.heap.size, 0, none⟩) S.length S.length, .slice none 0 0, .slice none 0 0, .int .i64 0] 30)) w1.heap.size w.heap.size S.length (w1.heap.size + 1) S [] [] 0 (.slice none 0 0) (.slice none 0 0)) :=
      ⟨heap_alloc_new w1 _, HR1.out.of_block (Below.heap_alloc w1 _ _ hs1), SRow.nil _ _ _, SRow.nil _ _ _, (fun k h => by cases h), by omega, by omega, by omega, by simp⟩
    have HB2 : Hid (Below w.heap.size w (w1.alloc (.cells #[.slice (some ⟨w.heap.size, 0, none⟩) S.length S.length, .slice none 0 0, .slice none 0 0, .int .i64 0] 30))) := HB1.out.alloc (by omega) _
    go_wp2_with fail
    refine (array_any w1.heap.size w.heap.size S.length (w1.heap.size + 1) S hlen p hp [] (by simp) _ ⟨_, _, HSC.out⟩).mono ?_
    rintro e w3 ⟨hb3, hres⟩
    have HB3 : Hid (Below w.heap.size w w3) := HB2.out.trans (hb3.mono (by omega))
    rcases hres with rfl | ⟨q, E, rfl, hA, hle, av, nv, hsc⟩
    · clear hb3 hcp
      go_wp2
      go_ret
      exact ⟨rfl, HB3.out⟩
    have hs3 : w1.heap.size < w3.heap.size := by have := hb3.size; simp at this; omega
    have hE0 : Ends S ⟨p + 1, true, p + 1, [], []⟩ (q, E) := by have := hA.2.2.1 []; simpa using this
    have HE : Hid (Ends S ⟨p + 1, true, p + 1, [], []⟩ (q, E)) := hE0
    have HSC3 : Hid (ScanAt w3 w1.heap.size w.heap.size S.length (w1.heap.size + 1) S (E.map (·.1)) (E.map (·.2)) E.length av nv) := hsc
    have hEq : E.length ≤ q := by simpa using hle
    have hqS : q ≤ S.length := hA.2.1
    clear hb3 hcp hsc hle hA HSC hE0
    have hqb : ¬ (q : Int) < 0 := by omega
    go_wp2_with fail
    refine (new_any _ _ _ _ ⟨_, _, _, rfl⟩ w3).mono ?_
    rintro e w4 ⟨rfl, hw4⟩
    have HW4 : Hid (w3.alloc (.cells #[.slice (some ⟨w.heap.size, 0, none⟩) S.length S.length, .int .i64 a1, .bool a2, .slice none 0 0, .int .i64 a3] 46) = w4) := hw4
    have hs4 : w4.heap.size = w3.heap.size + 1 := by rw [← hw4]; simp
    have hblk : w4.heap[w3.heap.size]? = some (.cells #[.slice (some ⟨w.heap.size, 0, none⟩) S.length S.length, .int .i64 a1, .bool a2, .slice none 0 0, .int .i64 a3] 46 (0, 0)) := by rw [← hw4]; exact heap_alloc_new w3 _
    have hsc4 : ScanAt w4 w1.heap.size w.heap.size S.length (w1.heap.size + 1) S (E.map (·.1)) (E.map (·.2)) E.length av nv := by rw [← hw4]; exact HSC3.out.alloc _
    have HB4 : Hid (Below w.heap.size w w4) := by rw [← hw4]; exact HB3.out.alloc (by omega) _
    have HWA : Hid (Calls Try.prog 19 #[.pointer (some ⟨w3.heap.size, 0, none⟩), .int .i64 ((p : Int) + 1), .bool a5] w4 fun e w' => e = .returned (.tuple #[.int .i64 (q : Int), .int .i64 (E.length : Int)]) ∧ Below w3.heap.size w4 w' ∧ ∃ go co cv st, WkAt w' w3.heap.size w.heap.size S.length w4.heap.size S a1 a2 a3 st (kept a5 E) go co cv) := by
      refine walkdoor_any _ _ _ _ (fun _ w' => Below w3.heap.size w4 w' ∧ ∃ go co cv st, WkAt w' w3.heap.size w.heap.size S.length w4.heap.size S a1 a2 a3 st (kept a5 E) go co cv) _ _ ?_
      have := walk_any w3.heap.size w.heap.size S.length S hlen a1 a2 a3 a5 (p + 1) (q, E) w4 hblk hsc4.row (by omega) (by omega) HE.out
      rw [show ((p + 1 : Nat) : Int) = (p : Int) + 1 by omega] at this
      exact this
    clear hw4 hblk hsc4 HE HB3
    go_wp2_with fail
    refine HWA.out.mono ?_
    rintro e w5 ⟨rfl, hb5, go, co, cv, st, hwk⟩
    have HB5 : Hid (Below w.heap.size w w5) := HB4.out.trans (hb5.mono (by omega))
    have HS5 : Hid (ScanAt w5 w1.heap.size w.heap.size S.length (w1.heap.size + 1) S (E.map (·.1)) (E.map (·.2)) E.length av nv) := HSC3.out.keep (fun k hk => (hb5.block k hk).trans (by rw [← HW4.out]; exact Below.heap_alloc w3 _ k hk)) (by have := hb5.size; omega)
    have c3 := HS5.out.c3
    clear HWA HSC3 HW4 HB4 hb5
    cases a5
    · have HWK : Hid (WkAt w5 w3.heap.size w.heap.size S.length w4.heap.size S a1 a2 a3 st [] go co cv) := hwk
      obtain ⟨ao, ca, rfl⟩ := hwk.cnt.shape
      have d3 := hwk.c3
      clear hwk
      go_wp2_with fail
      refine (len_any w3.heap.size ao 0 ca w5 d3).mono ?_
      rintro e w6 ⟨rfl, rfl⟩
      go_wp2
      go_ret
      exact ⟨rfl, HB5.out⟩
    · have HWK : Hid (WkAt w5 w3.heap.size w.heap.size S.length w4.heap.size S a1 a2 a3 st E go co cv) := hwk
      obtain ⟨ao, ca, rfl⟩ := HWK.out.cnt.shape
      obtain ⟨bo, cb, rfl⟩ := HS5.out.ats.shape
      have hla : (E.map (·.1)).length = E.length := by simp
      have c1 := HS5.out.c1
      rw [hla] at c1
      have d3 := HWK.out.c3
      clear hwk
      have hq : ∀ n, Calls Try.prog 20 #[.pointer (some ⟨w3.heap.size, 0, none⟩)] (w5.drewN n) fun e w' => e = .returned (.int .i64 (E.length : Int)) ∧ w' = w5.drewN n := fun n => (len_any w3.heap.size ao E.length ca (w5.drewN n) d3).mono fun e w' h => ⟨h.1, h.2.symm⟩
      go_wp2
      go_quiet (first | (go_at_call 20; exact Calls.quiet_of_same (hq _)))
      go_wp2
      have HR0 : Hid (LRel w w1.heap.size w3.heap.size w.heap.size S.length (w1.heap.size + 1) w4.heap.size S a1 a2 a3 E (.slice bo (E.map (·.1)).length cb) nv (.slice ao E.length ca) (.int .i64 0) (w5.drewN nq)) := ⟨0, st, go, co, rfl, Nat.zero_le _, bel_drewN HB5.out _, HS5.out.drew _, HWK.out.drew _⟩
      go_loopw [18] (fun kv wr => LRel w w1.heap.size w3.heap.size w.heap.size S.length (w1.heap.size + 1) w4.heap.size S a1 a2 a3 E (.slice bo (E.map (·.1)).length cb) nv (.slice ao E.length ca) kv wr) (fun kv _ => E.length + 1 - (intOf kv).toNat)
      case atStart => exact HR0.out
      case round =>
        clear HR0 HB5 HS5 HWK c1 c3 d3 hq
        obtain ⟨k, st, go, co, rfl, hk, hbr, hsr, hwr⟩ := hrel
        have HB : Hid (Below w.heap.size w wr) := hbr
        have HS : Hid (ScanAt wr w1.heap.size w.heap.size S.length (w1.heap.size + 1) S (E.map (·.1)) (E.map (·.2)) E.length (.slice bo (E.map (·.1)).length cb) nv) := hsr
        have HW : Hid (WkAt wr w3.heap.size w.heap.size S.length w4.heap.size S a1 a2 a3 st E go co (.slice ao E.length ca)) := hwr
        have c1 := hsr.c1
        rw [hla] at c1
        clear hbr hsr hwr
        by_cases hkE : k < E.length
        · have hkb : (k : Int) < (E.length : Int) := by omega
          obtain ⟨ga, cga, hva, _, _, _, _, hca⟩ := HS.out.ats.at_ (by rw [hla]; omega)
          obtain ⟨gn, cgn, hvn, _, _, _, _, hcn⟩ := HS.out.ns.at_ (by simp; omega)
          obtain ⟨gc, cgc, hvc, _, _, _, _, hcc⟩ := HW.out.cnt.at_ (by omega)
          have hlb : (E.map (·.2)).length = E.length := by simp
          have e1 : wr.cell? ⟨ga, k, none⟩ = some (.int .i64 ((E.getD k (0, 0)).1 : Int)) := hca k _ (by rw [ints_at (by rw [hla]; exact hkE)]; simp [List.getD, hkE])
          have e2 : wr.cell? ⟨gn, k, none⟩ = some (.int .i64 ((E.getD k (0, 0)).2 : Int)) := hcn k _ (by rw [ints_at (by rw [hlb]; exact hkE)]; simp [List.getD, hkE])
          have e3 : wr.cell? ⟨gc, k * 2, none⟩ = some (.int .i64 ((E.getD k (0, 0)).1 : Int)) := hcc _ _ (pairs_at E k hkE).1
          have e4 : wr.cell? ⟨gc, k * 2 + 1, none⟩ = some (.int .i64 ((E.getD k (0, 0)).2 : Int)) := hcc _ _ (pairs_at E k hkE).2
          have c2 := HS.out.c2
          rw [hvn, hlb] at c2
          rw [hla] at hva
          rw [hva] at c1
          have d3 := HW.out.c3
          rw [hvc] at d3
          generalize hn1 : (E.getD k (0, 0)).1 = n1 at *
          generalize hn2 : (E.getD k (0, 0)).2 = n2 at *
          clear hca hcn hcc hva hvn hvc hn1 hn2
          go_wp2_with fail
          refine (at_any w3.heap.size gc E.length cgc k hkE _ _ wr d3 e3 e4).mono ?_
          rintro e w6 ⟨rfl, hw6⟩
          have HW6 : Hid (wr.drew = w6) := hw6
          have f1 : w6.cell? ⟨w1.heap.size, 1, none⟩ = some (.slice (some ⟨ga, 0, none⟩) E.length cga) := by rw [← hw6]; exact c1
          have f2 : w6.cell? ⟨w1.heap.size, 2, none⟩ = some (.slice (some ⟨gn, 0, none⟩) E.length cgn) := by rw [← hw6]; exact c2
          have f3 : w6.cell? ⟨ga, k, none⟩ = some (.int .i64 (n1 : Int)) := by rw [← hw6]; exact e1
          have f4 : w6.cell? ⟨gn, k, none⟩ = some (.int .i64 (n2 : Int)) := by rw [← hw6]; exact e2
          clear hw6 c1 c2 e1 e2 e3 e4 d3
          go_wp2
          go_roundw
          case rel => exact ⟨k + 1, st, go, co, by go_num, by omega, by rw [← HW6.out]; exact HB.out.drew, by rw [← HW6.out]; exact HS.out.drew 1, by rw [← HW6.out]; exact HW.out.drew 1⟩
          case measure => simp [intOf]; omega
        · have hkb : ¬ (k : Int) < (E.length : Int) := by omega
          go_wp2
          go_ret
          exact ⟨rfl, HB.out⟩
  · have h91' : (((ch S p : Nat) : Int) != 91) = true := by simp; omega
    generalize ch S p = c at *
    go_wp2
    go_ret
    exact ⟨rfl, HB1.out⟩
end Go.Proofs.Qxb6605573a
