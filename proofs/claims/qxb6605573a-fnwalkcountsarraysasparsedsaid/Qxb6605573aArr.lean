/-
  THE READER's ARRAY.
-/
import Derived.Test.Qxb6605573aScan
namespace Go.Proofs.Qxb6605573a
open Go.RowKit

/-- The contract of 'value', at every place behind p. -/
def ValsFrom (mb g cap B : Nat) (S : List UInt8) (p : Nat) : Prop :=
  ∀ (q : Nat) (C : List (Nat × Nat)) (w : World), p < q → q ≤ S.length → C.length ≤ q → Scan w mb g cap B S C →
    Calls Try.prog 13 #[.pointer (some ⟨mb, 0, none⟩), .int .i64 (q : Int)] w (Post (Val S q) w mb g cap B S C)

/-- Where the array's loop stands. -/
def ArrRel (w : World) (mb g cap B : Nat) (S : List UInt8) (C : List (Nat × Nat)) (p : Nat) (qv : Value) (wr : World) : Prop :=
  ∃ (q j : Nat) (Es : List (Nat × Nat)), qv = .int .i64 (q : Int) ∧ j ≤ q ∧ q ≤ S.length ∧ p < q ∧ Below mb w wr ∧ Scan wr mb g cap B S (C ++ (p + 1, j) :: Es) ∧ (C ++ (p + 1, j) :: Es).length ≤ q ∧
    ((j = 0 ∧ Es = [] ∧ WsRun S (p + 1) q) ∨ ArrNext S p j q Es)

theorem skip_at (g cap : Nat) (S : List UInt8) (z : Int) (p : Nat) (w : World) (hR : RowOf w g S) (hL : S.length ≤ 1048576) (hz : z = (p : Int)) (hp : p ≤ S.length) :
    Calls Try.prog 23 #[.slice (some ⟨g, 0, none⟩) S.length cap, .int .i64 z] w fun e w' => (∃ q : Nat, e = .returned (.int .i64 (q : Int)) ∧ WsRun S p q ∧ q ≤ S.length ∧ (q < S.length → isWs (ch S q) = false)) ∧ w = w' := by
  subst hz
  refine (skip_any g cap S p w hR hL hp).mono ?_
  rintro e w' ⟨h, rfl⟩
  exact ⟨h, rfl⟩

theorem one_cell (w : World) (z : Int) : ∀ j u, [Value.int .i64 z][j]? = some u → (w.alloc (.cells #[.int .i64 z] 3)).cell? ((⟨w.heap.size, 0, none⟩ : Addr).add j) = some u := by
  intro j u hj
  match j, hj with
  | 0, hj => simp at hj; subst hj; simp [Addr.add]

/-- 'append(list, z)', list an owned slice of ints; z lies in the block that was laid last. -/
theorem appI (w : World) (z : Int) {ops : Array Oper} {rest : List Oper} {o : Oper} {a : Act} {Q : Exit → Act → World → Prop}
    (hg : o.guard = none) (s x : Operand) (hop : o.op = Op.call { callee := Callee.builtin Builtin.append, args := #[s, x], argTypes := #[28, 28] })
    (B n : Nat) (xs : List Value) (ao : Option Addr) (c : Nat) (hs : a.eval s = .slice ao n c) (hr : SRow w B 1 (.slice ao n c) n xs) (k : Nat) (hx : a.eval x = .slice (some ⟨k, 0, none⟩) 1 1) (hk : k = w.heap.size) (hn : n ≤ 4000000) (hB : B ≤ w.heap.size)
    (hK : ∀ g cap w', SRow w' B 1 (.slice (some ⟨g, 0, none⟩) (n + 1) cap) (n + 1) (xs ++ [.int .i64 z]) → (w.alloc (.cells #[.int .i64 z] 3)).grownBy w' (Value.slice ao n c).ownBlock → ((Value.slice ao n c).ownBlock = some g ∨ (w.alloc (.cells #[.int .i64 z] 3)).heap.size ≤ g) → wpList Try.prog ops Q rest (a.put o.dst (.slice (some ⟨g, 0, none⟩) (n + 1) cap)) w') :
    wpList Try.prog ops Q (o :: rest) a (w.alloc (.cells #[.int .i64 z] 3)) := by
  obtain ⟨i0, hi, hz0, hz1, hz2⟩ := info_parts info3
  subst hk
  refine appS _ hg s x 28 hop 3 i0 (.int .i64 0) 1 8 Try.underlying28 hi hz0 hz1 hz2 rfl (by decide) B _ n xs hs (hr.keep (fun b e => Below.heap_alloc w _ b (hr.lt b e).2) (by simp)) ⟨w.heap.size, 0, none⟩ 1 [.int .i64 z] hx rfl (one_cell w z) (by intro u hu; simp at hu; subst hu; rfl) (by unfold maxLen; omega) (by omega) (by simp; omega) hK

set_option maxRecDepth 10000 in
set_option maxHeartbeats 4000000 in
theorem arr_of (mb g cap B : Nat) (S : List UInt8) (hL : S.length ≤ 1048576) (p : Nat) (hp : p < S.length) (IH : ValsFrom mb g cap B S p) (C : List (Nat × Nat)) (hC : C.length ≤ p) (w : World) (hsc : Scan w mb g cap B S C) :
    Calls Try.prog 18 #[.pointer (some ⟨mb, 0, none⟩), .int .i64 (p : Int)] w (Post (Arr S p) w mb g cap B S C) := by
  have IH' : Hid (ValsFrom mb g cap B S p) := IH
  obtain ⟨av, nv, hs⟩ := hsc
  obtain ⟨ao, ca, rfl⟩ := hs.ats.shape
  obtain ⟨bo, cb, rfl⟩ := hs.ns.shape
  have HS : Hid (ScanAt w mb g cap B S (C.map (·.1)) (C.map (·.2)) C.length (.slice ao (C.map (·.1)).length ca) (.slice bo (C.map (·.2)).length cb)) := hs
  have hla : (C.map (·.1)).length = C.length := by simp
  have hlb : (C.map (·.2)).length = C.length := by simp
  have c0 := hs.c0
  have c1 := hs.c1
  have c2 := hs.c2
  have c3 := hs.c3
  have f1 := hs.fz 1
  have f2 := hs.fz 2
  have f3 := hs.fz 3
  have HR : Hid (RowOf w g S) := hs.row
  have HA : Hid (SRow w B 1 (.slice ao C.length ca) C.length (ints (C.map (·.1)))) := by have := hs.ats; rw [hla] at this; exact this
  have hBw : B ≤ w.heap.size := hs.Bw
  rw [hla] at c1
  rw [hlb] at c2
  clear hs IH
  have hpb : (p : Int) + 1 ≤ (S.length : Int) := by omega
  go_enter Try.func18, Try.ntmps18
  go_wp2_with fail
  refine (skip_at g cap S _ (p + 1) w HR.out hL (by omega) (by omega)).mono ?_
  rintro e w' ⟨⟨q, rfl, hws, hql, hnw0⟩, rfl⟩
  clear hnw0
  have HW : Hid (WsRun S (p + 1) q) := hws
  have hpq : p < q := by have := hws.1; omega
  clear hws
  by_cases hq : q < S.length
  · have hcq := HR.out q hq
    have hqb : (q : Int) < (S.length : Int) := by omega
    by_cases h93 : ch S q = 93
    · have H93 : Hid (ch S q = 93) := h93
      rw [h93] at hcq
      clear h93
      go_wp2
      go_ret
      refine ⟨Below.refl _ _, .inr ⟨q + 1, [], by go_num, arr_empty HW.out hq H93.out, by simp; omega, ?_⟩⟩
      rw [List.append_nil]
      exact ⟨_, _, HS.out⟩
    · have h93' : (((ch S q : Nat) : Int) == 93) = false := by simp; omega
      generalize ch S q = c at *
      clear h93
      go_wp2_with (at_builtin; refine appI w _ rfl _ _ rfl B C.length _ ao ca rfl HA.out _ rfl rfl (by omega) hBw ?_)
      intro k1 cap1 w1 hS1 hg1 hf1
      have m1 := (HS.out.alloc (.cells #[.int .i64 ((p : Int) + 1)] 3)).mid1 (by rw [hla]; exact hg1)
      have SC1 : Hid (ScanAt (w1.setCell ⟨mb, 1, none⟩ (.slice (some ⟨k1, 0, none⟩) (C.length + 1) cap1)) mb g cap B S (C.map (·.1) ++ [p + 1]) (C.map (·.2)) C.length (.slice (some ⟨k1, 0, none⟩) (C.length + 1) cap1) (.slice bo (C.map (·.2)).length cb)) := by
        have := (HS.out.alloc (.cells #[.int .i64 ((p : Int) + 1)] 3)).grow1 (k := k1) (c := cap1) (z := p + 1) (by rw [hla, show ((p + 1 : Nat) : Int) = (p : Int) + 1 by omega]; exact hS1) (by rw [hla]; exact hg1) (by rw [hla]; simpa using hf1)
        rw [hla] at this; exact this
      have HB1 : Hid (Below mb w w1) := ((Below.refl mb w).alloc (by have := HS.out.mw; omega) _).grown hg1 (by have := HS.out.mw; simp; omega) (fun k hk => by have := HS.out.mB; have := (HS.out.ats.lt k (by rw [hla]; exact hk)).1; omega)
      rw [hla, hlb] at m1
      have d1 : w1.cell? ⟨mb, 1, none⟩ = some (.slice ao C.length ca) := by rw [cell_of_row _ _ _ _ _ _ m1]; rfl
      have d2 : w1.cell? ⟨mb, 2, none⟩ = some (.slice bo C.length cb) := by rw [cell_of_row _ _ _ _ _ _ m1]; rfl
      have g1 : w1.frozen? ⟨mb, 1, none⟩ = false := frozen_of_row _ _ _ _ _ m1
      have HN : Hid (SRow (w1.setCell ⟨mb, 1, none⟩ (.slice (some ⟨k1, 0, none⟩) (C.length + 1) cap1)) B 1 (.slice bo C.length cb) C.length (ints (C.map (·.2)))) := by have := SC1.out.ns; rw [hlb] at this; exact this
      have hBw1 : B ≤ (w1.setCell ⟨mb, 1, none⟩ (.slice (some ⟨k1, 0, none⟩) (C.length + 1) cap1)).heap.size := SC1.out.Bw
      clear m1 hS1 hg1 hf1 c1 c2 c3 f1 f2 f3 hBw
      go_wp2_with (at_builtin; refine appI (w1.setCell ⟨mb, 1, none⟩ (.slice (some ⟨k1, 0, none⟩) (C.length + 1) cap1)) _ rfl _ _ rfl B C.length _ bo cb rfl HN.out _ rfl (by simp) (by omega) hBw1 ?_)
      intro k2 cap2 w2 hS2 hg2 hf2
      have m2 := (SC1.out.alloc (.cells #[.int .i64 0] 3)).mid2 (by rw [hlb]; exact hg2)
      have SC2 : Hid (ScanAt (w2.setCell ⟨mb, 2, none⟩ (.slice (some ⟨k2, 0, none⟩) (C.length + 1) cap2)) mb g cap B S (C.map (·.1) ++ [p + 1]) (C.map (·.2) ++ [0]) C.length (.slice (some ⟨k1, 0, none⟩) (C.length + 1) cap1) (.slice (some ⟨k2, 0, none⟩) (C.length + 1) cap2)) := by
        have := (SC1.out.alloc (.cells #[.int .i64 0] 3)).grow2 (k := k2) (c := cap2) (z := 0) (by rw [hlb]; exact hS2) (by rw [hlb]; exact hg2) (by rw [hlb]; simpa using hf2)
        rw [hlb] at this; exact this
      have HB2 : Hid (Below mb w w2) := ((HB1.out.setCell (p := ⟨mb, 1, none⟩) (Nat.le_refl _) _).alloc (by have := SC1.out.mw; omega) _).grown hg2 (by have := SC1.out.mw; simp at this; simp; omega) (fun k hk => by have := SC1.out.mB; have := (SC1.out.ns.lt k (by rw [hlb]; exact hk)).1; omega)
      rw [hlb] at m2
      have d3 : w2.cell? ⟨mb, 2, none⟩ = some (.slice bo C.length cb) := by rw [cell_of_row _ _ _ _ _ _ m2]; rfl
      have d4 : w2.cell? ⟨mb, 3, none⟩ = some (.int .i64 (C.length : Int)) := by rw [cell_of_row _ _ _ _ _ _ m2]; rfl
      have g2 : w2.frozen? ⟨mb, 2, none⟩ = false := frozen_of_row _ _ _ _ _ m2
      have g3 : w2.frozen? ⟨mb, 3, none⟩ = false := frozen_of_row _ _ _ _ _ m2
      clear m2 hS2 hg2 hf2 d1 d2 g1 HN hBw1 SC1 HB1 c0 hcq h93'
      go_wp2
      go_loopw [5] (fun qv wr => ArrRel w mb g cap B S C p qv wr) (fun qv _ => S.length - (intOf qv).toNat)
      case atStart =>
        refine ⟨q, 0, [], rfl, Nat.zero_le _, hql, hpq, (HB2.out.setCell (p := ⟨mb, 2, none⟩) (Nat.le_refl _) _).setCell (p := ⟨mb, 3, none⟩) (Nat.le_refl _) _, ⟨.slice (some ⟨k1, 0, none⟩) (C.length + 1) cap1, .slice (some ⟨k2, 0, none⟩) (C.length + 1) cap2, ?_⟩, by simp; omega, .inl ⟨rfl, rfl, HW.out⟩⟩
        have := SC2.out.count (C.length + 1)
        simpa using this
      case round =>
        clear HB2 SC2 d3 d4 g2 g3 HA HS HR
        obtain ⟨q, j, Es, rfl, hjq, hql, hpq, hbel, hscan, hlen, hcase⟩ := hrel
        have HBR : Hid (Below mb w wr) := hbel
        have HSR : Hid (Scan wr mb g cap B S (C ++ (p + 1, j) :: Es)) := hscan
        have HCS : Hid ((j = 0 ∧ Es = [] ∧ WsRun S (p + 1) q) ∨ ArrNext S p j q Es) := hcase
        have hlen' : C.length + 1 + Es.length ≤ q := by simp at hlen; omega
        have HLN : Hid ((C ++ (p + 1, j) :: Es).length ≤ q) := hlen
        clear hbel hscan hcase hlen
        go_wp2_with fail
        refine (IH'.out q (C ++ (p + 1, j) :: Es) wr hpq hql HLN.out HSR.out).mono ?_
        rintro e w3 ⟨hb3, hres⟩
        have HB3 : Hid (Below mb w w3) := HBR.out.trans hb3
        clear hb3 HBR HSR
        rcases hres with rfl | ⟨e1, E, rfl, hv, hle, av3, nv3, hs3⟩
        · go_wp2
          go_ret
          exact ⟨HB3.out, .inl rfl⟩
        have hd : ArrDone S p (j + 1) e1 (Es ++ E) := by
          rcases HCS.out with ⟨rfl, rfl, hws⟩ | hn
          · exact arr_first hws hv
          · exact arr_more hn hv
        have HD : Hid (ArrDone S p (j + 1) e1 (Es ++ E)) := hd
        have he1 : e1 ≤ S.length := hd.1
        have hqe : q ≤ e1 := hv.2.1
        have hle' : C.length + 1 + Es.length + E.length ≤ e1 := by simp at hle; omega
        clear hd hv hle HCS
        have hnl : ((C ++ (p + 1, j) :: Es ++ E).map (·.2)).length = C.length + 1 + Es.length + E.length := by simp; omega
        obtain ⟨gn, cn, rfl, hgB, _, hncn, hth, hcs⟩ := hs3.ns.at_ (by rw [hnl]; omega)
        have hnj : ((C ++ (p + 1, j) :: Es ++ E).map (·.2)).getD C.length 0 = j := by simp [List.getD]
        have cj : w3.cell? ⟨gn, C.length, none⟩ = some (.int .i64 (j : Int)) := hcs C.length _ (by rw [ints_at (by rw [hnl]; omega), hnj])
        have fj : w3.frozen? ⟨gn, C.length, none⟩ = false := (hth C.length (by rw [hnl] at hncn; omega)).2
        rw [hnl] at hncn
        have c0 := hs3.c0
        have c2 := hs3.c2
        rw [hnl] at c2
        have hmg : ¬ mb = gn := by have := hs3.mB; omega
        have hgg : ¬ g = gn := by have := hs3.gB; omega
        have HR3 : Hid (RowOf w3 g S) := hs3.row
        have S4 : Hid (Scan (w3.setCell ⟨gn, C.length, none⟩ (.int .i64 ((j : Int) + 1))) mb g cap B S (C ++ ((p + 1, j + 1) :: (Es ++ E)))) := by
          refine ⟨av3, .slice (some ⟨gn, 0, none⟩) ((C ++ (p + 1, j) :: Es ++ E).map (·.2)).length cn, ?_⟩
          have := hs3.setN (j := C.length) (z := j + 1) (by rw [hnl]; omega)
          have e1 : ((C ++ (p + 1, j) :: Es ++ E).map (·.2)).set C.length (j + 1) = (C ++ ((p + 1, j + 1) :: (Es ++ E))).map (·.2) := by simp
          have e2 : (C ++ (p + 1, j) :: Es ++ E).map (·.1) = (C ++ ((p + 1, j + 1) :: (Es ++ E))).map (·.1) := by simp
          have e3 : (C ++ (p + 1, j) :: Es ++ E).length = (C ++ ((p + 1, j + 1) :: (Es ++ E))).length := by simp
          rw [e1, e2, e3] at this
          exact this
        have HB4 : Hid (Below mb w (w3.setCell ⟨gn, C.length, none⟩ (.int .i64 ((j : Int) + 1)))) := HB3.out.setCell (p := ⟨gn, C.length, none⟩) (by have := hs3.mB; show mb ≤ gn; omega) _
        have HR4 : Hid (RowOf (w3.setCell ⟨gn, C.length, none⟩ (.int .i64 ((j : Int) + 1))) g S) := HR3.out.of_block (heap_set_other hgg)
        clear hs3 hth hcs hnl hnj HB3
        have hkb : (C.length : Int) < (C.length : Int) + 1 + (Es.length : Int) + (E.length : Int) := by omega
        go_wp2_with fail
        refine (skip_at g cap S _ e1 _ HR4.out hL rfl he1).mono ?_
        rintro e w' ⟨⟨q2, rfl, hws2, hq2l, hnw2⟩, rfl⟩
        have HW2 : Hid (WsRun S e1 q2) := hws2
        have heq2 : e1 ≤ q2 := hws2.1
        clear hws2 hnw2 cj fj c2
        by_cases hq2 : q2 < S.length
        · have hcq2 := HR3.out q2 hq2
          have hqb2 : (q2 : Int) < (S.length : Int) := by omega
          by_cases h93 : ch S q2 = 93
          · have H93 : Hid (ch S q2 = 93) := h93
            rw [h93] at hcq2
            clear h93
            go_wp2
            go_ret
            exact ⟨HB4.out, .inr ⟨q2 + 1, _, by go_num, arr_close (by omega) HD.out HW2.out hq2 H93.out, by simp; omega, S4.out⟩⟩
          · by_cases h44 : ch S q2 = 44
            · have H44 : Hid (ch S q2 = 44) := h44
              rw [h44] at hcq2
              clear h93 h44
              go_wp2_with fail
              refine (skip_at g cap S _ (q2 + 1) _ HR4.out hL (by omega) (by omega)).mono ?_
              rintro e w' ⟨⟨q3, rfl, hws3, hq3l, hnw3⟩, rfl⟩
              have hq23 : q2 + 1 ≤ q3 := hws3.1
              have HN3 : Hid (ArrNext S p (j + 1) q3 (Es ++ E)) := arr_comma HD.out HW2.out hq2 H44.out hws3
              clear hws3 hnw3
              go_wp2
              go_roundw
              case rel => exact ⟨q3, j + 1, Es ++ E, rfl, by omega, hq3l, by omega, HB4.out, S4.out, by simp; omega, .inr HN3.out⟩
              case measure => simp [intOf]; omega
            · have h93' : (((ch S q2 : Nat) : Int) == 93) = false := by simp; omega
              have h44' : (((ch S q2 : Nat) : Int) != 44) = true := by simp; omega
              generalize ch S q2 = c2 at *
              clear h93 h44
              go_wp2
              go_ret
              exact ⟨HB4.out, .inl rfl⟩
        · have hqb2 : ¬ (q2 : Int) < (S.length : Int) := by omega
          go_wp2
          go_ret
          exact ⟨HB4.out, .inl rfl⟩
  · have hqb : ¬ (q : Int) < (S.length : Int) := by omega
    go_wp2
    go_ret
    exact ⟨Below.refl _ _, .inl rfl⟩
end Go.Proofs.Qxb6605573a
