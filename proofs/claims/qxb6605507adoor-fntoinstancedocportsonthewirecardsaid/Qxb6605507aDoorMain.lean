/-
  THE LAW ITSELF, WALKED.
-/
import Derived.Test.Qxb6605507aDoorZdoc
import Derived.Test.Qxb6605507aDoorBytes
import Derived.Test.Qxb6605507aDoorRead3
namespace Go.Proofs.Qxb6605507aDoor
open Go.RowKit Go.Lib

/-- Where we are: the input's box lies where it was laid; nothing older has turned. -/
structure Sit (w : World) (i : Inp) (W : World) : Prop where
  blk : W.heap[w.heap.size]? = some (.cells i.cells 32 (0, 0))
  bel : Below w.heap.size w W

theorem Sit.lt {w W : World} {i : Inp} (h : Sit w i W) : w.heap.size < W.heap.size := (Array.getElem?_eq_some_iff.1 h.blk).1
theorem Sit.on {w W W' : World} {i : Inp} (h : Sit w i W) (hb : Below W.heap.size W W') : Sit w i W' :=
  ⟨(hb.block _ h.lt).trans h.blk, h.bel.trans (hb.mono (Nat.le_of_lt h.lt))⟩
theorem Sit.start (w : World) (i : Inp) : Sit w i (w.alloc (.cells i.cells 32)) := ⟨heap_alloc_new w _, (Below.refl _ _).alloc (Nat.le_refl _) _⟩
theorem Sit.cell {w W : World} {i : Inp} (h : Sit w i W) (j : Nat) : W.cell? ⟨w.heap.size, j, none⟩ = i.cells[j]? := cell_of_row _ _ _ _ _ _ h.blk
theorem Sit.ok {w W : World} {i : Inp} (h : Sit w i W) (ok : i.Ok w w.heap.size) : i.Ok W W.heap.size := (ok.on h.bel).up (Nat.le_of_lt h.lt)

/-- The four lengths, and the two ports, as they lie in the box. -/
structure Cells (w : World) (i : Inp) (W : World) : Prop where
  c8 : W.cell? ⟨w.heap.size, 8, none⟩ = some (.int .i64 i.pn)
  c9 : W.cell? ⟨w.heap.size, 9, none⟩ = some (.bool i.pe)
  c10 : W.cell? ⟨w.heap.size, 10, none⟩ = some (.int .i64 i.sn)
  c11 : W.cell? ⟨w.heap.size, 11, none⟩ = some (.bool i.se)
  c15 : W.cell? ⟨w.heap.size, 15, none⟩ = some (.slice i.dka i.dkl i.dkc)
  c16 : W.cell? ⟨w.heap.size, 16, none⟩ = some (.slice i.dva i.dvl i.dvc)
  c17 : W.cell? ⟨w.heap.size, 17, none⟩ = some (.bool i.dn)
  c24 : W.cell? ⟨w.heap.size, 24, none⟩ = some (.slice i.mka i.mkl i.mkc)
  c25 : W.cell? ⟨w.heap.size, 25, none⟩ = some (.slice i.mva i.mvl i.mvc)
  c26 : W.cell? ⟨w.heap.size, 26, none⟩ = some (.bool i.mn)
theorem Sit.cells {w W : World} {i : Inp} (h : Sit w i W) : Cells w i W :=
  ⟨h.cell 8, h.cell 9, h.cell 10, h.cell 11, h.cell 15, h.cell 16, h.cell 17, h.cell 24, h.cell 25, h.cell 26⟩

theorem build_at (ka va : Option Addr) (kl kc vl vc : Nat) (nl : Bool) (w : World) (hk : StrRow w w.heap.size ka kl) (hv : StrRow w w.heap.size va vl) (hl : kl ≤ 4096) (he : vl = kl) :
    Calls Tryd.prog 10 #[.agg #[.slice ka kl kc, .slice va vl vc, .bool nl]] w fun e w' => (∃ r, e = .returned (.map r)) ∧ Below w.heap.size w w' := by
  subst he; exact build_any ka va _ kc vc nl w hk hv hl

/-- A whole document stored into a block that was just laid: the world behind it, by what it holds. -/
theorem store_doc {ops : Array Oper} {rest : List Oper} {o : Oper} {a : Act} {Q : Exit → Act → World → Prop} (w : World) (old : Array Value) (hgd : o.guard = none) (x y : Operand) (ho : o.op = .store 47 x y)
    (cells : Array Value) (hx : a.eval x = .pointer (some ⟨w.heap.size, 0, none⟩)) (hy : a.eval y = .agg cells) (hi : (Tryd.prog.info? 47).map (·.size) = some cells.size)
    (hold : old.size = cells.size) (h1 : cells.all (·.oneCell') = true)
    (h : ∀ W, W.heap[w.heap.size]? = some (.cells cells 47 (0, 0)) → Below w.heap.size w W → wpList Tryd.prog ops Q rest (a.put o.dst undef) W) : wpList Tryd.prog ops Q (o :: rest) a (w.alloc (.cells old 47)) :=
  wpList_store_row hgd 47 x y ho w.heap.size cells hx hy 47 old (heap_alloc_new w _) hi hold h1
    (h _ (setRow_heap _ _ _ _ 47 (0, 0) (heap_alloc_new w _)) (below_setRow' ((Below.refl _ _).alloc (Nat.le_refl _) _) (Nat.le_refl _) _))

theorem blk_on {W W' : World} {k : Nat} {o : Obj} (h : W.heap[k]? = some o) (hb : Below W.heap.size W W') : W'.heap[k]? = some o :=
  (hb.block _ (Array.getElem?_eq_some_iff.1 h).1).trans h

theorem own_row {W : World} {B : Nat} {v : Value} {l : List UInt8} (h : W.ownsRow B 5 1 v l.length (byteCells l)) (hl : 0 < l.length) : ∃ g cap, v = .slice (some ⟨g, 0, none⟩) l.length cap ∧ RowOf W g l := by
  obtain ⟨h1, ⟨_, h0⟩ | ⟨g, cap, cur, rfl, hg, hh, hn, hcap, hsz, htake⟩⟩ := h
  · omega
  · refine ⟨g, cap, rfl, fun j hj => ?_⟩
    rw [cell_of_row _ _ _ _ _ _ hh]
    have e : (cur.toList.take (l.length * 1))[j]? = cur[j]? := by
      rw [List.getElem?_take_of_lt (by omega), Array.getElem?_toList]
    rw [← e, htake, byteCells, List.getElem?_map, List.getElem?_eq_getElem hj, getD_lt _ _ hj]; rfl

theorem json_pos (n : Int) (f : Bool) : 0 < (jsonBytes n f).length := by simp [jsonBytes]
theorem xml_pos (s : List UInt8) (n : Int) (f : Bool) : 0 < (xmlBytes s n f).length := by simp [xmlBytes]
theorem below_drewN' {B : Nat} {w w' : World} (h : ∃ q, w' = w.drewN q) : Below B w w' := by
  obtain ⟨q, rfl⟩ := h; exact ⟨rfl, rfl, rfl, Nat.le_refl _, fun _ _ => rfl⟩

set_option maxRecDepth 100000 in
set_option maxHeartbeats 4000000 in
theorem main_any (i : Inp) (w : World) (ok : i.Ok w w.heap.size) (p0 : -9223372036854775808 ≤ i.pn) (p1 : i.pn ≤ 9223372036854775807) (s0 : -9223372036854775808 ≤ i.sn) (s1 : i.sn ≤ 9223372036854775807) (hp : Pow w) :
    Calls Tryd.prog 3 #[.agg i.cells] w fun e w' => e = .returned (.bool true) ∧ Below w.heap.size w w' := by
  have OK : Hid (i.Ok w w.heap.size) := ok
  have HP : Hid (Pow w) := hp
  have S0 : Hid (Sit w i (w.alloc (.cells i.cells 32))) := Sit.start w i
  clear ok hp
  go_enter Tryd.func3, Tryd.ntmps3
  go_wp2_with (refine wpList_load_row rfl 32 _ rfl w.heap.size rfl 32 i.cells (0, 0) _ S0.out.blk Tryd.underlying32 rfl (by kernel_rfl) ?_)
  refine (zzBytes_any i _ (S0.out.ok OK.out)).mono ?_
  rintro e w1 ⟨⟨b, rfl⟩, hb1⟩
  have S1 : Hid (Sit w i w1) := S0.out.on hb1
  clear S0 hb1
  cases b
  · go_wp2
    go_ret
    exact ⟨rfl, S1.out.bel⟩
  obtain ⟨c8, c9, c10, c11, c15, c16, c17, c24, c25, c26⟩ := S1.out.cells
  by_cases h4 : i.mkl ≤ 4096 ∧ i.mvl ≤ 4096 ∧ i.dkl ≤ 4096 ∧ i.dvl ≤ 4096
  · obtain ⟨a1, a2, a3, a4⟩ := h4
    go_wp2_with (refine wpList_load_row rfl 32 _ rfl w.heap.size rfl 32 i.cells (0, 0) _ S1.out.blk Tryd.underlying32 rfl (by kernel_rfl) ?_)
    refine (inst_any i _ (S1.out.ok OK.out)).mono ?_
    rintro e w2 ⟨⟨z, rfl⟩, hb2⟩
    have S2 : Hid (Sit w i w2) := S1.out.on hb2
    clear S1 hb2 c8 c9 c10 c11 c15 c16 c17 c24 c25 c26
    by_cases hz : 1048576 < z
    · go_wp2
      go_ret
      exact ⟨rfl, S2.out.bel⟩
    obtain ⟨c8, c9, c10, c11, c15, c16, c17, c24, c25, c26⟩ := S2.out.cells
    by_cases he : i.mvl = i.mkl ∧ i.dvl = i.dkl
    · have HE : Hid (i.mvl = i.mkl ∧ i.dvl = i.dkl) := he
      have q1 : i.mvl ≤ i.mkl := by omega
      have q2 : i.mkl ≤ i.mvl := by omega
      have q3 : i.dvl ≤ i.dkl := by omega
      have q4 : i.dkl ≤ i.dvl := by omega
      clear he
      go_wp2_with fail
      refine (build_at _ _ _ _ _ _ _ _ (S2.out.ok OK.out).mks (S2.out.ok OK.out).mvs a1 HE.out.1).mono ?_
      rintro e w3 ⟨⟨m1, rfl⟩, hb3⟩
      have S3 : Hid (Sit w i w3) := S2.out.on hb3
      clear S2 hb3 c8 c9 c10 c11 c15 c16 c17 c24 c25 c26
      obtain ⟨c8, c9, c10, c11, c15, c16, c17, c24, c25, c26⟩ := S3.out.cells
      go_wp2_with fail
      refine (build_at _ _ _ _ _ _ _ _ (S3.out.ok OK.out).dk (S3.out.ok OK.out).dv a3 HE.out.2).mono ?_
      rintro e w4 ⟨⟨m2, rfl⟩, hb4⟩
      have S4 : Hid (Sit w i w4) := S3.out.on hb4
      clear S3 hb4 c8 c9 c10 c11 c15 c16 c17 c24 c25 c26 q1 q2 q3 q4 a1 a2 a3 a4 HE hz
      go_wp2_with (refine wpList_load_row rfl 32 _ rfl w.heap.size rfl 32 i.cells (0, 0) _ S4.out.blk Tryd.underlying32 rfl (by kernel_rfl) ?_)
      refine (reg_any i m1 m2 _).mono ?_
      rintro e w5 ⟨rfl, hb5⟩
      have S5 : Hid (Sit w i w5) := S4.out.on hb5
      clear S4 hb5
      go_wp2_with fail
      refine (zzdoc_any i m1 m2 _).mono ?_
      rintro e w6 ⟨⟨pp, mm, rfl⟩, hb6⟩
      have S6 : Hid (Sit w i w6) := S5.out.on hb6
      clear S5 hb6
      go_wp2_with (refine store_doc _ _ rfl _ _ rfl (i.doc pp mm) rfl rfl (by kernel_rfl) (by kernel_rfl) (by kernel_rfl) ?_; intro w7 hh7 hb7; have S7 : Hid (Sit w i w7) := S6.out.on hb7; have D7 : Hid (w7.heap[w6.heap.size]? = some (.cells (i.doc pp mm) 47 (0, 0))) := hh7; clear S6 hb7 hh7; generalize w6.heap.size = dd at *; obtain ⟨d8, d9, d10, d11⟩ : w7.cell? ⟨dd, 8, none⟩ = some (.int .i64 i.pn) ∧ w7.cell? ⟨dd, 9, none⟩ = some (.bool i.pe) ∧ w7.cell? ⟨dd, 10, none⟩ = some (.int .i64 i.sn) ∧ w7.cell? ⟨dd, 11, none⟩ = some (.bool i.se) := ⟨(cell_of_row _ _ _ _ _ _ D7.out).trans rfl, (cell_of_row _ _ _ _ _ _ D7.out).trans rfl, (cell_of_row _ _ _ _ _ _ D7.out).trans rfl, (cell_of_row _ _ _ _ _ _ D7.out).trans rfl⟩)
      go_wp2_with fail
      refine (json_any i.pn p0 p1 i.pe _ (HP.out.on S7.out.bel)).mono ?_
      rintro e w8 ⟨v8, rfl, o8, hb8⟩
      obtain ⟨g8, cap8, rfl, r8⟩ := own_row o8 (json_pos _ _)
      have S8 : Hid (Sit w i w8) := S7.out.on hb8
      have D8 : Hid (w8.heap[dd]? = some (.cells (i.doc pp mm) 47 (0, 0))) := blk_on D7.out hb8
      clear S7 D7 hb8 o8 d8 d9 d10 d11
      go_wp2_with fail
      refine (readJSON_any g8 cap8 i.pn p0 p1 i.pe _ r8).mono ?_
      rintro e w9 ⟨rfl, hq9⟩
      have hb9 : Below w8.heap.size w8 w9 := below_drewN' hq9
      have S9 : Hid (Sit w i w9) := S8.out.on hb9
      have D9 : Hid (w9.heap[dd]? = some (.cells (i.doc pp mm) 47 (0, 0))) := blk_on D8.out hb9
      clear S8 D8 hb9 r8 hq9
      obtain ⟨d8, d9, d10, d11⟩ : w9.cell? ⟨dd, 8, none⟩ = some (.int .i64 i.pn) ∧ w9.cell? ⟨dd, 9, none⟩ = some (.bool i.pe) ∧ w9.cell? ⟨dd, 10, none⟩ = some (.int .i64 i.sn) ∧ w9.cell? ⟨dd, 11, none⟩ = some (.bool i.se) :=
        ⟨(cell_of_row _ _ _ _ _ _ D9.out).trans rfl, (cell_of_row _ _ _ _ _ _ D9.out).trans rfl, (cell_of_row _ _ _ _ _ _ D9.out).trans rfl, (cell_of_row _ _ _ _ _ _ D9.out).trans rfl⟩
      go_wp2_with fail
      refine (xml_any _ (by decide) i.pn p0 p1 i.pe _ (HP.out.on S9.out.bel)).mono ?_
      rintro e w10 ⟨v10, rfl, o10, hb10⟩
      obtain ⟨g10, cap10, rfl, r10⟩ := own_row o10 (xml_pos _ _ _)
      have S10 : Hid (Sit w i w10) := S9.out.on hb10
      have D10 : Hid (w10.heap[dd]? = some (.cells (i.doc pp mm) 47 (0, 0))) := blk_on D9.out hb10
      clear S9 D9 hb10 o10 d8 d9 d10 d11
      go_wp2_with fail
      refine (readXML_any g10 cap10 _ (by decide) i.pn p0 p1 i.pe _ r10).mono ?_
      rintro e w11 ⟨rfl, hq11⟩
      have hb11 : Below w10.heap.size w10 w11 := below_drewN' hq11
      have S11 : Hid (Sit w i w11) := S10.out.on hb11
      have D11 : Hid (w11.heap[dd]? = some (.cells (i.doc pp mm) 47 (0, 0))) := blk_on D10.out hb11
      clear S10 D10 hb11 r10 hq11
      obtain ⟨d8, d9, d10, d11⟩ : w11.cell? ⟨dd, 8, none⟩ = some (.int .i64 i.pn) ∧ w11.cell? ⟨dd, 9, none⟩ = some (.bool i.pe) ∧ w11.cell? ⟨dd, 10, none⟩ = some (.int .i64 i.sn) ∧ w11.cell? ⟨dd, 11, none⟩ = some (.bool i.se) :=
        ⟨(cell_of_row _ _ _ _ _ _ D11.out).trans rfl, (cell_of_row _ _ _ _ _ _ D11.out).trans rfl, (cell_of_row _ _ _ _ _ _ D11.out).trans rfl, (cell_of_row _ _ _ _ _ _ D11.out).trans rfl⟩
      go_wp2_with fail
      refine (json_any i.sn s0 s1 i.se _ (HP.out.on S11.out.bel)).mono ?_
      rintro e w12 ⟨v12, rfl, o12, hb12⟩
      obtain ⟨g12, cap12, rfl, r12⟩ := own_row o12 (json_pos _ _)
      have S12 : Hid (Sit w i w12) := S11.out.on hb12
      have D12 : Hid (w12.heap[dd]? = some (.cells (i.doc pp mm) 47 (0, 0))) := blk_on D11.out hb12
      clear S11 D11 hb12 o12 d8 d9 d10 d11
      go_wp2_with fail
      refine (readJSON_any g12 cap12 i.sn s0 s1 i.se _ r12).mono ?_
      rintro e w13 ⟨rfl, hq13⟩
      have hb13 : Below w12.heap.size w12 w13 := below_drewN' hq13
      have S13 : Hid (Sit w i w13) := S12.out.on hb13
      have D13 : Hid (w13.heap[dd]? = some (.cells (i.doc pp mm) 47 (0, 0))) := blk_on D12.out hb13
      clear S12 D12 hb13 r12 hq13
      obtain ⟨d8, d9, d10, d11⟩ : w13.cell? ⟨dd, 8, none⟩ = some (.int .i64 i.pn) ∧ w13.cell? ⟨dd, 9, none⟩ = some (.bool i.pe) ∧ w13.cell? ⟨dd, 10, none⟩ = some (.int .i64 i.sn) ∧ w13.cell? ⟨dd, 11, none⟩ = some (.bool i.se) :=
        ⟨(cell_of_row _ _ _ _ _ _ D13.out).trans rfl, (cell_of_row _ _ _ _ _ _ D13.out).trans rfl, (cell_of_row _ _ _ _ _ _ D13.out).trans rfl, (cell_of_row _ _ _ _ _ _ D13.out).trans rfl⟩
      go_wp2_with fail
      refine (xml_any _ (by decide) i.sn s0 s1 i.se _ (HP.out.on S13.out.bel)).mono ?_
      rintro e w14 ⟨v14, rfl, o14, hb14⟩
      obtain ⟨g14, cap14, rfl, r14⟩ := own_row o14 (xml_pos _ _ _)
      have S14 : Hid (Sit w i w14) := S13.out.on hb14
      have D14 : Hid (w14.heap[dd]? = some (.cells (i.doc pp mm) 47 (0, 0))) := blk_on D13.out hb14
      clear S13 D13 hb14 o14 d8 d9 d10 d11
      go_wp2_with fail
      refine (readXML_any g14 cap14 _ (by decide) i.sn s0 s1 i.se _ r14).mono ?_
      rintro e w15 ⟨rfl, hq15⟩
      have hb15 : Below w14.heap.size w14 w15 := below_drewN' hq15
      have S15 : Hid (Sit w i w15) := S14.out.on hb15
      have D15 : Hid (w15.heap[dd]? = some (.cells (i.doc pp mm) 47 (0, 0))) := blk_on D14.out hb15
      clear S14 D14 hb15 r14 hq15
      obtain ⟨d8, d9, d10, d11⟩ : w15.cell? ⟨dd, 8, none⟩ = some (.int .i64 i.pn) ∧ w15.cell? ⟨dd, 9, none⟩ = some (.bool i.pe) ∧ w15.cell? ⟨dd, 10, none⟩ = some (.int .i64 i.sn) ∧ w15.cell? ⟨dd, 11, none⟩ = some (.bool i.se) :=
        ⟨(cell_of_row _ _ _ _ _ _ D15.out).trans rfl, (cell_of_row _ _ _ _ _ _ D15.out).trans rfl, (cell_of_row _ _ _ _ _ _ D15.out).trans rfl, (cell_of_row _ _ _ _ _ _ D15.out).trans rfl⟩
      obtain ⟨c8, c9, c10, c11, _, _, _, _, _, _⟩ := S15.out.cells
      go_wp2
      go_ret
      exact ⟨rfl, S15.out.bel⟩
    · go_wp2_with fail
      all_goals (go_ret; exact ⟨rfl, S2.out.bel⟩)
  · go_wp2_with fail
    all_goals (go_ret; exact ⟨rfl, S1.out.bel⟩)
end Go.Proofs.Qxb6605507aDoor
