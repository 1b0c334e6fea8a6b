/-
  THE LAW 'SPEC': A BODY OF 16 BYTES OR MORE.
-/
import Derived.Test.Qxb6606217aFmtSpecA
namespace Go.Proofs.Qxb6606217aFmt
open Go.RowKit Go.Extern.Stop Go.Stop Go.Extern

/-- What DecodeLeaveRequest hands back beside the id. -/
structure Told (S : List UInt8) (b : Nat) (dv ev : Value) : Prop where
  bad : (S.length < 18 ∨ S.length - 18 < told S) → dv = .slice none 0 0 ∧ Bad ev
  ok : 18 ≤ S.length → told S ≤ S.length - 18 → (∃ o, (18 < S.length → o = 18) ∧ dv = .slice (some ⟨b, o, none⟩) (told S) (told S)) ∧ (if told S = S.length - 18 then ev = .nilIface else Bad ev)

theorem lr_told (F : Interp) (a : Addr) (s : ByteArray) (b : Nat) (S : List UInt8) (h16 : 16 ≤ S.length) (hm : S.length ≤ 1048576 * 4) (w : World) (hE : Env F a s w) (hR : RowOf w b S) (hbw : b < w.heap.size) :
    Calls Tryf.prog 13 #[.slice (some ⟨b, 0, none⟩) S.length S.length] w fun e w' => ∃ dv ev, Told S b dv ev ∧ e = .returned (.tuple #[.agg (ids17 S dv), ev]) ∧ Below w.heap.size w w' := by
  by_cases hc : S.length < 18 ∨ S.length - 18 < told S
  · refine (lr_bad F a s b S.length S h16 (by omega) (Nat.le_refl _) hm w hE hR hbw).mono ?_
    rintro e w' ⟨dv, ev, hd, he, rfl, hb⟩
    exact ⟨dv, ev, ⟨fun _ => ⟨hd, he⟩, fun h1 h2 => by omega⟩, rfl, hb⟩
  · refine (lr_ok F a s b S.length S (by omega) (by omega) (Nat.le_refl _) hm w hE hR hbw).mono ?_
    rintro e w' ⟨dv, ev, hd, he, rfl, hb⟩
    exact ⟨dv, ev, ⟨fun h => absurd h hc, fun _ _ => ⟨hd, he⟩⟩, rfl, hb⟩

/-- The id as far as it is laid. -/
def want (S : List UInt8) (k : Nat) : Array Value := #[.int .u8 (if 0 < k then (ch S 0 : Int) else 0), .int .u8 (if 1 < k then (ch S 1 : Int) else 0), .int .u8 (if 2 < k then (ch S 2 : Int) else 0), .int .u8 (if 3 < k then (ch S 3 : Int) else 0), .int .u8 (if 4 < k then (ch S 4 : Int) else 0), .int .u8 (if 5 < k then (ch S 5 : Int) else 0), .int .u8 (if 6 < k then (ch S 6 : Int) else 0), .int .u8 (if 7 < k then (ch S 7 : Int) else 0), .int .u8 (if 8 < k then (ch S 8 : Int) else 0), .int .u8 (if 9 < k then (ch S 9 : Int) else 0), .int .u8 (if 10 < k then (ch S 10 : Int) else 0), .int .u8 (if 11 < k then (ch S 11 : Int) else 0), .int .u8 (if 12 < k then (ch S 12 : Int) else 0), .int .u8 (if 13 < k then (ch S 13 : Int) else 0), .int .u8 (if 14 < k then (ch S 14 : Int) else 0), .int .u8 (if 15 < k then (ch S 15 : Int) else 0)]

theorem want_zero (S : List UInt8) : want S 0 = z16 := by simp [want, z16]
theorem want_full (S : List UInt8) : want S 16 = ids16 S := by simp [want, ids16]
theorem want_size (S : List UInt8) (k : Nat) : (want S k).size = 16 := rfl
theorem want_step (S : List UInt8) (k : Nat) (hk : k < 16) : (want S k).setIfInBounds k (.int .u8 ((ch S k : Nat) : Int)) = want S (k + 1) := by
  rcases k with _ | _ | _ | _ | _ | _ | _ | _ | _ | _ | _ | _ | _ | _ | _ | _ | k <;> first | (simp [want]; done) | omega
theorem ids17_ids16 {S : List UInt8} {dv : Value} {j : Nat} {v : Value} (h : (ids16 S)[j]? = some v) : (ids17 S dv)[j]? = some v := by
  rcases j with _ | _ | _ | _ | _ | _ | _ | _ | _ | _ | _ | _ | _ | _ | _ | _ | j <;> first | exact h | exact absurd h (by simp [ids16])
theorem ids16_cell (S : List UInt8) : ∀ i, i < 16 → ∃ n, (ids16 S)[i]? = some (.int .u8 n) := fun i hi => ⟨(ch S i : Int), by
  rcases i with _ | _ | _ | _ | _ | _ | _ | _ | _ | _ | _ | _ | _ | _ | _ | _ | i <;> first | rfl | omega⟩

theorem below_drewN {B : Nat} {a w : World} (h : Below B a w) (n : Nat) : Below B a (w.drewN n) := h.trans ⟨rfl, rfl, rfl, Nat.le_refl _, fun _ _ => rfl⟩

/-- What the loop keeps: L: the block of the id. -/
def WRel (S : List UInt8) (L : Nat) (w3 : World) (kv : Value) (wr : World) : Prop := ∃ k : Nat, kv = .int .i64 (k : Int) ∧ k ≤ 16 ∧ Below L w3 wr ∧ wr.heap[L]? = some (.cells (want S k) 35 (0, 0))

theorem Told.slice {S : List UInt8} {b : Nat} {dv ev : Value} (h : Told S b dv ev) : ∃ a n c, dv = .slice a n c := by
  by_cases hc : S.length < 18 ∨ S.length - 18 < told S
  · exact ⟨_, _, _, (h.bad hc).1⟩
  · obtain ⟨⟨o, _, hd⟩, _⟩ := h.ok (by omega) (by omega)
    exact ⟨_, _, _, hd⟩

set_option maxRecDepth 100000 in
set_option maxHeartbeats 2000000 in
theorem spec_ge (F : Interp) (a : Addr) (s : ByteArray) (x : Addr) (cap : Nat) (S : List UInt8) (h16 : 16 ≤ S.length) (hmax : S.length ≤ 1048576) (w : World) (hE : Env F a s w)
    (hx : ∀ j, j < S.length → w.cell? (x.add j) = some (.int .u8 ((ch S j : Nat) : Int))) :
    Calls Tryf.prog 4 #[.slice (some x) S.length cap] w fun e w' => e = .returned (.bool true) ∧ Below w.heap.size w w' := by
  have q22 : ∀ (w : World) (a : Option Addr) (n c n' c' : Nat), (binOp .eql 22 (.slice a n c) (.slice none n' c')).run Tryf.prog w = .ok (.bool a.isNone) w := fun w a n c n' c' => Lib.run_eql_slice_nil w _ _ a n c n' c' Tryf.underlying22
  have hg35 : Tryf.prog.eqGuardType Tryf.prog.depth 35 = false := by kernel_rfl
  have HE : Hid (Env F a s w) := hE
  have HXX : Hid (∀ j, j < S.length → w.cell? (x.add j) = some (.int .u8 ((ch S j : Nat) : Int))) := hx
  clear hE hx
  go_enter Tryf.func4, Tryf.ntmps4
  go_wp2_with fail
  refine (bytes_any _ _ _ (by omega) _).mono ?_
  rintro e w1 ⟨rfl, rfl⟩
  rw [decide_eq_true hmax]
  have hb0 : ¬ (1048576 : Int) < (S.length : Int) := by omega
  have hb1 : (16 : Int) ≤ (S.length : Int) := by omega
  go_wp2_with fail
  refine (clone_any x cap S hmax w HXX.out).mono ?_
  rintro e w1 ⟨rfl, hb, hR, hs⟩
  have HB : Hid (Below w.heap.size w w1) := hb
  have HR : Hid (RowOf w1 w.heap.size S) := hR
  have HS : Hid (w.heap.size < w1.heap.size) := hs
  clear hb HXX hR hs
  go_wp2_with fail
  refine (lr_told F a s w.heap.size S h16 (by omega) w1 (HE.out.below HB.out) HR.out HS.out).mono ?_
  rintro e w2 ⟨dv, ev, hT, rfl, hb⟩
  obtain ⟨da, dn, dc, rfl⟩ := hT.slice
  have HT : Hid (Told S w.heap.size (.slice da dn dc) ev) := hT
  have HB2 : Hid (Below w.heap.size w w2) := HB.out.trans (hb.mono HB.out.size)
  have HR2 : Hid (RowOf w2 w.heap.size S) := HR.out.below hb HS.out
  have HS2 : Hid (w.heap.size < w2.heap.size) := Nat.lt_of_lt_of_le HS.out hb.size
  clear hb HB HR HS hT
  obtain ⟨X, hX⟩ : ∃ X, X = ids17 S (.slice da dn dc) := ⟨_, rfl⟩
  rw [← hX]
  have HX : Hid (X = ids17 S (.slice da dn dc)) := hX
  clear hX
  have H0 : Hid (WRel S (w2.heap.size + 1) (w2.alloc (.cells X 37)) (.int .i64 0) ((w2.alloc (.cells X 37)).alloc (.cells z16 35))) := by
    refine ⟨0, rfl, by omega, (Below.refl _ _).alloc (by simp) _, ?_⟩
    have := heap_alloc_new (w2.alloc (.cells X 37)) (.cells z16 35)
    rw [World.size_alloc] at this
    exact this.trans (by rw [want_zero])
  unfold z16 at H0
  go_wp2_with (refine wpList_store_row rfl 37 _ _ rfl w2.heap.size X rfl rfl 37 _ (heap_alloc_new w2 _) (by rw [HX.out]; kernel_rfl) (by rw [HX.out]; kernel_rfl) (by rw [HX.out]; kernel_rfl) ?_; rw [World.setRow_alloc_new])
  go_loopw [6] (fun kv wr => WRel S (w2.heap.size + 1) (w2.alloc (.cells X 37)) kv wr) (fun kv _ => 17 - (intOf kv).toNat)
  case atStart => exact H0.out
  case round =>
    clear H0
    obtain ⟨k, rfl, hk, hb, hh⟩ := hrel
    have HB3 : Hid (Below (w2.heap.size + 1) (w2.alloc (.cells X 37)) wr) := hb
    have HH : Hid (wr.heap[w2.heap.size + 1]? = some (.cells (want S k) 35 (0, 0))) := hh
    have HRw : Hid (RowOf wr w.heap.size S) := by
      intro j hj
      have h2 := HS2.out
      rw [hb.cell (p := ⟨w.heap.size, j, none⟩) (by simp; omega), World.cell?_alloc_past _ _ _ (by simpa using h2)]
      exact HR2.out j hj
    clear hb hh
    by_cases hkn : k < 16
    · have e1 := HRw.out k (by omega)
      obtain ⟨v, e2⟩ : ∃ v, wr.cell? ⟨w2.heap.size + 1, k, none⟩ = some v := by
        rw [cell_of_row _ _ _ _ _ _ HH.out]
        exact ⟨_, Array.getElem?_eq_getElem (by rw [want_size]; exact hkn)⟩
      have e3 : wr.frozen? ⟨w2.heap.size + 1, k, none⟩ = false := frozen_of_row _ _ _ _ _ HH.out
      have hkb : (k : Int) < 16 := by omega
      have hkl : (k : Int) < (S.length : Int) := by omega
      have HN : Hid (WRel S (w2.heap.size + 1) (w2.alloc (.cells X 37)) (.int .i64 ((k : Int) + 1)) (wr.setCell ⟨w2.heap.size + 1, k, none⟩ (.int .u8 ((ch S k : Nat) : Int)))) := by
        refine ⟨k + 1, by simp, by omega, HB3.out.setCell (p := ⟨w2.heap.size + 1, k, none⟩) (Nat.le_refl _) _, ?_⟩
        rw [heap_setCell_same _ _ _ _ _ _ HH.out, want_step S k hkn]
      go_wp2
      go_roundw
      case rel => exact HN.out
      case measure => simp [intOf]; omega
    · obtain rfl : k = 16 := by omega
      have HBF : Hid (Below w.heap.size w wr) := by
        have := HB2.out.size
        exact (HB2.out.alloc (by omega) _).trans (HB3.out.mono (by omega))
      have HK : Hid (wr.heap[w2.heap.size]? = some (.cells X 37 (0, 0))) := (HB3.out.block _ (by omega)).trans (heap_alloc_new w2 _)
      obtain ⟨Z, hZ⟩ : ∃ Z, Z = ids16 S := ⟨_, rfl⟩
      have HL : Hid (∀ j v, Z[j]? = some v → wr.cell? ((⟨w2.heap.size, 0, none⟩ : Addr).add j) = some v) := by
        intro j v hv
        rw [add0, cell_of_row _ _ _ _ _ _ HK.out, HX.out]
        rw [hZ] at hv
        exact ids17_ids16 hv
      have HL2 : Hid (∀ j v, Z[j]? = some v → wr.cell? ((⟨w2.heap.size + 1, 0, none⟩ : Addr).add j) = some v) := by
        intro j v hv
        rw [add0, cell_of_row _ _ _ _ _ _ HH.out, want_full, ← hZ]
        exact hv
      have c16 : wr.cell? ⟨w2.heap.size, 16, none⟩ = some (.slice da dn dc) := by
        rw [cell_of_row _ _ _ _ _ _ HK.out, HX.out]; rfl
      have hneq : ∀ w, (binOp .neq 35 (.agg Z) (.agg Z)).run Tryf.prog w = .ok (.bool false) w := neq35 Z (by rw [hZ]; exact ids16_cell S)
      have HZ : Hid ((Tryf.prog.info? 35).map (·.size) = some Z.size) := by
        have h : (Tryf.prog.info? 35).map (·.size) = some (ids16 S).size := by kernel_rfl
        exact h.trans (by rw [hZ])
      clear hZ hkn hk
      by_cases h18 : S.length < 18
      · obtain ⟨hd, k, rfl⟩ := HT.out.bad (.inl h18)
        cases hd
        have hi : (S.length : Int) < 18 := by omega
        go_wp2_with (first
          | refine wpList_load_cells rfl 35 _ rfl ⟨w2.heap.size, 0, none⟩ rfl Z _ HL.out Tryf.underlying35 rfl HZ.out ?_
          | refine wpList_load_cells rfl 35 _ rfl ⟨w2.heap.size + 1, 0, none⟩ rfl Z _ HL2.out Tryf.underlying35 rfl HZ.out ?_)
        go_ret
        exact ⟨rfl, HBF.out⟩
      · have hi : ¬ (S.length : Int) < 18 := by omega
        have e16 := HRw.out 16 (by omega)
        have e17 := HRw.out 17 (by omega)
        have g16 : (16 : Int) < (S.length : Int) := by omega
        have g17 : (17 : Int) < (S.length : Int) := by omega
        obtain ⟨N, hN⟩ : ∃ N, N = told S := ⟨_, rfl⟩
        have hor : bits .or .i64 ((ch S 16 : Int) * 256) (ch S 17 : Int) = (N : Int) := by rw [hN]; exact or_i64 _ _ (ch_lt _ _) (ch_lt _ _)
        have hc0 : ch S 16 < 256 := ch_lt S 16
        have hc1 : ch S 17 < 256 := ch_lt S 17
        by_cases hp : S.length - 18 < told S
        · obtain ⟨hd, k, rfl⟩ := HT.out.bad (.inr hp)
          cases hd
          have hi2 : (S.length : Int) - 18 < (N : Int) := by omega
          clear hN
          go_wp2_with (first
            | refine wpList_load_cells rfl 35 _ rfl ⟨w2.heap.size, 0, none⟩ rfl Z _ HL.out Tryf.underlying35 rfl HZ.out ?_
            | refine wpList_load_cells rfl 35 _ rfl ⟨w2.heap.size + 1, 0, none⟩ rfl Z _ HL2.out Tryf.underlying35 rfl HZ.out ?_)
          go_quiet (fail)
          go_wp2
          go_ret
          exact ⟨rfl, below_drewN HBF.out _⟩
        · obtain ⟨⟨o, ho, hd⟩, hv⟩ := HT.out.ok (by omega) (by omega)
          cases hd
          have hi2 : ¬ (S.length : Int) - 18 < (N : Int) := by omega
          rw [← hN] at c16
          have hNS : N + 18 ≤ S.length := by omega
          have HO : Hid (18 < S.length → o = 18) := ho
          have HV : Hid (if N = S.length - 18 then ev = .nilIface else Bad ev) := by rw [hN]; exact hv
          clear hN hp ho hv HT HX
          go_wp2_with (first
            | refine wpList_load_cells rfl 35 _ rfl ⟨w2.heap.size, 0, none⟩ rfl Z _ HL.out Tryf.underlying35 rfl HZ.out ?_
            | refine wpList_load_cells rfl 35 _ rfl ⟨w2.heap.size + 1, 0, none⟩ rfl Z _ HL2.out Tryf.underlying35 rfl HZ.out ?_)
          go_quiet (fail)
          have HC1 : Hid (∀ j, j < N → (wr.drewN nq).cell? ⟨w.heap.size, o + j, none⟩ = some (.int .u8 ((ch S (18 + j) : Nat) : Int))) := by
            intro j hj
            obtain rfl := HO.out (by omega)
            exact HRw.out (18 + j) (by omega)
          have HC2 : Hid (∀ j, j < N → (wr.drewN nq).cell? ⟨w.heap.size, 18 + j, none⟩ = some (.int .u8 ((ch S (18 + j) : Nat) : Int))) := fun j hj => HRw.out (18 + j) (by omega)
          have HBD : Hid (Below w.heap.size w (wr.drewN nq)) := below_drewN HBF.out _
          have d16 : (wr.drewN nq).cell? ⟨w2.heap.size, 16, none⟩ = some (.slice (some ⟨w.heap.size, o, none⟩) N N) := c16
          clear HO c16
          generalize wr.drewN nq = wd at *
          have i1 : (18 : Int) + (N : Int) ≤ (S.length : Int) := by omega
          have i2 : (18 : Int) ≤ 18 + (N : Int) := by omega
          by_cases hc : S.length = 18
          · obtain rfl : N = 0 := by omega
            have h5 : S.length - 18 = 0 := by omega
            go_wp2
            go_quiet ((go_at_call 14; exact same_any _ _ _ _ _ _ 0 (by omega) _ (fun j => (ch S (18 + j) : Int)) HC1.out (fun j hj => absurd hj (Nat.not_lt_zero _)) _))
            obtain rfl : ev = .nilIface := by
              have := HV.out
              rwa [if_pos (by omega)] at this
            go_wp2
            go_ret
            exact ⟨by simp, below_drewN HBD.out _⟩
          · have h5 : ¬ S.length - 18 = 0 := by omega
            go_wp2
            go_quiet ((go_at_call 14; exact same_any _ _ _ _ _ _ N (by omega) _ (fun j => (ch S (18 + j) : Int)) HC1.out HC2.out _))
            by_cases hn : N = S.length - 18
            · obtain rfl : ev = .nilIface := by
                have := HV.out
                rwa [if_pos hn] at this
              have HN : Hid (N = S.length - 18) := hn
              clear hn
              go_wp2
              go_ret
              exact ⟨by have := HN.out; simp; omega, below_drewN HBD.out _⟩
            · obtain ⟨k, rfl⟩ : Bad ev := by
                have := HV.out
                rwa [if_neg hn] at this
              have HN : Hid (¬ N = S.length - 18) := hn
              clear hn
              go_wp2
              go_ret
              exact ⟨by have := HN.out; simp; omega, below_drewN HBD.out _⟩
end Go.Proofs.Qxb6606217aFmt
