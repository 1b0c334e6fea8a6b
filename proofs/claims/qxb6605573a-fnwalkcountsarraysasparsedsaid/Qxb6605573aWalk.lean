/-
  walk FOLLOWS THE MACHINE.
-/
import Derived.Test.Qxb6605573aWalk0
namespace Go.Proofs.Qxb6605573a
open Go.RowKit

def zeros16 : Array Value := #[.int .i64 0, .int .i64 0, .int .i64 0, .int .i64 0, .int .i64 0, .int .i64 0, .int .i64 0, .int .i64 0, .int .i64 0, .int .i64 0, .int .i64 0, .int .i64 0, .int .i64 0, .int .i64 0, .int .i64 0, .int .i64 0]
theorem getD_le {cs : List (Nat × Nat)} {n : Nat} (h : ∀ x ∈ cs, x.2 ≤ n) (k : Nat) : (cs.getD k (0, 0)).2 ≤ n := by
  by_cases hk : k < cs.length
  · rw [show cs.getD k (0, 0) = cs[k] by simp [List.getD, hk]]; exact h _ (List.getElem_mem hk)
  · rw [show cs.getD k (0, 0) = (0, 0) by simp [List.getD, hk]]; exact Nat.zero_le _
theorem bump_le {cs : List (Nat × Nat)} {i k : Nat} (h : ∀ x ∈ cs, x.2 ≤ 2 * i + 1) : ∀ x ∈ bump cs k, x.2 ≤ 2 * (i + 1) := by
  intro x hx
  unfold bump at hx
  rcases List.mem_or_eq_of_mem_set hx with hx | hx
  · have := h x hx; omega
  · subst hx; have := getD_le h k; simp only; omega
theorem len_snoc (cs : List (Nat × Nat)) (oa : Nat) : (cs ++ [(oa, 1)]).length = cs.length + 1 := by simp
theorem getD_snoc (cs : List (Nat × Nat)) (oa : Nat) : ((cs ++ [(oa, 1)]).getD cs.length (0, 0)).2 = 1 := by simp [List.getD]
theorem snoc_le {cs : List (Nat × Nat)} {i n oa : Nat} (h : ∀ x ∈ cs, x.2 ≤ 2 * i) (x : Nat × Nat) (hx : x ∈ cs ++ [(oa, 1)]) (hn : 2 * i < n) : x.2 ≤ n := by
  rcases List.mem_append.1 hx with h1 | h1
  · have := h x h1; omega
  · simp at h1; subst h1; simp only; omega
theorem stack_new (w : World) : SRow (w.alloc (.cells zeros16 52)) w.heap.size 1 (.slice (some ⟨w.heap.size, 0, none⟩) 0 16) 0 [] := by
  refine ⟨rfl, .inr ⟨w.heap.size, 16, rfl, Nat.le_refl _, by simp, by omega, fun j hj => ⟨?_, ?_⟩, fun j u hu => by simp at hu⟩⟩
  · rw [cell_of_row _ _ _ _ _ _ (heap_alloc_new w _)]
    have : j < zeros16.size := by simpa [zeros16] using hj
    simp [this]
  · exact frozen_of_row _ _ _ _ _ (heap_alloc_new w _)

theorem wrel {w : World} {db g cap B : Nat} {S : List UInt8} {pos : Int} {esc : Bool} {sca : Int} {rec : Bool} {r : Res} {arr opn op' oa' iv : Value} {wr : World} (i : Nat) (op : Bool) (oa : Nat) (st : List Int) (cs : List (Nat × Nat)) (go co : Nat) (cv : Value)
    (h1 : iv = .int .i64 (i : Int)) (h2 : arr = .int .i64 (cs.length : Int)) (h3 : opn = .slice (some ⟨go, 0, none⟩) st.length co) (h4 : op' = .bool op) (h5 : oa' = .int .i64 (oa : Int)) (hE : Ends S ⟨i, op, oa, st, cs⟩ r) (b1 : cs.length ≤ i) (b2 : st.length ≤ 2 * i) (b3 : ∀ x ∈ cs, x.2 ≤ 2 * i) (hb : Below db w wr) (hw : WkAt wr db g cap B S pos esc sca st (kept rec cs) go co cv) :
    WRel w db g cap B S pos esc sca rec r arr opn op' oa' iv wr := ⟨⟨i, op, oa, st, cs⟩, go, co, cv, h1, h2, h3, h4, h5, hE, b1, b2, b3, hb, hw⟩

set_option maxRecDepth 10000 in
set_option maxHeartbeats 8000000 in
theorem walk_any (db g cap : Nat) (S : List UInt8) (hL : S.length ≤ 1048576) (pos : Int) (esc : Bool) (sca : Int) (rec : Bool) (start : Nat) (r : Res) (w : World)
    (hblk : w.heap[db]? = some (.cells #[.slice (some ⟨g, 0, none⟩) S.length cap, .int .i64 pos, .bool esc, .slice none 0 0, .int .i64 sca] 46 (0, 0))) (hR : RowOf w g S) (hgd : g ≠ db) (hgw : g < w.heap.size) (hE : Ends S ⟨start, true, start, [], []⟩ r) :
    Calls Try.prog 31 #[.pointer (some ⟨db, 0, none⟩), .int .i64 (start : Int), .bool rec] w fun e w' => e = .returned (.tuple #[.int .i64 (r.1 : Int), .int .i64 (r.2.length : Int)]) ∧ Below db w w' ∧ ∃ go co cv st, WkAt w' db g cap w.heap.size S pos esc sca st (kept rec r.2) go co cv := by
  have hdw : db < w.heap.size := (Array.getElem?_eq_some_iff.1 hblk).1
  have HE : Hid (Ends S ⟨start, true, start, [], []⟩ r) := hE
  have HWK0 : Hid (WkAt (w.alloc (.cells zeros16 52)) db g cap w.heap.size S pos esc sca [] [] w.heap.size 16 (.slice none 0 0)) :=
    ⟨(Below.heap_alloc w _ db hdw).trans hblk, hR.of_block (Below.heap_alloc w _ g hgw), stack_new w, SRow.nil _ _ _, by simp [Value.ownBlock], hdw, hgw, hgd, by simp⟩
  have HB0 : Hid (Below db w (w.alloc (.cells zeros16 52))) := (Below.refl _ _).alloc (by omega) _
  have hsl : start < S.length := hE.lt
  have c0 : w.cell? ⟨db, 0, none⟩ = some (.slice (some ⟨g, 0, none⟩) S.length cap) := by rw [cell_of_row _ _ _ _ _ _ hblk]; rfl
  clear hblk hR hE
  unfold zeros16 at HWK0 HB0
  go_enter Try.func31, Try.ntmps31
  go_wp2
  go_loopw [7, 9, 10, 11, 13] (fun arr opn op oa i wr => WRel w db g cap w.heap.size S pos esc sca rec r arr opn op oa i wr) (fun _ _ _ _ i _ => S.length + 5 - (intOf i).toNat)
  case atStart => exact ⟨⟨start, true, start, [], []⟩, w.heap.size, 16, .slice none 0 0, rfl, rfl, rfl, rfl, rfl, HE.out, by simp, by simp, by simp, HB0.out, by cases rec <;> exact HWK0.out⟩
  case round =>
    clear HE HWK0 HB0 hsl c0
    obtain ⟨⟨i, op, oa, st, cs⟩, go, co, cv, rfl, rfl, rfl, rfl, rfl, hE, hb1, hb2, hb3, hbel, hwk⟩ := hrel
    dsimp only at hE hb1 hb2 hb3 hwk ⊢
    have hi : i < S.length := hE.lt
    have hib : (i : Int) < (S.length : Int) := by omega
    have HE : Hid (Ends S ⟨i, op, oa, st, cs⟩ r) := hE
    have HW : Hid (WkAt wr db g cap w.heap.size S pos esc sca st (kept rec cs) go co cv) := hwk
    have HB : Hid (Below db w wr) := hbel
    have H3 : Hid (∀ x ∈ cs, x.2 ≤ 2 * i) := hb3
    have hcq := hwk.row i hi
    have hmeas : S.length + 5 - (i + 1) < S.length + 5 - i := by omega
    clear hE hwk hbel hb3
    by_cases hws : isWs (ch S i) = true
    · have HN : Hid (Ends S ⟨i + 1, op, oa, st, cs⟩ r) := HE.out.ws hws
      rcases (show ch S i = 32 ∨ ch S i = 9 ∨ ch S i = 10 ∨ ch S i = 13 by simpa [isWs, or_assoc] using hws) with hk | hk | hk | hk
      all_goals
        rw [hk] at hcq
        clear hws hk
        go_wp2
        go_roundw
        case rel => exact wrel (i + 1) op oa st cs go co cv (by go_num) rfl rfl rfl rfl HN.out (by omega) (by omega) (fun x hx => by have := H3.out x hx; omega) HB.out HW.out
        case measure => simp [intOf]; omega
    have hnw : isWs (ch S i) = false := Bool.eq_false_iff.2 hws
    have HNW : Hid (isWs (ch S i) = false) := hnw
    have k32 : (((ch S i : Nat) : Int) == 32) = false := by simp [isWs] at hnw; simp; omega
    have k9 : (((ch S i : Nat) : Int) == 9) = false := by simp [isWs] at hnw; simp; omega
    have k10 : (((ch S i : Nat) : Int) == 10) = false := by simp [isWs] at hnw; simp; omega
    have k13 : (((ch S i : Nat) : Int) == 13) = false := by simp [isWs] at hnw; simp; omega
    clear hws hnw
    have HR : Hid (RowOf wr g S) := HW.out.row
    cases op
    · have HA : Hid (ActEnds S i (ch S i) oa st cs r) := HE.out.act HNW.out
      clear HE HNW
      by_cases h34 : ch S i = 34
      · have HN : Hid (Ends S ⟨sEnd S (i + 1) + 1, false, oa, st, cs⟩ r) := act34 HA.out h34
        rw [h34] at hcq
        clear h34 k32 k9 k10 k13
        go_wp2
        go_loop [13] (fun v => ∃ j : Nat, v = .int .i64 (j : Int) ∧ i + 1 ≤ j ∧ j ≤ S.length + 1 ∧ sEnd S (i + 1) = sEnd S j) (fun v => S.length + 5 - (intOf v).toNat)
        case atStart => exact ⟨i + 1, by go_num, by omega, by omega, rfl⟩
        case round =>
          obtain ⟨j, rfl, hj1, hj2, hse⟩ := hrel
          have HS : Hid (sEnd S (i + 1) = sEnd S j) := hse
          clear hse
          by_cases hjl : j < S.length
          · have hcj := HR.out j hjl
            have hjb : (j : Int) < (S.length : Int) := by omega
            by_cases hq : ch S j = 34
            · have HJ : Hid (sEnd S (i + 1) = j) := HS.out.trans (sEnd_quote hjl hq)
              have hq' : (((ch S j : Nat) : Int) != 34) = false := by simp; omega
              rw [hq] at hcj
              clear hq hq'
              go_wp2
              go_roundw
              case rel => exact wrel (j + 1) false oa st cs go co cv (by go_num) rfl rfl rfl (by first | rfl | go_num) (by have := HN.out; rw [HJ.out] at this; exact this) (by omega) (by omega) (fun x hx => by have := H3.out x hx; omega) HB.out HW.out
              case measure => simp [intOf]; omega
            · have hq' : (((ch S j : Nat) : Int) != 34) = true := by simp; omega
              by_cases hbs : ch S j = 92
              · have HJ : Hid (sEnd S (i + 1) = sEnd S (j + 2)) := HS.out.trans (sEnd_back hjl hbs)
                rw [hbs] at hcj
                clear hq hq' hbs
                go_wp2
                go_round
                case rel => exact ⟨j + 2, by go_num, by omega, by omega, HJ.out⟩
                case measure => simp [intOf]; omega
              · have HJ : Hid (sEnd S (i + 1) = sEnd S (j + 1)) := HS.out.trans (sEnd_plain hjl hq hbs)
                have hbs' : (((ch S j : Nat) : Int) == 92) = false := by simp; omega
                generalize ch S j = d at *
                clear hq hbs
                go_wp2
                go_round
                case rel => exact ⟨j + 1, by go_num, by omega, by omega, HJ.out⟩
                case measure => simp [intOf]; omega
          · have hjb : ¬ (j : Int) < (S.length : Int) := by omega
            have HJ : Hid (sEnd S (i + 1) = j) := HS.out.trans (sEnd_out (by omega))
            exfalso
            have := HN.out.lt
            rw [HJ.out] at this
            omega
      by_cases h91 : ch S i = 91
      · have HN : Hid (Ends S ⟨i + 1, true, i + 1, st, cs⟩ r) := act91 HA.out h91
        rw [h91] at hcq
        clear h34 h91 k32 k9 k10 k13
        go_wp2
        go_roundw
        case rel => exact wrel (i + 1) true (i + 1) st cs go co cv (by go_num) rfl rfl rfl (by first | rfl | go_num) HN.out (by omega) (by omega) (fun x hx => by have := H3.out x hx; omega) HB.out HW.out
        case measure => simp [intOf]; omega
      by_cases h123 : ch S i = 123
      · have HN : Hid (Ends S ⟨i + 1, false, oa, -1 :: st, cs⟩ r) := act123 HA.out h123
        rw [h123] at hcq
        clear h34 h91 h123 k32 k9 k10 k13
        go_wp2_with (at_builtin; refine appI wr _ rfl _ _ rfl w.heap.size st.length _ _ co rfl HW.out.opn _ rfl rfl (by omega) HW.out.Bw ?_)
        intro k3 c3 w3 hS3 hg3 hf3
        have HW3 : Hid (WkAt w3 db g cap w.heap.size S pos esc sca (-1 :: st) (kept rec cs) k3 c3 cv) := (HW.out.alloc (.cells #[.int .i64 (-1)] 3)).push hS3 hg3 (by simpa [Value.ownBlock] using hf3)
        have HB3 : Hid (Below db w w3) := (HB.out.alloc (by have := HW.out.dw; omega) _).grown hg3 (by have := HW.out.dw; simp at this ⊢; omega) (fun k hk => by have := (HW.out.opn.lt k hk).1; have := HW.out.dB; omega)
        clear hS3 hg3 hf3
        go_wp2
        go_roundw
        case rel => exact wrel (i + 1) false oa (-1 :: st) cs k3 c3 cv (by go_num) rfl rfl rfl (by first | rfl | go_num) HN.out (by omega) (by simp; omega) (fun x hx => by have := H3.out x hx; omega) HB3.out HW3.out
        case measure => simp [intOf]; omega
      by_cases h44 : ch S i = 44
      · obtain ⟨t, st', hst, hcase⟩ := act44 HA.out h44
        subst hst
        have hsl : st'.length + 1 ≤ 2 * i := by simpa using hb2
        clear hb2
        have HCS : Hid ((0 ≤ t ∧ (t).toNat < (cs).length ∧ Ends S ⟨i + 1, false, oa, t :: st', bump cs (t).toNat⟩ r) ∨ (t < 0 ∧ Ends S ⟨i + 1, false, oa, t :: st', cs⟩ r)) := hcase
        clear hcase
        rw [h44] at hcq
        clear h34 h91 h123 h44 k32 k9 k10 k13
        have ctop : wr.cell? ⟨go, st'.length, none⟩ = some (.int .i64 (t)) := by
          obtain ⟨_, _, hv, _, _, _, _, hc⟩ := HW.out.opn.at_ (by simp)
          cases hv
          exact hc _ _ (stk_top _ _)
        have hlb : (st'.length : Int) < (st'.length : Int) + 1 := by omega
        rcases HCS.out with ⟨ht0, htl, hE2⟩ | ⟨ht0, hE2⟩
        · have HN : Hid (Ends S ⟨i + 1, false, oa, t :: st', bump cs (t).toNat⟩ r) := hE2
          clear hE2 HCS
          cases rec
          · have HW2 : Hid (WkAt wr db g cap w.heap.size S pos esc sca (t :: st') (kept false (bump cs (t).toNat)) go co cv) := HW.out
            go_wp2
            go_roundw
            case rel => exact wrel (i + 1) false oa (t :: st') (bump cs (t).toNat) go co cv (by go_num) (by rw [bump_length]) rfl rfl (by first | rfl | go_num) HN.out (by rw [bump_length]; omega) (by simp; omega) (bump_le (fun x hx => by have := H3.out x hx; omega)) HB.out HW2.out
            case measure => simp [intOf]; omega
          · obtain ⟨tn, rfl⟩ : ∃ tn : Nat, t = (tn : Int) := ⟨t.toNat, by omega⟩
            obtain ⟨gc, cc, hcv, _, _, hnc, hth, hcs2⟩ := HW.out.cnt.at_ (show 0 < (kept true cs).length by show 0 < (cs).length; omega)
            have htl2 : tn < (cs).length := (by simpa using htl)
            obtain ⟨nn, hnn⟩ : ∃ nn : Nat, nn = ((cs).getD tn (0, 0)).2 := ⟨_, rfl⟩
            have cn : wr.cell? ⟨gc, tn * 2 + 1, none⟩ = some (.int .i64 (nn : Int)) := by rw [hnn]; exact hcs2 _ _ (pairs_at cs tn htl2).2
            have fn : wr.frozen? ⟨gc, tn * 2 + 1, none⟩ = false := (hth _ (by have : (kept true cs).length = (cs).length := rfl; rw [this] at hnc; omega)).2
            have hnb : nn ≤ 2 * i + 2 := by rw [hnn]; have := getD_le H3.out tn; omega
            have c3 := HW.out.c3
            rw [hcv] at c3
            have hcl : (kept true cs).length = (cs).length := rfl
            rw [hcl] at c3
            have HW2 : Hid (WkAt (wr.setCell ⟨gc, tn * 2 + 1, none⟩ (.int .i64 ((nn : Int) + 1))) db g cap w.heap.size S pos esc sca ((tn : Int) :: st') (kept true (bump cs tn)) go co (.slice (some ⟨gc, 0, none⟩) (cs).length cc)) := by
              have h9 := HW.out
              rw [hcv] at h9
              have h8 := WkAt.raise (j := tn) h9 htl2
              have h7 : ((((cs).getD tn (0, 0)).2 + 1 : Nat) : Int) = (nn : Int) + 1 := by rw [← hnn]; omega
              have h6 : (((kept true cs).getD tn (0, 0)).2 + 1 : Nat) = (((cs).getD tn (0, 0)).2 + 1 : Nat) := rfl
              rw [h6, h7] at h8
              exact h8
            have hgcd : db ≤ gc := by have h9 := HW.out; rw [hcv] at h9; have := (h9.cnt.lt gc rfl).1; have := h9.dB; omega
            have HB2 : Hid (Below db w (wr.setCell ⟨gc, tn * 2 + 1, none⟩ (.int .i64 ((nn : Int) + 1)))) := HB.out.setCell (p := ⟨gc, tn * 2 + 1, none⟩) hgcd _
            have htb : (tn : Int) < (((cs).length : Nat) : Int) := by omega
            clear hcs2 hth hnn hcv hcl
            go_wp2
            go_roundw
            case rel => exact wrel (i + 1) false oa ((tn : Int) :: st') (bump cs tn) go co (.slice (some ⟨gc, 0, none⟩) (cs).length cc) (by go_num) (by rw [bump_length]) rfl rfl (by first | rfl | go_num) HN.out (by rw [bump_length]; omega) (by simp; omega) (bump_le (fun x hx => by have := H3.out x hx; omega)) HB2.out HW2.out
            case measure => simp [intOf]; omega
        · have HN : Hid (Ends S ⟨i + 1, false, oa, t :: st', cs⟩ r) := hE2
          have ht1 : ¬ (0 : Int) ≤ t := by omega
          clear hE2 HCS
          cases rec
          all_goals
            go_wp2
            go_roundw
            case rel => exact wrel (i + 1) false oa (t :: st') cs go co cv (by go_num) rfl rfl rfl (by first | rfl | go_num) HN.out (by omega) (by simp; omega) (fun x hx => by have := H3.out x hx; omega) HB.out HW.out
            case measure => simp [intOf]; omega
      by_cases h93 : ch S i = 93
      · obtain ⟨t, st', hst, hcase⟩ := act93 HA.out (by omega)
        subst hst
        have hsl : st'.length + 1 ≤ 2 * i := by simpa using hb2
        clear hb2
        have HCS : Hid ((st' = [] ∧ r = (i + 1, cs)) ∨ (st' ≠ [] ∧ Ends S ⟨i + 1, false, oa, st', cs⟩ r)) := hcase
        clear hcase
        rw [h93] at hcq
        clear h34 h91 h123 h44  h93 k32 k9 k10 k13
        have hco : st'.length + 1 ≤ co := by
          obtain ⟨_, _, hv, _, _, hn, _, _⟩ := HW.out.opn.at_ (by simp)
          cases hv
          simpa using hn
        have hcob : (st'.length : Int) ≤ (co : Int) := by omega
        have HWP : Hid (WkAt wr db g cap w.heap.size S pos esc sca st' (kept rec cs) go co cv) := HW.out.pop
        rcases HCS.out with ⟨he2, hr⟩ | ⟨he2, hE2⟩
        · have hl0 : ((st'.length : Int) == 0) = true := by rw [he2]; rfl
          have HRR : Hid (r = (i + 1, cs)) := hr
          clear he2 hr HCS
          go_wp2
          go_ret2
          refine ⟨by rw [HRR.out]; first | done | (simp; done) | go_num, HB.out, _, _, _, _, by rw [HRR.out]; exact HWP.out⟩
        · have hl0 : ((st'.length : Int) == 0) = false := by
            have : st'.length ≠ 0 := fun e => he2 (List.eq_nil_of_length_eq_zero e)
            simp; omega
          have HN : Hid (Ends S ⟨i + 1, false, oa, st', cs⟩ r) := hE2
          clear he2 hE2 HCS
          go_wp2
          go_roundw
          case rel => exact wrel (i + 1) false oa st' cs go co cv (by go_num) rfl rfl rfl (by first | rfl | go_num) HN.out (by omega) (by omega) (fun x hx => by have := H3.out x hx; omega) HB.out HWP.out
          case measure => simp [intOf]; omega
      by_cases h125 : ch S i = 125
      · obtain ⟨t, st', hst, hcase⟩ := act93 HA.out (by omega)
        subst hst
        have hsl : st'.length + 1 ≤ 2 * i := by simpa using hb2
        clear hb2
        have HCS : Hid ((st' = [] ∧ r = (i + 1, cs)) ∨ (st' ≠ [] ∧ Ends S ⟨i + 1, false, oa, st', cs⟩ r)) := hcase
        clear hcase
        rw [h125] at hcq
        clear h34 h91 h123 h44 h93 h125 k32 k9 k10 k13
        have hco : st'.length + 1 ≤ co := by
          obtain ⟨_, _, hv, _, _, hn, _, _⟩ := HW.out.opn.at_ (by simp)
          cases hv
          simpa using hn
        have hcob : (st'.length : Int) ≤ (co : Int) := by omega
        have HWP : Hid (WkAt wr db g cap w.heap.size S pos esc sca st' (kept rec cs) go co cv) := HW.out.pop
        rcases HCS.out with ⟨he2, hr⟩ | ⟨he2, hE2⟩
        · have hl0 : ((st'.length : Int) == 0) = true := by rw [he2]; rfl
          have HRR : Hid (r = (i + 1, cs)) := hr
          clear he2 hr HCS
          go_wp2
          go_ret2
          refine ⟨by rw [HRR.out]; first | done | (simp; done) | go_num, HB.out, _, _, _, _, by rw [HRR.out]; exact HWP.out⟩
        · have hl0 : ((st'.length : Int) == 0) = false := by
            have : st'.length ≠ 0 := fun e => he2 (List.eq_nil_of_length_eq_zero e)
            simp; omega
          have HN : Hid (Ends S ⟨i + 1, false, oa, st', cs⟩ r) := hE2
          clear he2 hE2 HCS
          go_wp2
          go_roundw
          case rel => exact wrel (i + 1) false oa st' cs go co cv (by go_num) rfl rfl rfl (by first | rfl | go_num) HN.out (by omega) (by omega) (fun x hx => by have := H3.out x hx; omega) HB.out HWP.out
          case measure => simp [intOf]; omega
      have HN : Hid (Ends S ⟨i + 1, false, oa, st, cs⟩ r) := actElse HA.out h34 h91 h123 h44 h93 h125
      have e34 : (((ch S i : Nat) : Int) == 34) = false := by simp; omega
      have e91 : (((ch S i : Nat) : Int) == 91) = false := by simp; omega
      have e123 : (((ch S i : Nat) : Int) == 123) = false := by simp; omega
      have e44 : (((ch S i : Nat) : Int) == 44) = false := by simp; omega
      have e93 : (((ch S i : Nat) : Int) == 93) = false := by simp; omega
      have e125 : (((ch S i : Nat) : Int) == 125) = false := by simp; omega
      generalize ch S i = c at *
      clear h34 h91 h123 h44 h93 h125
      go_wp2
      go_roundw
      case rel => exact wrel (i + 1) false oa st cs go co cv (by go_num) rfl rfl rfl (by first | rfl | go_num) HN.out (by omega) (by omega) (fun x hx => by have := H3.out x hx; omega) HB.out HW.out
      case measure => simp [intOf]; omega
    · by_cases h93 : ch S i = 93
      · have HCO : Hid ((st = [] ∧ r = (i + 1, cs)) ∨ (st ≠ [] ∧ Ends S ⟨i + 1, false, oa, st, cs⟩ r)) := HE.out.closeO h93
        rw [h93] at hcq
        clear HE HNW h93 k32 k9 k10 k13
        rcases HCO.out with ⟨he, hr⟩ | ⟨he, hE2⟩
        · have hl0 : ((st.length : Int) == 0) = true := by rw [he]; rfl
          have HRR : Hid (r = (i + 1, cs)) := hr
          clear he hr HCO
          go_wp2
          go_ret2
          refine ⟨by rw [HRR.out]; go_num, HB.out, _, _, _, _, by rw [HRR.out]; exact HW.out⟩
        · have hl0 : ((st.length : Int) == 0) = false := by
            have : st.length ≠ 0 := fun e => he (List.eq_nil_of_length_eq_zero e)
            simp; omega
          have HN : Hid (Ends S ⟨i + 1, false, oa, st, cs⟩ r) := hE2
          clear he hE2 HCO
          go_wp2
          go_roundw
          case rel => exact wrel (i + 1) false oa st cs go co cv (by go_num) rfl rfl rfl (by first | rfl | go_num) HN.out (by omega) (by omega) (fun x hx => by have := H3.out x hx; omega) HB.out HW.out
          case measure => simp [intOf]; omega
      have HA : Hid (ActEnds S i (ch S i) oa ((cs.length : Int) :: st) (cs ++ [(oa, 1)]) r) := HE.out.actO HNW.out h93
      have k93 : (((ch S i : Nat) : Int) == 93) = false := by simp; omega
      clear HE HNW
      cases rec
      · by_cases h34 : ch S i = 34
        · have HN : Hid (Ends S ⟨sEnd S (i + 1) + 1, false, oa, ((cs.length : Int) :: st), (cs ++ [(oa, 1)])⟩ r) := act34 HA.out h34
          rw [h34] at hcq
          clear h34 k32 k9 k10 k13 k93 h93
          go_wp2_with (at_builtin; refine appI wr _ rfl _ _ rfl w.heap.size st.length _ _ co rfl HW.out.opn _ rfl rfl (by omega) HW.out.Bw ?_)
          intro k1 c1 w1 hS1 hg1 hf1
          have HW1 : Hid (WkAt w1 db g cap w.heap.size S pos esc sca ((cs.length : Int) :: st) (kept false (cs ++ [(oa, 1)])) k1 c1 cv) := (HW.out.alloc (.cells #[.int .i64 (cs.length : Int)] 3)).push hS1 hg1 (by simpa [Value.ownBlock] using hf1)
          have HB1 : Hid (Below db w w1) := (HB.out.alloc (by have := HW.out.dw; omega) _).grown hg1 (by have := HW.out.dw; simp; omega) (fun k hk => by have := (HW.out.opn.lt k hk).1; have := HW.out.dB; omega)
          clear hS1 hg1 hf1
          have HR : Hid (RowOf w1 g S) := HW1.out.row
          go_wp2
          go_loop [13] (fun v => ∃ j : Nat, v = .int .i64 (j : Int) ∧ i + 1 ≤ j ∧ j ≤ S.length + 1 ∧ sEnd S (i + 1) = sEnd S j) (fun v => S.length + 5 - (intOf v).toNat)
          case atStart => exact ⟨i + 1, by go_num, by omega, by omega, rfl⟩
          case round =>
            obtain ⟨j, rfl, hj1, hj2, hse⟩ := hrel
            have HS : Hid (sEnd S (i + 1) = sEnd S j) := hse
            clear hse
            by_cases hjl : j < S.length
            · have hcj := HR.out j hjl
              have hjb : (j : Int) < (S.length : Int) := by omega
              by_cases hq : ch S j = 34
              · have HJ : Hid (sEnd S (i + 1) = j) := HS.out.trans (sEnd_quote hjl hq)
                have hq' : (((ch S j : Nat) : Int) != 34) = false := by simp; omega
                rw [hq] at hcj
                clear hq hq'
                go_wp2
                go_roundw
                case rel => exact wrel (j + 1) false oa ((cs.length : Int) :: st) (cs ++ [(oa, 1)]) k1 c1 cv (by go_num) (by simp) rfl rfl (by first | rfl | go_num) (by have := HN.out; rw [HJ.out] at this; exact this) (by simp; omega) (by simp; omega) (fun x hx => snoc_le H3.out x hx (by omega)) HB1.out HW1.out
                case measure => simp [intOf]; omega
              · have hq' : (((ch S j : Nat) : Int) != 34) = true := by simp; omega
                by_cases hbs : ch S j = 92
                · have HJ : Hid (sEnd S (i + 1) = sEnd S (j + 2)) := HS.out.trans (sEnd_back hjl hbs)
                  rw [hbs] at hcj
                  clear hq hq' hbs
                  go_wp2
                  go_round
                  case rel => exact ⟨j + 2, by go_num, by omega, by omega, HJ.out⟩
                  case measure => simp [intOf]; omega
                · have HJ : Hid (sEnd S (i + 1) = sEnd S (j + 1)) := HS.out.trans (sEnd_plain hjl hq hbs)
                  have hbs' : (((ch S j : Nat) : Int) == 92) = false := by simp; omega
                  generalize ch S j = d at *
                  clear hq hbs
                  go_wp2
                  go_round
                  case rel => exact ⟨j + 1, by go_num, by omega, by omega, HJ.out⟩
                  case measure => simp [intOf]; omega
            · have hjb : ¬ (j : Int) < (S.length : Int) := by omega
              have HJ : Hid (sEnd S (i + 1) = j) := HS.out.trans (sEnd_out (by omega))
              exfalso
              have := HN.out.lt
              rw [HJ.out] at this
              omega
        by_cases h91 : ch S i = 91
        · have HN : Hid (Ends S ⟨i + 1, true, i + 1, ((cs.length : Int) :: st), (cs ++ [(oa, 1)])⟩ r) := act91 HA.out h91
          rw [h91] at hcq
          clear h34 h91 k32 k9 k10 k13 k93 h93
          go_wp2_with (at_builtin; refine appI wr _ rfl _ _ rfl w.heap.size st.length _ _ co rfl HW.out.opn _ rfl rfl (by omega) HW.out.Bw ?_)
          intro k1 c1 w1 hS1 hg1 hf1
          have HW1 : Hid (WkAt w1 db g cap w.heap.size S pos esc sca ((cs.length : Int) :: st) (kept false (cs ++ [(oa, 1)])) k1 c1 cv) := (HW.out.alloc (.cells #[.int .i64 (cs.length : Int)] 3)).push hS1 hg1 (by simpa [Value.ownBlock] using hf1)
          have HB1 : Hid (Below db w w1) := (HB.out.alloc (by have := HW.out.dw; omega) _).grown hg1 (by have := HW.out.dw; simp; omega) (fun k hk => by have := (HW.out.opn.lt k hk).1; have := HW.out.dB; omega)
          clear hS1 hg1 hf1
          have HR : Hid (RowOf w1 g S) := HW1.out.row
          go_wp2
          go_roundw
          case rel => exact wrel (i + 1) true (i + 1) ((cs.length : Int) :: st) (cs ++ [(oa, 1)]) k1 c1 cv (by go_num) (by simp) rfl rfl (by first | rfl | go_num) HN.out (by simp; omega) (by simp; omega) (fun x hx => snoc_le H3.out x hx (by omega)) HB1.out HW1.out
          case measure => simp [intOf]; omega
        by_cases h123 : ch S i = 123
        · have HN : Hid (Ends S ⟨i + 1, false, oa, -1 :: ((cs.length : Int) :: st), (cs ++ [(oa, 1)])⟩ r) := act123 HA.out h123
          rw [h123] at hcq
          clear h34 h91 h123 k32 k9 k10 k13 k93 h93
          go_wp2_with (at_builtin; refine appI wr _ rfl _ _ rfl w.heap.size st.length _ _ co rfl HW.out.opn _ rfl rfl (by omega) HW.out.Bw ?_)
          intro k1 c1 w1 hS1 hg1 hf1
          have HW1 : Hid (WkAt w1 db g cap w.heap.size S pos esc sca ((cs.length : Int) :: st) (kept false (cs ++ [(oa, 1)])) k1 c1 cv) := (HW.out.alloc (.cells #[.int .i64 (cs.length : Int)] 3)).push hS1 hg1 (by simpa [Value.ownBlock] using hf1)
          have HB1 : Hid (Below db w w1) := (HB.out.alloc (by have := HW.out.dw; omega) _).grown hg1 (by have := HW.out.dw; simp; omega) (fun k hk => by have := (HW.out.opn.lt k hk).1; have := HW.out.dB; omega)
          clear hS1 hg1 hf1
          have HR : Hid (RowOf w1 g S) := HW1.out.row
          go_wp2_with (at_builtin; refine appI w1 _ rfl _ _ rfl w.heap.size (st.length + 1) _ _ c1 rfl HW1.out.opn _ rfl rfl (by omega) HW1.out.Bw ?_)
          intro k3 c3 w3 hS3 hg3 hf3
          have HW3 : Hid (WkAt w3 db g cap w.heap.size S pos esc sca (-1 :: ((cs.length : Int) :: st)) (kept false (cs ++ [(oa, 1)])) k3 c3 cv) := (HW1.out.alloc (.cells #[.int .i64 (-1)] 3)).push hS3 hg3 (by simpa [Value.ownBlock] using hf3)
          have HB3 : Hid (Below db w w3) := (HB1.out.alloc (by have := HW1.out.dw; omega) _).grown hg3 (by have := HW1.out.dw; simp at this ⊢; omega) (fun k hk => by have := (HW1.out.opn.lt k hk).1; have := HW1.out.dB; omega)
          clear hS3 hg3 hf3
          go_wp2
          go_roundw
          case rel => exact wrel (i + 1) false oa (-1 :: ((cs.length : Int) :: st)) (cs ++ [(oa, 1)]) k3 c3 cv (by go_num) (by simp) rfl rfl (by first | rfl | go_num) HN.out (by simp; omega) (by simp; omega) (fun x hx => snoc_le H3.out x hx (by omega)) HB3.out HW3.out
          case measure => simp [intOf]; omega
        by_cases h44 : ch S i = 44
        · obtain ⟨t, st', hst, hcase⟩ := act44 HA.out h44
          cases hst
          have hn0 : Ends S ⟨i + 1, false, oa, (cs.length : Int) :: st, bump (cs ++ [(oa, 1)]) cs.length⟩ r := by
            rcases hcase with ⟨_, _, h⟩ | ⟨h, _⟩
            · simpa using h
            · omega
          have HN : Hid (Ends S ⟨i + 1, false, oa, (cs.length : Int) :: st, bump (cs ++ [(oa, 1)]) cs.length⟩ r) := hn0
          clear hcase hn0
          rw [h44] at hcq
          clear h34 h91 h123 h44 k32 k9 k10 k13 k93 h93
          go_wp2_with (at_builtin; refine appI wr _ rfl _ _ rfl w.heap.size st.length _ _ co rfl HW.out.opn _ rfl rfl (by omega) HW.out.Bw ?_)
          intro k1 c1 w1 hS1 hg1 hf1
          have HW1 : Hid (WkAt w1 db g cap w.heap.size S pos esc sca ((cs.length : Int) :: st) (kept false (cs ++ [(oa, 1)])) k1 c1 cv) := (HW.out.alloc (.cells #[.int .i64 (cs.length : Int)] 3)).push hS1 hg1 (by simpa [Value.ownBlock] using hf1)
          have HB1 : Hid (Below db w w1) := (HB.out.alloc (by have := HW.out.dw; omega) _).grown hg1 (by have := HW.out.dw; simp; omega) (fun k hk => by have := (HW.out.opn.lt k hk).1; have := HW.out.dB; omega)
          clear hS1 hg1 hf1
          have HR : Hid (RowOf w1 g S) := HW1.out.row
          have ctop : w1.cell? ⟨k1, st.length, none⟩ = some (.int .i64 (cs.length : Int)) := by
            obtain ⟨_, _, hv, _, _, _, _, hc⟩ := HW1.out.opn.at_ (by simp)
            cases hv
            exact hc _ _ (stk_top _ _)
          have hlb : (st.length : Int) < (st.length : Int) + 1 := by omega
          have HW2 : Hid (WkAt w1 db g cap w.heap.size S pos esc sca ((cs.length : Int) :: st) (kept false (bump (cs ++ [(oa, 1)]) cs.length)) k1 c1 cv) := HW1.out
          go_wp2
          go_roundw
          case rel => exact wrel (i + 1) false oa ((cs.length : Int) :: st) (bump (cs ++ [(oa, 1)]) cs.length) k1 c1 cv (by go_num) (by rw [bump_length]; simp) rfl rfl (by first | rfl | go_num) HN.out (by rw [bump_length]; simp; omega) (by simp; omega) (bump_le (fun x hx => snoc_le H3.out x hx (by omega))) HB1.out HW2.out
          case measure => simp [intOf]; omega
        by_cases h125 : ch S i = 125
        · obtain ⟨t, st', hst, hcase⟩ := act93 HA.out (by omega)
          cases hst
          have HCS : Hid ((st = [] ∧ r = (i + 1, (cs ++ [(oa, 1)]))) ∨ (st ≠ [] ∧ Ends S ⟨i + 1, false, oa, st, (cs ++ [(oa, 1)])⟩ r)) := hcase
          clear hcase
          rw [h125] at hcq
          clear h34 h91 h123 h44  h125 k32 k9 k10 k13 k93 h93
          go_wp2_with (at_builtin; refine appI wr _ rfl _ _ rfl w.heap.size st.length _ _ co rfl HW.out.opn _ rfl rfl (by omega) HW.out.Bw ?_)
          intro k1 c1 w1 hS1 hg1 hf1
          have HW1 : Hid (WkAt w1 db g cap w.heap.size S pos esc sca ((cs.length : Int) :: st) (kept false (cs ++ [(oa, 1)])) k1 c1 cv) := (HW.out.alloc (.cells #[.int .i64 (cs.length : Int)] 3)).push hS1 hg1 (by simpa [Value.ownBlock] using hf1)
          have HB1 : Hid (Below db w w1) := (HB.out.alloc (by have := HW.out.dw; omega) _).grown hg1 (by have := HW.out.dw; simp; omega) (fun k hk => by have := (HW.out.opn.lt k hk).1; have := HW.out.dB; omega)
          clear hS1 hg1 hf1
          have HR : Hid (RowOf w1 g S) := HW1.out.row
          have hco : st.length + 1 ≤ c1 := by
            obtain ⟨_, _, hv, _, _, hn, _, _⟩ := HW1.out.opn.at_ (by simp)
            cases hv
            simpa using hn
          have hcob : (st.length : Int) ≤ (c1 : Int) := by omega
          have HWP : Hid (WkAt w1 db g cap w.heap.size S pos esc sca st (kept false (cs ++ [(oa, 1)])) k1 c1 cv) := HW1.out.pop
          rcases HCS.out with ⟨he2, hr⟩ | ⟨he2, hE2⟩
          · have hl0 : ((st.length : Int) == 0) = true := by rw [he2]; rfl
            have HRR : Hid (r = (i + 1, (cs ++ [(oa, 1)]))) := hr
            clear he2 hr HCS
            go_wp2
            go_ret2
            refine ⟨by rw [HRR.out]; first | done | (simp; done) | go_num, HB1.out, _, _, _, _, by rw [HRR.out]; exact HWP.out⟩
          · have hl0 : ((st.length : Int) == 0) = false := by
              have : st.length ≠ 0 := fun e => he2 (List.eq_nil_of_length_eq_zero e)
              simp; omega
            have HN : Hid (Ends S ⟨i + 1, false, oa, st, (cs ++ [(oa, 1)])⟩ r) := hE2
            clear he2 hE2 HCS
            go_wp2
            go_roundw
            case rel => exact wrel (i + 1) false oa st (cs ++ [(oa, 1)]) k1 c1 cv (by go_num) (by simp) rfl rfl (by first | rfl | go_num) HN.out (by simp; omega) (by omega) (fun x hx => snoc_le H3.out x hx (by omega)) HB1.out HWP.out
            case measure => simp [intOf]; omega
        have HN : Hid (Ends S ⟨i + 1, false, oa, ((cs.length : Int) :: st), (cs ++ [(oa, 1)])⟩ r) := actElse HA.out h34 h91 h123 h44 h93 h125
        have e34 : (((ch S i : Nat) : Int) == 34) = false := by simp; omega
        have e91 : (((ch S i : Nat) : Int) == 91) = false := by simp; omega
        have e123 : (((ch S i : Nat) : Int) == 123) = false := by simp; omega
        have e44 : (((ch S i : Nat) : Int) == 44) = false := by simp; omega
        have e93 : (((ch S i : Nat) : Int) == 93) = false := by simp; omega
        have e125 : (((ch S i : Nat) : Int) == 125) = false := by simp; omega
        generalize ch S i = c at *
        clear h34 h91 h123 h44 h125
        go_wp2_with (at_builtin; refine appI wr _ rfl _ _ rfl w.heap.size st.length _ _ co rfl HW.out.opn _ rfl rfl (by omega) HW.out.Bw ?_)
        intro k1 c1 w1 hS1 hg1 hf1
        have HW1 : Hid (WkAt w1 db g cap w.heap.size S pos esc sca ((cs.length : Int) :: st) (kept false (cs ++ [(oa, 1)])) k1 c1 cv) := (HW.out.alloc (.cells #[.int .i64 (cs.length : Int)] 3)).push hS1 hg1 (by simpa [Value.ownBlock] using hf1)
        have HB1 : Hid (Below db w w1) := (HB.out.alloc (by have := HW.out.dw; omega) _).grown hg1 (by have := HW.out.dw; simp; omega) (fun k hk => by have := (HW.out.opn.lt k hk).1; have := HW.out.dB; omega)
        clear hS1 hg1 hf1
        have HR : Hid (RowOf w1 g S) := HW1.out.row
        go_wp2
        go_roundw
        case rel => exact wrel (i + 1) false oa ((cs.length : Int) :: st) (cs ++ [(oa, 1)]) k1 c1 cv (by go_num) (by simp) rfl rfl (by first | rfl | go_num) HN.out (by simp; omega) (by simp; omega) (fun x hx => snoc_le H3.out x hx (by omega)) HB1.out HW1.out
        case measure => simp [intOf]; omega
      · have HWq : Hid (WkAt wr db g cap w.heap.size S pos esc sca st cs go co cv) := HW.out
        clear HW
        obtain ⟨ao, ca, hcv⟩ := HWq.out.cnt.shape
        subst hcv
        have HW : Hid (WkAt wr db g cap w.heap.size S pos esc sca st cs go co (.slice ao cs.length ca)) := HWq.out
        clear HWq
        by_cases h34 : ch S i = 34
        · have HN : Hid (Ends S ⟨sEnd S (i + 1) + 1, false, oa, ((cs.length : Int) :: st), (cs ++ [(oa, 1)])⟩ r) := act34 HA.out h34
          rw [h34] at hcq
          clear h34 k32 k9 k10 k13 k93 h93
          go_wp2_with (at_builtin; refine appI wr _ rfl _ _ rfl w.heap.size st.length _ _ co rfl HW.out.opn _ rfl rfl (by omega) HW.out.Bw ?_)
          intro k1 c1 w1 hS1 hg1 hf1
          have HW1 : Hid (WkAt w1 db g cap w.heap.size S pos esc sca ((cs.length : Int) :: st) cs k1 c1 (.slice ao cs.length ca)) := (HW.out.alloc (.cells #[.int .i64 (cs.length : Int)] 3)).push hS1 hg1 (by simpa [Value.ownBlock] using hf1)
          have HB1 : Hid (Below db w w1) := (HB.out.alloc (by have := HW.out.dw; omega) _).grown hg1 (by have := HW.out.dw; simp; omega) (fun k hk => by have := (HW.out.opn.lt k hk).1; have := HW.out.dB; omega)
          clear hS1 hg1 hf1
          have d3 := HW1.out.c3
          go_wp2_with (at_builtin; refine appC w1 _ _ rfl _ _ rfl w.heap.size cs.length _ ao ca rfl HW1.out.cnt _ rfl rfl (by omega) HW1.out.Bw ?_)
          intro k2 c2 w2 hS2 hg2 hf2
          have m2 := (HW1.out.alloc (.cells #[.int .i64 (oa : Int), .int .i64 1] 49)).mid hg2
          have HWW : Hid (WkAt (w2.setCell ⟨db, 3, none⟩ (.slice (some ⟨k2, 0, none⟩) (cs.length + 1) c2)) db g cap w.heap.size S pos esc sca ((cs.length : Int) :: st) (kept true (cs ++ [(oa, 1)])) k1 c1 (.slice (some ⟨k2, 0, none⟩) (cs.length + 1) c2)) := (HW1.out.alloc (.cells #[.int .i64 (oa : Int), .int .i64 1] 49)).grow (a := oa) (n := 1) hS2 hg2 (by simpa using hf2)
          have HBW : Hid (Below db w (w2.setCell ⟨db, 3, none⟩ (.slice (some ⟨k2, 0, none⟩) (cs.length + 1) c2))) := ((HB1.out.alloc (by have := HW1.out.dw; omega) _).grown hg2 (by have := HW1.out.dw; simp; omega) (fun k hk => by have := (HW1.out.cnt.lt k hk).1; have := HW1.out.dB; omega)).setCell (p := ⟨db, 3, none⟩) (Nat.le_refl _) _
          have d4 : w2.cell? ⟨db, 3, none⟩ = some (.slice ao cs.length ca) := by rw [cell_of_row _ _ _ _ _ _ m2]; rfl
          have g4 : w2.frozen? ⟨db, 3, none⟩ = false := frozen_of_row _ _ _ _ _ m2
          have HR : Hid (RowOf (w2.setCell ⟨db, 3, none⟩ (.slice (some ⟨k2, 0, none⟩) (cs.length + 1) c2)) g S) := HWW.out.row
          clear m2 hS2 hg2 hf2 d3
          go_wp2
          go_loop [13] (fun v => ∃ j : Nat, v = .int .i64 (j : Int) ∧ i + 1 ≤ j ∧ j ≤ S.length + 1 ∧ sEnd S (i + 1) = sEnd S j) (fun v => S.length + 5 - (intOf v).toNat)
          case atStart => exact ⟨i + 1, by go_num, by omega, by omega, rfl⟩
          case round =>
            obtain ⟨j, rfl, hj1, hj2, hse⟩ := hrel
            have HS : Hid (sEnd S (i + 1) = sEnd S j) := hse
            clear hse
            by_cases hjl : j < S.length
            · have hcj := HR.out j hjl
              have hjb : (j : Int) < (S.length : Int) := by omega
              by_cases hq : ch S j = 34
              · have HJ : Hid (sEnd S (i + 1) = j) := HS.out.trans (sEnd_quote hjl hq)
                have hq' : (((ch S j : Nat) : Int) != 34) = false := by simp; omega
                rw [hq] at hcj
                clear hq hq'
                go_wp2
                go_roundw
                case rel => exact wrel (j + 1) false oa ((cs.length : Int) :: st) (cs ++ [(oa, 1)]) k1 c1 (.slice (some ⟨k2, 0, none⟩) (cs.length + 1) c2) (by go_num) (by simp) rfl rfl (by first | rfl | go_num) (by have := HN.out; rw [HJ.out] at this; exact this) (by simp; omega) (by simp; omega) (fun x hx => snoc_le H3.out x hx (by omega)) HBW.out HWW.out
                case measure => simp [intOf]; omega
              · have hq' : (((ch S j : Nat) : Int) != 34) = true := by simp; omega
                by_cases hbs : ch S j = 92
                · have HJ : Hid (sEnd S (i + 1) = sEnd S (j + 2)) := HS.out.trans (sEnd_back hjl hbs)
                  rw [hbs] at hcj
                  clear hq hq' hbs
                  go_wp2
                  go_round
                  case rel => exact ⟨j + 2, by go_num, by omega, by omega, HJ.out⟩
                  case measure => simp [intOf]; omega
                · have HJ : Hid (sEnd S (i + 1) = sEnd S (j + 1)) := HS.out.trans (sEnd_plain hjl hq hbs)
                  have hbs' : (((ch S j : Nat) : Int) == 92) = false := by simp; omega
                  generalize ch S j = d at *
                  clear hq hbs
                  go_wp2
                  go_round
                  case rel => exact ⟨j + 1, by go_num, by omega, by omega, HJ.out⟩
                  case measure => simp [intOf]; omega
            · have hjb : ¬ (j : Int) < (S.length : Int) := by omega
              have HJ : Hid (sEnd S (i + 1) = j) := HS.out.trans (sEnd_out (by omega))
              exfalso
              have := HN.out.lt
              rw [HJ.out] at this
              omega
        by_cases h91 : ch S i = 91
        · have HN : Hid (Ends S ⟨i + 1, true, i + 1, ((cs.length : Int) :: st), (cs ++ [(oa, 1)])⟩ r) := act91 HA.out h91
          rw [h91] at hcq
          clear h34 h91 k32 k9 k10 k13 k93 h93
          go_wp2_with (at_builtin; refine appI wr _ rfl _ _ rfl w.heap.size st.length _ _ co rfl HW.out.opn _ rfl rfl (by omega) HW.out.Bw ?_)
          intro k1 c1 w1 hS1 hg1 hf1
          have HW1 : Hid (WkAt w1 db g cap w.heap.size S pos esc sca ((cs.length : Int) :: st) cs k1 c1 (.slice ao cs.length ca)) := (HW.out.alloc (.cells #[.int .i64 (cs.length : Int)] 3)).push hS1 hg1 (by simpa [Value.ownBlock] using hf1)
          have HB1 : Hid (Below db w w1) := (HB.out.alloc (by have := HW.out.dw; omega) _).grown hg1 (by have := HW.out.dw; simp; omega) (fun k hk => by have := (HW.out.opn.lt k hk).1; have := HW.out.dB; omega)
          clear hS1 hg1 hf1
          have d3 := HW1.out.c3
          go_wp2_with (at_builtin; refine appC w1 _ _ rfl _ _ rfl w.heap.size cs.length _ ao ca rfl HW1.out.cnt _ rfl rfl (by omega) HW1.out.Bw ?_)
          intro k2 c2 w2 hS2 hg2 hf2
          have m2 := (HW1.out.alloc (.cells #[.int .i64 (oa : Int), .int .i64 1] 49)).mid hg2
          have HWW : Hid (WkAt (w2.setCell ⟨db, 3, none⟩ (.slice (some ⟨k2, 0, none⟩) (cs.length + 1) c2)) db g cap w.heap.size S pos esc sca ((cs.length : Int) :: st) (kept true (cs ++ [(oa, 1)])) k1 c1 (.slice (some ⟨k2, 0, none⟩) (cs.length + 1) c2)) := (HW1.out.alloc (.cells #[.int .i64 (oa : Int), .int .i64 1] 49)).grow (a := oa) (n := 1) hS2 hg2 (by simpa using hf2)
          have HBW : Hid (Below db w (w2.setCell ⟨db, 3, none⟩ (.slice (some ⟨k2, 0, none⟩) (cs.length + 1) c2))) := ((HB1.out.alloc (by have := HW1.out.dw; omega) _).grown hg2 (by have := HW1.out.dw; simp; omega) (fun k hk => by have := (HW1.out.cnt.lt k hk).1; have := HW1.out.dB; omega)).setCell (p := ⟨db, 3, none⟩) (Nat.le_refl _) _
          have d4 : w2.cell? ⟨db, 3, none⟩ = some (.slice ao cs.length ca) := by rw [cell_of_row _ _ _ _ _ _ m2]; rfl
          have g4 : w2.frozen? ⟨db, 3, none⟩ = false := frozen_of_row _ _ _ _ _ m2
          have HR : Hid (RowOf (w2.setCell ⟨db, 3, none⟩ (.slice (some ⟨k2, 0, none⟩) (cs.length + 1) c2)) g S) := HWW.out.row
          clear m2 hS2 hg2 hf2 d3
          go_wp2
          go_roundw
          case rel => exact wrel (i + 1) true (i + 1) ((cs.length : Int) :: st) (cs ++ [(oa, 1)]) k1 c1 (.slice (some ⟨k2, 0, none⟩) (cs.length + 1) c2) (by go_num) (by simp) rfl rfl (by first | rfl | go_num) HN.out (by simp; omega) (by simp; omega) (fun x hx => snoc_le H3.out x hx (by omega)) HBW.out HWW.out
          case measure => simp [intOf]; omega
        by_cases h123 : ch S i = 123
        · have HN : Hid (Ends S ⟨i + 1, false, oa, -1 :: ((cs.length : Int) :: st), (cs ++ [(oa, 1)])⟩ r) := act123 HA.out h123
          rw [h123] at hcq
          clear h34 h91 h123 k32 k9 k10 k13 k93 h93
          go_wp2_with (at_builtin; refine appI wr _ rfl _ _ rfl w.heap.size st.length _ _ co rfl HW.out.opn _ rfl rfl (by omega) HW.out.Bw ?_)
          intro k1 c1 w1 hS1 hg1 hf1
          have HW1 : Hid (WkAt w1 db g cap w.heap.size S pos esc sca ((cs.length : Int) :: st) cs k1 c1 (.slice ao cs.length ca)) := (HW.out.alloc (.cells #[.int .i64 (cs.length : Int)] 3)).push hS1 hg1 (by simpa [Value.ownBlock] using hf1)
          have HB1 : Hid (Below db w w1) := (HB.out.alloc (by have := HW.out.dw; omega) _).grown hg1 (by have := HW.out.dw; simp; omega) (fun k hk => by have := (HW.out.opn.lt k hk).1; have := HW.out.dB; omega)
          clear hS1 hg1 hf1
          have d3 := HW1.out.c3
          go_wp2_with (at_builtin; refine appC w1 _ _ rfl _ _ rfl w.heap.size cs.length _ ao ca rfl HW1.out.cnt _ rfl rfl (by omega) HW1.out.Bw ?_)
          intro k2 c2 w2 hS2 hg2 hf2
          have m2 := (HW1.out.alloc (.cells #[.int .i64 (oa : Int), .int .i64 1] 49)).mid hg2
          have HWW : Hid (WkAt (w2.setCell ⟨db, 3, none⟩ (.slice (some ⟨k2, 0, none⟩) (cs.length + 1) c2)) db g cap w.heap.size S pos esc sca ((cs.length : Int) :: st) (kept true (cs ++ [(oa, 1)])) k1 c1 (.slice (some ⟨k2, 0, none⟩) (cs.length + 1) c2)) := (HW1.out.alloc (.cells #[.int .i64 (oa : Int), .int .i64 1] 49)).grow (a := oa) (n := 1) hS2 hg2 (by simpa using hf2)
          have HBW : Hid (Below db w (w2.setCell ⟨db, 3, none⟩ (.slice (some ⟨k2, 0, none⟩) (cs.length + 1) c2))) := ((HB1.out.alloc (by have := HW1.out.dw; omega) _).grown hg2 (by have := HW1.out.dw; simp; omega) (fun k hk => by have := (HW1.out.cnt.lt k hk).1; have := HW1.out.dB; omega)).setCell (p := ⟨db, 3, none⟩) (Nat.le_refl _) _
          have d4 : w2.cell? ⟨db, 3, none⟩ = some (.slice ao cs.length ca) := by rw [cell_of_row _ _ _ _ _ _ m2]; rfl
          have g4 : w2.frozen? ⟨db, 3, none⟩ = false := frozen_of_row _ _ _ _ _ m2
          have HR : Hid (RowOf (w2.setCell ⟨db, 3, none⟩ (.slice (some ⟨k2, 0, none⟩) (cs.length + 1) c2)) g S) := HWW.out.row
          clear m2 hS2 hg2 hf2 d3
          go_wp2_with (at_builtin; refine appI (w2.setCell ⟨db, 3, none⟩ (.slice (some ⟨k2, 0, none⟩) (cs.length + 1) c2)) _ rfl _ _ rfl w.heap.size (st.length + 1) _ _ c1 rfl HWW.out.opn _ rfl (by simp) (by omega) HWW.out.Bw ?_)
          intro k3 c3 w3 hS3 hg3 hf3
          have HW3 : Hid (WkAt w3 db g cap w.heap.size S pos esc sca (-1 :: ((cs.length : Int) :: st)) (kept true (cs ++ [(oa, 1)])) k3 c3 (.slice (some ⟨k2, 0, none⟩) (cs.length + 1) c2)) := (HWW.out.alloc (.cells #[.int .i64 (-1)] 3)).push hS3 hg3 (by simpa [Value.ownBlock] using hf3)
          have HB3 : Hid (Below db w w3) := (HBW.out.alloc (by have := HWW.out.dw; omega) _).grown hg3 (by have := HWW.out.dw; simp at this ⊢; omega) (fun k hk => by have := (HWW.out.opn.lt k hk).1; have := HWW.out.dB; omega)
          clear hS3 hg3 hf3
          go_wp2
          go_roundw
          case rel => exact wrel (i + 1) false oa (-1 :: ((cs.length : Int) :: st)) (cs ++ [(oa, 1)]) k3 c3 (.slice (some ⟨k2, 0, none⟩) (cs.length + 1) c2) (by go_num) (by simp) rfl rfl (by first | rfl | go_num) HN.out (by simp; omega) (by simp; omega) (fun x hx => snoc_le H3.out x hx (by omega)) HB3.out HW3.out
          case measure => simp [intOf]; omega
        by_cases h44 : ch S i = 44
        · obtain ⟨t, st', hst, hcase⟩ := act44 HA.out h44
          cases hst
          have hn0 : Ends S ⟨i + 1, false, oa, (cs.length : Int) :: st, bump (cs ++ [(oa, 1)]) cs.length⟩ r := by
            rcases hcase with ⟨_, _, h⟩ | ⟨h, _⟩
            · simpa using h
            · omega
          have HN : Hid (Ends S ⟨i + 1, false, oa, (cs.length : Int) :: st, bump (cs ++ [(oa, 1)]) cs.length⟩ r) := hn0
          clear hcase hn0
          rw [h44] at hcq
          clear h34 h91 h123 h44 k32 k9 k10 k13 k93 h93
          go_wp2_with (at_builtin; refine appI wr _ rfl _ _ rfl w.heap.size st.length _ _ co rfl HW.out.opn _ rfl rfl (by omega) HW.out.Bw ?_)
          intro k1 c1 w1 hS1 hg1 hf1
          have HW1 : Hid (WkAt w1 db g cap w.heap.size S pos esc sca ((cs.length : Int) :: st) cs k1 c1 (.slice ao cs.length ca)) := (HW.out.alloc (.cells #[.int .i64 (cs.length : Int)] 3)).push hS1 hg1 (by simpa [Value.ownBlock] using hf1)
          have HB1 : Hid (Below db w w1) := (HB.out.alloc (by have := HW.out.dw; omega) _).grown hg1 (by have := HW.out.dw; simp; omega) (fun k hk => by have := (HW.out.opn.lt k hk).1; have := HW.out.dB; omega)
          clear hS1 hg1 hf1
          have d3 := HW1.out.c3
          go_wp2_with (at_builtin; refine appC w1 _ _ rfl _ _ rfl w.heap.size cs.length _ ao ca rfl HW1.out.cnt _ rfl rfl (by omega) HW1.out.Bw ?_)
          intro k2 c2 w2 hS2 hg2 hf2
          have m2 := (HW1.out.alloc (.cells #[.int .i64 (oa : Int), .int .i64 1] 49)).mid hg2
          have HWW : Hid (WkAt (w2.setCell ⟨db, 3, none⟩ (.slice (some ⟨k2, 0, none⟩) (cs.length + 1) c2)) db g cap w.heap.size S pos esc sca ((cs.length : Int) :: st) (kept true (cs ++ [(oa, 1)])) k1 c1 (.slice (some ⟨k2, 0, none⟩) (cs.length + 1) c2)) := (HW1.out.alloc (.cells #[.int .i64 (oa : Int), .int .i64 1] 49)).grow (a := oa) (n := 1) hS2 hg2 (by simpa using hf2)
          have HBW : Hid (Below db w (w2.setCell ⟨db, 3, none⟩ (.slice (some ⟨k2, 0, none⟩) (cs.length + 1) c2))) := ((HB1.out.alloc (by have := HW1.out.dw; omega) _).grown hg2 (by have := HW1.out.dw; simp; omega) (fun k hk => by have := (HW1.out.cnt.lt k hk).1; have := HW1.out.dB; omega)).setCell (p := ⟨db, 3, none⟩) (Nat.le_refl _) _
          have d4 : w2.cell? ⟨db, 3, none⟩ = some (.slice ao cs.length ca) := by rw [cell_of_row _ _ _ _ _ _ m2]; rfl
          have g4 : w2.frozen? ⟨db, 3, none⟩ = false := frozen_of_row _ _ _ _ _ m2
          have HR : Hid (RowOf (w2.setCell ⟨db, 3, none⟩ (.slice (some ⟨k2, 0, none⟩) (cs.length + 1) c2)) g S) := HWW.out.row
          clear m2 hS2 hg2 hf2 d3
          have ctop : (w2.setCell ⟨db, 3, none⟩ (.slice (some ⟨k2, 0, none⟩) (cs.length + 1) c2)).cell? ⟨k1, st.length, none⟩ = some (.int .i64 (cs.length : Int)) := by
            obtain ⟨_, _, hv, _, _, _, _, hc⟩ := HWW.out.opn.at_ (by simp)
            cases hv
            exact hc _ _ (stk_top _ _)
          have hlb : (st.length : Int) < (st.length : Int) + 1 := by omega
          have hcnt : SRow (w2.setCell ⟨db, 3, none⟩ (.slice (some ⟨k2, 0, none⟩) (cs.length + 1) c2)) w.heap.size 2 (.slice (some ⟨k2, 0, none⟩) (cs.length + 1) c2) (cs.length + 1) (pairs (cs ++ [(oa, 1)])) := by
            have h1 := HWW.out.cnt
            rw [show (kept true (cs ++ [(oa, 1)])).length = cs.length + 1 from len_snoc cs oa] at h1
            exact h1
          obtain ⟨_, _, hv, _, _, hnc, hth, hcs2⟩ := hcnt.at_ (by omega)
          cases hv
          have hpa := (pairs_at (cs ++ [(oa, 1)]) cs.length (by simp)).2
          rw [getD_snoc cs oa] at hpa
          have cn : (w2.setCell ⟨db, 3, none⟩ (.slice (some ⟨k2, 0, none⟩) (cs.length + 1) c2)).cell? ⟨k2, cs.length * 2 + 1, none⟩ = some (.int .i64 1) := hcs2 _ _ hpa
          have fn : (w2.setCell ⟨db, 3, none⟩ (.slice (some ⟨k2, 0, none⟩) (cs.length + 1) c2)).frozen? ⟨k2, cs.length * 2 + 1, none⟩ = false := (hth _ (by omega)).2
          have hgcd : db ≤ k2 := by have := (HWW.out.cnt.lt k2 rfl).1; have := HWW.out.dB; omega
          have HW2 : Hid (WkAt ((w2.setCell ⟨db, 3, none⟩ (.slice (some ⟨k2, 0, none⟩) (cs.length + 1) c2)).setCell ⟨k2, cs.length * 2 + 1, none⟩ (.int .i64 2)) db g cap w.heap.size S pos esc sca ((cs.length : Int) :: st) (kept true (bump (cs ++ [(oa, 1)]) cs.length)) k1 c1 (.slice (some ⟨k2, 0, none⟩) (cs.length + 1) c2)) := by
            have h8 := WkAt.raise (j := cs.length) (D := (cs ++ [(oa, 1)])) (c := c2) (k := k2) (by have := HWW.out; rw [len_snoc cs oa]; exact this) (by simp)
            rw [getD_snoc cs oa, len_snoc cs oa] at h8
            exact h8
          have HB2 : Hid (Below db w ((w2.setCell ⟨db, 3, none⟩ (.slice (some ⟨k2, 0, none⟩) (cs.length + 1) c2)).setCell ⟨k2, cs.length * 2 + 1, none⟩ (.int .i64 2))) := HBW.out.setCell (p := ⟨k2, cs.length * 2 + 1, none⟩) hgcd _
          have htb : (cs.length : Int) < (cs.length : Int) + 1 := by omega
          have c3 := HWW.out.c3
          clear hcs2 hth hpa hnc hcnt
          go_wp2
          go_roundw
          case rel => exact wrel (i + 1) false oa ((cs.length : Int) :: st) (bump (cs ++ [(oa, 1)]) cs.length) k1 c1 (.slice (some ⟨k2, 0, none⟩) (cs.length + 1) c2) (by go_num) (by rw [bump_length]; simp) rfl rfl (by first | rfl | go_num) HN.out (by rw [bump_length]; simp; omega) (by simp; omega) (bump_le (fun x hx => snoc_le H3.out x hx (by omega))) HB2.out HW2.out
          case measure => simp [intOf]; omega
        by_cases h125 : ch S i = 125
        · obtain ⟨t, st', hst, hcase⟩ := act93 HA.out (by omega)
          cases hst
          have HCS : Hid ((st = [] ∧ r = (i + 1, (cs ++ [(oa, 1)]))) ∨ (st ≠ [] ∧ Ends S ⟨i + 1, false, oa, st, (cs ++ [(oa, 1)])⟩ r)) := hcase
          clear hcase
          rw [h125] at hcq
          clear h34 h91 h123 h44  h125 k32 k9 k10 k13 k93 h93
          go_wp2_with (at_builtin; refine appI wr _ rfl _ _ rfl w.heap.size st.length _ _ co rfl HW.out.opn _ rfl rfl (by omega) HW.out.Bw ?_)
          intro k1 c1 w1 hS1 hg1 hf1
          have HW1 : Hid (WkAt w1 db g cap w.heap.size S pos esc sca ((cs.length : Int) :: st) cs k1 c1 (.slice ao cs.length ca)) := (HW.out.alloc (.cells #[.int .i64 (cs.length : Int)] 3)).push hS1 hg1 (by simpa [Value.ownBlock] using hf1)
          have HB1 : Hid (Below db w w1) := (HB.out.alloc (by have := HW.out.dw; omega) _).grown hg1 (by have := HW.out.dw; simp; omega) (fun k hk => by have := (HW.out.opn.lt k hk).1; have := HW.out.dB; omega)
          clear hS1 hg1 hf1
          have d3 := HW1.out.c3
          go_wp2_with (at_builtin; refine appC w1 _ _ rfl _ _ rfl w.heap.size cs.length _ ao ca rfl HW1.out.cnt _ rfl rfl (by omega) HW1.out.Bw ?_)
          intro k2 c2 w2 hS2 hg2 hf2
          have m2 := (HW1.out.alloc (.cells #[.int .i64 (oa : Int), .int .i64 1] 49)).mid hg2
          have HWW : Hid (WkAt (w2.setCell ⟨db, 3, none⟩ (.slice (some ⟨k2, 0, none⟩) (cs.length + 1) c2)) db g cap w.heap.size S pos esc sca ((cs.length : Int) :: st) (kept true (cs ++ [(oa, 1)])) k1 c1 (.slice (some ⟨k2, 0, none⟩) (cs.length + 1) c2)) := (HW1.out.alloc (.cells #[.int .i64 (oa : Int), .int .i64 1] 49)).grow (a := oa) (n := 1) hS2 hg2 (by simpa using hf2)
          have HBW : Hid (Below db w (w2.setCell ⟨db, 3, none⟩ (.slice (some ⟨k2, 0, none⟩) (cs.length + 1) c2))) := ((HB1.out.alloc (by have := HW1.out.dw; omega) _).grown hg2 (by have := HW1.out.dw; simp; omega) (fun k hk => by have := (HW1.out.cnt.lt k hk).1; have := HW1.out.dB; omega)).setCell (p := ⟨db, 3, none⟩) (Nat.le_refl _) _
          have d4 : w2.cell? ⟨db, 3, none⟩ = some (.slice ao cs.length ca) := by rw [cell_of_row _ _ _ _ _ _ m2]; rfl
          have g4 : w2.frozen? ⟨db, 3, none⟩ = false := frozen_of_row _ _ _ _ _ m2
          have HR : Hid (RowOf (w2.setCell ⟨db, 3, none⟩ (.slice (some ⟨k2, 0, none⟩) (cs.length + 1) c2)) g S) := HWW.out.row
          clear m2 hS2 hg2 hf2 d3
          have hco : st.length + 1 ≤ c1 := by
            obtain ⟨_, _, hv, _, _, hn, _, _⟩ := HWW.out.opn.at_ (by simp)
            cases hv
            simpa using hn
          have hcob : (st.length : Int) ≤ (c1 : Int) := by omega
          have HWP : Hid (WkAt (w2.setCell ⟨db, 3, none⟩ (.slice (some ⟨k2, 0, none⟩) (cs.length + 1) c2)) db g cap w.heap.size S pos esc sca st (kept true (cs ++ [(oa, 1)])) k1 c1 (.slice (some ⟨k2, 0, none⟩) (cs.length + 1) c2)) := HWW.out.pop
          rcases HCS.out with ⟨he2, hr⟩ | ⟨he2, hE2⟩
          · have hl0 : ((st.length : Int) == 0) = true := by rw [he2]; rfl
            have HRR : Hid (r = (i + 1, (cs ++ [(oa, 1)]))) := hr
            clear he2 hr HCS
            go_wp2
            go_ret2
            refine ⟨by rw [HRR.out]; first | done | (simp; done) | go_num, HBW.out, _, _, _, _, by rw [HRR.out]; exact HWP.out⟩
          · have hl0 : ((st.length : Int) == 0) = false := by
              have : st.length ≠ 0 := fun e => he2 (List.eq_nil_of_length_eq_zero e)
              simp; omega
            have HN : Hid (Ends S ⟨i + 1, false, oa, st, (cs ++ [(oa, 1)])⟩ r) := hE2
            clear he2 hE2 HCS
            go_wp2
            go_roundw
            case rel => exact wrel (i + 1) false oa st (cs ++ [(oa, 1)]) k1 c1 (.slice (some ⟨k2, 0, none⟩) (cs.length + 1) c2) (by go_num) (by simp) rfl rfl (by first | rfl | go_num) HN.out (by simp; omega) (by omega) (fun x hx => snoc_le H3.out x hx (by omega)) HBW.out HWP.out
            case measure => simp [intOf]; omega
        have HN : Hid (Ends S ⟨i + 1, false, oa, ((cs.length : Int) :: st), (cs ++ [(oa, 1)])⟩ r) := actElse HA.out h34 h91 h123 h44 h93 h125
        have e34 : (((ch S i : Nat) : Int) == 34) = false := by simp; omega
        have e91 : (((ch S i : Nat) : Int) == 91) = false := by simp; omega
        have e123 : (((ch S i : Nat) : Int) == 123) = false := by simp; omega
        have e44 : (((ch S i : Nat) : Int) == 44) = false := by simp; omega
        have e93 : (((ch S i : Nat) : Int) == 93) = false := by simp; omega
        have e125 : (((ch S i : Nat) : Int) == 125) = false := by simp; omega
        generalize ch S i = c at *
        clear h34 h91 h123 h44 h125
        go_wp2_with (at_builtin; refine appI wr _ rfl _ _ rfl w.heap.size st.length _ _ co rfl HW.out.opn _ rfl rfl (by omega) HW.out.Bw ?_)
        intro k1 c1 w1 hS1 hg1 hf1
        have HW1 : Hid (WkAt w1 db g cap w.heap.size S pos esc sca ((cs.length : Int) :: st) cs k1 c1 (.slice ao cs.length ca)) := (HW.out.alloc (.cells #[.int .i64 (cs.length : Int)] 3)).push hS1 hg1 (by simpa [Value.ownBlock] using hf1)
        have HB1 : Hid (Below db w w1) := (HB.out.alloc (by have := HW.out.dw; omega) _).grown hg1 (by have := HW.out.dw; simp; omega) (fun k hk => by have := (HW.out.opn.lt k hk).1; have := HW.out.dB; omega)
        clear hS1 hg1 hf1
        have d3 := HW1.out.c3
        go_wp2_with (at_builtin; refine appC w1 _ _ rfl _ _ rfl w.heap.size cs.length _ ao ca rfl HW1.out.cnt _ rfl rfl (by omega) HW1.out.Bw ?_)
        intro k2 c2 w2 hS2 hg2 hf2
        have m2 := (HW1.out.alloc (.cells #[.int .i64 (oa : Int), .int .i64 1] 49)).mid hg2
        have HWW : Hid (WkAt (w2.setCell ⟨db, 3, none⟩ (.slice (some ⟨k2, 0, none⟩) (cs.length + 1) c2)) db g cap w.heap.size S pos esc sca ((cs.length : Int) :: st) (kept true (cs ++ [(oa, 1)])) k1 c1 (.slice (some ⟨k2, 0, none⟩) (cs.length + 1) c2)) := (HW1.out.alloc (.cells #[.int .i64 (oa : Int), .int .i64 1] 49)).grow (a := oa) (n := 1) hS2 hg2 (by simpa using hf2)
        have HBW : Hid (Below db w (w2.setCell ⟨db, 3, none⟩ (.slice (some ⟨k2, 0, none⟩) (cs.length + 1) c2))) := ((HB1.out.alloc (by have := HW1.out.dw; omega) _).grown hg2 (by have := HW1.out.dw; simp; omega) (fun k hk => by have := (HW1.out.cnt.lt k hk).1; have := HW1.out.dB; omega)).setCell (p := ⟨db, 3, none⟩) (Nat.le_refl _) _
        have d4 : w2.cell? ⟨db, 3, none⟩ = some (.slice ao cs.length ca) := by rw [cell_of_row _ _ _ _ _ _ m2]; rfl
        have g4 : w2.frozen? ⟨db, 3, none⟩ = false := frozen_of_row _ _ _ _ _ m2
        have HR : Hid (RowOf (w2.setCell ⟨db, 3, none⟩ (.slice (some ⟨k2, 0, none⟩) (cs.length + 1) c2)) g S) := HWW.out.row
        clear m2 hS2 hg2 hf2 d3
        go_wp2
        go_roundw
        case rel => exact wrel (i + 1) false oa ((cs.length : Int) :: st) (cs ++ [(oa, 1)]) k1 c1 (.slice (some ⟨k2, 0, none⟩) (cs.length + 1) c2) (by go_num) (by simp) rfl rfl (by first | rfl | go_num) HN.out (by simp; omega) (by simp; omega) (fun x hx => snoc_le H3.out x hx (by omega)) HBW.out HWW.out
        case measure => simp [intOf]; omega
end Go.Proofs.Qxb6605573a
