/-
  THE SMALL FUNCTIONS ON THE INPUT: addLen, metaBytes, buildMap.
-/
import Derived.Test.Qxb6605507aDoorChecked
import Derived.WalkKit
import Derived.WalkSpells
import Derived.Below
import Derived.KernelRfl
import Derived.Maps.Own
import Derived.Deep.QuietTactic
import Derived.BigQuiet
namespace Go.Proofs.Qxb6605507aDoor
open Go.RowKit Go.Maps

/-- WHAT THE WALK IS TOLD OF A SLICE OF STRINGS: it is empty, or its elements' cells hold strings and lie in old blocks. -/
def StrRow (w : World) (B : Nat) (a : Option Addr) (len : Nat) : Prop :=
  len ≤ 9223372036854775807 ∧ (len = 0 ∨ ∃ b o, a = some ⟨b, o, none⟩ ∧ b < B ∧ ∀ i, i < len → ∃ s : ByteArray, s.size ≤ 9223372036854775807 ∧ w.cell? ⟨b, o + i, none⟩ = some (.string s))

theorem StrRow.on {w w' : World} {B : Nat} {a : Option Addr} {len : Nat} (h : StrRow w B a len) (hb : Below B w w') : StrRow w' B a len := by
  obtain ⟨hl, h0 | ⟨b, o, ha, hlt, hc⟩⟩ := h
  · exact ⟨hl, .inl h0⟩
  · exact ⟨hl, .inr ⟨b, o, ha, hlt, fun i hi => by obtain ⟨s, h1, h2⟩ := hc i hi; exact ⟨s, h1, (hb.cell (p := ⟨b, o + i, none⟩) hlt).trans h2⟩⟩⟩

theorem addLen_any (a n : Int) (w : World) : Calls Tryd.prog 25 #[.int .i64 a, .int .i64 n] w fun e w' => (∃ z, e = .returned (.int .i64 z)) ∧ w' = w := by
  by_cases h1 : 1048576 < a
  · go_enter Tryd.func25, Tryd.ntmps25
    go_wp2
    go_ret
    exact ⟨⟨_, rfl⟩, rfl⟩
  · by_cases h2 : 1048576 < n
    all_goals
      go_enter Tryd.func25, Tryd.ntmps25
      go_wp2
      go_ret
      exact ⟨⟨_, rfl⟩, rfl⟩

set_option maxHeartbeats 400000 in
theorem meta_any (acc : Int) (ka va : Option Addr) (kl kc vl vc : Nat) (nl : Bool) (w : World) (hk : StrRow w w.heap.size ka kl) (hv : StrRow w w.heap.size va vl) :
    Calls Tryd.prog 26 #[.int .i64 acc, .agg #[.slice ka kl kc, .slice va vl vc, .bool nl]] w fun e w' => (∃ z, e = .returned (.int .i64 z)) ∧ Below w.heap.size w w' := by
  obtain ⟨hk1, hk2⟩ := hk
  obtain ⟨hv1, hv2⟩ := hv
  have hB : Hid (Below w.heap.size w (w.alloc (.cells #[.slice ka kl kc, .slice va vl vc, .bool nl] 26))) := (Below.refl _ _).alloc (Nat.le_refl _) _
  go_enter Tryd.func26, Tryd.ntmps26
  go_wp2
  go_loop [0, 5] (fun a i => ∃ (z : Int) (j : Nat), a = .int .i64 z ∧ i = .int .i64 j ∧ j ≤ kl) (fun _ i => kl - (intOf i).toNat)
  case atStart => exact ⟨acc, 0, rfl, rfl, Nat.zero_le _⟩
  case round =>
    obtain ⟨z, j, rfl, rfl, hj⟩ := hrel
    by_cases hlt : j < kl
    · rcases hk2 with h0 | ⟨b, o, rfl, hb, hc⟩
      · omega
      obtain ⟨s, hs, hcs⟩ := hc j hlt
      have hcell : (w.alloc (.cells #[.slice (some ⟨b, o, none⟩) kl kc, .slice va vl vc, .bool nl] 26)).cell? ⟨b, o + j, none⟩ = some (.string s) := by
        rw [World.cell?_alloc_past _ _ _ hb]; exact hcs
      have hne : ¬ b = w.heap.size := by omega
      go_wp2_with (go_at_call 25; refine (addLen_any _ _ _).mono ?_; rintro e w' ⟨⟨z', rfl⟩, rfl⟩)
      go_round
      case rel => exact ⟨_, j + 1, rfl, by go_num, by omega⟩
      case measure => simp [intOf]; omega
    · go_wp2
      go_loop [0, 6] (fun a i => ∃ (z : Int) (j : Nat), a = .int .i64 z ∧ i = .int .i64 j ∧ j ≤ vl) (fun _ i => vl - (intOf i).toNat)
      case atStart => exact ⟨z, 0, rfl, rfl, Nat.zero_le _⟩
      case round =>
        clear hlt hj
        obtain ⟨z, j, rfl, rfl, hj⟩ := hrel
        by_cases hlt : j < vl
        · rcases hv2 with h0 | ⟨b, o, rfl, hb, hc⟩
          · omega
          obtain ⟨s, hs, hcs⟩ := hc j hlt
          have hcell : (w.alloc (.cells #[.slice ka kl kc, .slice (some ⟨b, o, none⟩) vl vc, .bool nl] 26)).cell? ⟨b, o + j, none⟩ = some (.string s) := by
            rw [World.cell?_alloc_past _ _ _ hb]; exact hcs
          have hne : ¬ b = w.heap.size := by omega
          go_wp2_with (go_at_call 25; refine (addLen_any _ _ _).mono ?_; rintro e w' ⟨⟨z', rfl⟩, rfl⟩)
          go_round
          case rel => exact ⟨_, j + 1, rfl, by go_num, by omega⟩
          case measure => simp [intOf]; omega
        · go_wp2
          go_ret
          exact ⟨⟨_, rfl⟩, hB.out⟩

theorem strKey : Keyed Tryd.prog 9 := string_keyed Tryd.underlying9

theorem run_makeMap_hint (n : Int) (w : World) : (Instr.makeMap 35 (some (.int .i64 n))).run Tryd.prog w = .ok (.map (some w.heap.size)) (w.alloc (.map #[] 0)) := by
  simp [Instr.makeMap, run_underlying Tryd.underlying35, asInt, asIntOf]

set_option maxHeartbeats 800000 in
theorem build_any (ka va : Option Addr) (kl kc vc : Nat) (nl : Bool) (w : World) (hk : StrRow w w.heap.size ka kl) (hv : StrRow w w.heap.size va kl) (hl : kl ≤ 4096) :
    Calls Tryd.prog 10 #[.agg #[.slice ka kl kc, .slice va kl vc, .bool nl]] w fun e w' => (∃ r, e = .returned (.map r)) ∧ Below w.heap.size w w' := by
  obtain ⟨hk1, hk2⟩ := hk
  obtain ⟨hv1, hv2⟩ := hv
  have hB : Hid (Below w.heap.size w (w.alloc (.cells #[.slice ka kl kc, .slice va kl vc, .bool nl] 26))) := (Below.refl _ _).alloc (Nat.le_refl _) _
  cases nl
  · have hmm : ∀ (n : Int) (w : World), (Instr.makeMap 35 (some (.int .i64 n))).run Tryd.prog w = .ok (.map (some w.heap.size)) (w.alloc (.map #[] 0)) := fun n w => run_makeMap_hint n w
    go_enter Tryd.func10, Tryd.ntmps10
    go_wp2
    have hown0 := (World.ownsMap_made (H := Unit) (w.alloc (.cells #[.slice ka kl kc, .slice va kl vc, .bool false] 26)) Tryd.prog 9 (plainElem Tryd.prog 9))
    simp only [World.size_alloc] at hown0
    have hB0 := (hB.out.alloc (by simp) (.map #[] 0))
    have HO : Hid (World.ownsMap ((w.alloc (.cells #[.slice ka kl kc, .slice va kl vc, .bool false] 26)).alloc (.map #[] 0)) Tryd.prog 9 (plainElem (H := Unit) Tryd.prog 9) (w.heap.size + 1) 0 (.map [])) := hown0
    clear hown0
    go_loopw [4] (fun i wr => ∃ (j : Nat) (D : DataW Unit), i = .int .i64 j ∧ j ≤ kl ∧ wr.ownsMap Tryd.prog 9 (plainElem Tryd.prog 9) (w.heap.size + 1) j D ∧ Below (w.heap.size + 1) (w.alloc (.cells #[.slice ka kl kc, .slice va kl vc, .bool false] 26)) wr) (fun i _ => kl - (intOf i).toNat)
    case atStart => exact ⟨0, .map [], rfl, Nat.zero_le _, HO.out, by simpa using (Below.refl (w.heap.size + 1) (w.alloc (.cells #[.slice ka kl kc, .slice va kl vc, .bool false] 26))).alloc (by simp) (.map #[] 0)⟩
    case round =>
      obtain ⟨j, D, rfl, hj, hown, hbel⟩ := hrel
      have c0 : wr.cell? ⟨w.heap.size, 0, none⟩ = some (.slice ka kl kc) := by rw [hbel.cell (p := ⟨w.heap.size, 0, none⟩) (by simp)]; simp
      have c1 : wr.cell? ⟨w.heap.size, 1, none⟩ = some (.slice va kl vc) := by rw [hbel.cell (p := ⟨w.heap.size, 1, none⟩) (by simp)]; simp
      by_cases hlt : j < kl
      · rcases hk2 with h0 | ⟨b, o, rfl, hb, hc⟩
        · omega
        rcases hv2 with h0 | ⟨b', o', rfl, hb', hc'⟩
        · omega
        obtain ⟨s, hs, hcs⟩ := hc j hlt
        obtain ⟨s', hs', hcs'⟩ := hc' j hlt
        have d0 : wr.cell? ⟨b, o + j, none⟩ = some (.string s) := by
          rw [hbel.cell (p := ⟨b, o + j, none⟩) (by simp; omega), World.cell?_alloc_past _ _ _ hb]; exact hcs
        have d1 : wr.cell? ⟨b', o' + j, none⟩ = some (.string s') := by
          rw [hbel.cell (p := ⟨b', o' + j, none⟩) (by simp; omega), World.cell?_alloc_past _ _ _ hb']; exact hcs'
        obtain ⟨w1, hrun, hown1, hgr1⟩ := hown.drew.update strKey Tryd.underlying35 (by unfold maxLen; omega) (WideMaps.keyOf_string_mk (s := s) Tryd.underlying9 (by unfold maxLen; omega)) (plainElem_string (s := s') Tryd.underlying9 (by unfold maxLen; omega))
        have hbel1 := hbel.drew.grown hgr1 (by have := hbel.size; simp at this; exact this) (fun k hk => by cases hk; exact Nat.le_refl _)
        have HO1 : Hid (w1.ownsMap Tryd.prog 9 (plainElem (H := Unit) Tryd.prog 9) (w.heap.size + 1) (j + 1) (D.put (.string s.data.toList) (.lit (.string s'.data.toList)))) := hown1
        have HB1 : Hid (Below (w.heap.size + 1) (w.alloc (.cells #[.slice (some ⟨b, o, none⟩) kl kc, .slice (some ⟨b', o', none⟩) kl vc, .bool false] 26)) w1) := hbel1
        have hb1 : (j : Int) < (kl : Int) := by omega
        clear hown1 hbel1 hgr1 hbel hown hcs hcs' hc hc' HO hB0
        go_wp2
        go_region
        all_goals
          go_wp2
          go_roundw
          case rel => exact ⟨j + 1, _, by go_num, by omega, HO1.out, HB1.out⟩
          case measure => simp [intOf]; omega
      · go_wp2
        go_ret
        exact ⟨⟨_, rfl⟩, hB.out.trans (hbel.mono (by omega))⟩
  · go_enter Tryd.func10, Tryd.ntmps10
    go_wp2
    go_ret
    exact ⟨⟨_, rfl⟩, hB.out⟩
end Go.Proofs.Qxb6605507aDoor
