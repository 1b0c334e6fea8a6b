/-
  THE SMALL FUNCTIONS: THE BOUNDS ON LENGTHS.
-/
import Derived.Test.Qxb6606378aRows
import Derived.Test.Qxb6606378aShelf
import Derived.ProofKit
import Derived.Below
import Derived.BigQuiet
namespace Go.Proofs.Qxb6606378a
open Go.RowKit

/-- A slice of strings, and the strings. -/
def SRow (w : World) (a : Option Addr) (ss : List ByteArray) : Prop :=
  ss.length ≤ 9223372036854775807 ∧ (∀ j, (ss.getD j ByteArray.empty).size ≤ 9223372036854775807) ∧ (a = none → ss = []) ∧
  (ss = [] ∨ ∃ b o, a = some ⟨b, o, none⟩ ∧ b < w.heap.size ∧ ∀ j, j < ss.length → w.cell? ⟨b, o + j, none⟩ = some (.string (ss.getD j ByteArray.empty)))

theorem SRow.below {w w' : World} {a : Option Addr} {ss : List ByteArray} (h : SRow w a ss) (hb : Below w.heap.size w w') : SRow w' a ss := by
  obtain ⟨h1, h2, h3, h0 | ⟨b, o, ha, hlt, hc⟩⟩ := h
  · exact ⟨h1, h2, h3, .inl h0⟩
  · exact ⟨h1, h2, h3, .inr ⟨b, o, ha, Nat.lt_of_lt_of_le hlt hb.size, fun j hj => (hb.cell (p := ⟨b, o + j, none⟩) hlt).trans (hc j hj)⟩⟩

theorem SRow.cell {w : World} {a : Option Addr} {ss : List ByteArray} (h : SRow w a ss) {j : Nat} (hj : j < ss.length) : ∃ b o, a = some ⟨b, o, none⟩ ∧ w.cell? ⟨b, o + j, none⟩ = some (.string (ss.getD j ByteArray.empty)) := by
  obtain ⟨_, _, _, h0 | ⟨b, o, ha, _, hc⟩⟩ := h
  · rw [h0] at hj; exact absurd hj (Nat.not_lt_zero _)
  · exact ⟨b, o, ha, hc j hj⟩

theorem spendText_any (s : ByteArray) (z : Int) (w : World) : Calls Try.prog 11 #[.string s, .int .i64 z] w fun e w' => (∃ z', e = .returned (.int .i64 z')) ∧ w = w' := by
  by_cases h : z < 0
  · go_enter Try.func11, Try.ntmps11
    go_wp2
    go_ret
    exact ⟨⟨_, rfl⟩, rfl⟩
  · go_enter Try.func11, Try.ntmps11
    go_wp2
    all_goals
      go_ret
      exact ⟨⟨_, rfl⟩, rfl⟩

theorem spend_any (a : Option Addr) (c : Nat) (ss : List ByteArray) (z : Int) (w : World) (hs : SRow w a ss) : Calls Try.prog 12 #[.slice a ss.length c, .int .i64 z] w fun e w' => (∃ z', e = .returned (.int .i64 z')) ∧ w = w' := by
  have HS : Hid (SRow w a ss) := hs
  have hl : ss.length ≤ 9223372036854775807 := hs.1
  clear hs
  by_cases h : z < 0
  · go_enter Try.func12, Try.ntmps12
    go_wp2
    go_ret
    exact ⟨⟨_, rfl⟩, rfl⟩
  · go_enter Try.func12, Try.ntmps12
    go_wp2
    · go_ret
      exact ⟨⟨_, rfl⟩, rfl⟩
    · go_loop [5, 1] (fun i z => ∃ (j : Nat) (z' : Int), i = .int .i64 (j : Int) ∧ j ≤ ss.length ∧ z = .int .i64 z') (fun i _ => ss.length + 1 - (intOf i).toNat)
      case atStart => exact ⟨0, _, rfl, Nat.zero_le _, rfl⟩
      case round =>
        obtain ⟨j, z', rfl, hj, rfl⟩ := hrel
        by_cases hjn : j < ss.length
        · obtain ⟨b, o, rfl, hc⟩ := HS.out.cell hjn
          have hjb : (j : Int) < (ss.length : Int) := by omega
          go_wp2
          · go_ret
            exact ⟨⟨_, rfl⟩, rfl⟩
          · go_round
            case rel => exact ⟨j + 1, _, by go_num, by omega, rfl⟩
            case measure => simp [intOf]; omega
        · have hjb : ¬ (j : Int) < (ss.length : Int) := by omega
          go_wp2
          go_ret
          exact ⟨⟨_, rfl⟩, rfl⟩

set_option maxHeartbeats 1600000 in
theorem bytes_any (key : ByteArray) (a1 a2 a3 : Option Addr) (c1 c2 c3 : Nat) (s1 s2 s3 : List ByteArray) (w : World) (h1 : SRow w a1 s1) (h2 : SRow w a2 s2) (h3 : SRow w a3 s3) :
    Calls Try.prog 10 #[.string key, .slice a1 s1.length c1, .slice a2 s2.length c2, .slice a3 s3.length c3] w fun e w' => (e = .returned (.bool false) ∨ (e = .returned (.bool true) ∧ s1.length ≤ 1048576 ∧ s2.length ≤ 1048576 ∧ s3.length ≤ 1048576)) ∧ w = w' := by
  have H1 : Hid (SRow w a1 s1) := h1
  have H2 : Hid (SRow w a2 s2) := h2
  have H3 : Hid (SRow w a3 s3) := h3
  have hl1 : s1.length ≤ 9223372036854775807 := h1.1
  have hl2 : s2.length ≤ 9223372036854775807 := h2.1
  have hl3 : s3.length ≤ 9223372036854775807 := h3.1
  clear h1 h2 h3
  go_enter Try.func10, Try.ntmps10
  go_wp2
  all_goals first | (go_ret; exact ⟨.inl rfl, rfl⟩) | skip
  go_loop [10, 9] (fun i z => ∃ (j : Nat) (z' : Int), i = .int .i64 (j : Int) ∧ j ≤ s1.length ∧ z = .int .i64 z') (fun i _ => s1.length + 1 - (intOf i).toNat)
  case atStart => exact ⟨0, _, rfl, Nat.zero_le _, rfl⟩
  case round =>
    obtain ⟨j, z', rfl, hj, rfl⟩ := hrel
    by_cases hjn : j < s1.length
    · obtain ⟨b, o, rfl, hc⟩ := H1.out.cell hjn
      have hjb : (j : Int) < (s1.length : Int) := by omega
      go_wp2
      all_goals first | (go_ret; exact ⟨.inl rfl, rfl⟩) | skip
      go_round
      case rel => exact ⟨j + 1, _, by go_num, by omega, rfl⟩
      case measure => simp [intOf]; omega
    · have hjb : ¬ (j : Int) < (s1.length : Int) := by omega
      clear hjn hj
      go_wp2
      all_goals first | (go_ret; exact ⟨.inl rfl, rfl⟩) | skip
      go_loop [11, 9] (fun i z => ∃ (j : Nat) (z' : Int), i = .int .i64 (j : Int) ∧ j ≤ s2.length ∧ z = .int .i64 z') (fun i _ => s2.length + 1 - (intOf i).toNat)
      case atStart => exact ⟨0, _, rfl, Nat.zero_le _, rfl⟩
      case round =>
        obtain ⟨k, z', rfl, hk, rfl⟩ := hrel
        by_cases hkn : k < s2.length
        · obtain ⟨b, o, rfl, hc⟩ := H2.out.cell hkn
          have hkb : (k : Int) < (s2.length : Int) := by omega
          go_wp2
          all_goals first | (go_ret; exact ⟨.inl rfl, rfl⟩) | skip
          go_round
          case rel => exact ⟨k + 1, _, by go_num, by omega, rfl⟩
          case measure => simp [intOf]; omega
        · have hkb : ¬ (k : Int) < (s2.length : Int) := by omega
          clear hkn hk
          go_wp2
          all_goals first | (go_ret; exact ⟨.inl rfl, rfl⟩) | skip
          go_loop [12, 9] (fun i z => ∃ (j : Nat) (z' : Int), i = .int .i64 (j : Int) ∧ j ≤ s3.length ∧ z = .int .i64 z') (fun i _ => s3.length + 1 - (intOf i).toNat)
          case atStart => exact ⟨0, _, rfl, Nat.zero_le _, rfl⟩
          case round =>
            obtain ⟨m, z', rfl, hm, rfl⟩ := hrel
            by_cases hmn : m < s3.length
            · obtain ⟨b, o, rfl, hc⟩ := H3.out.cell hmn
              have hmb : (m : Int) < (s3.length : Int) := by omega
              go_wp2
              all_goals first | (go_ret; exact ⟨.inl rfl, rfl⟩) | skip
              go_round
              case rel => exact ⟨m + 1, _, by go_num, by omega, rfl⟩
              case measure => simp [intOf]; omega
            · have hmb : ¬ (m : Int) < (s3.length : Int) := by omega
              clear hmn hm
              go_wp2
              all_goals
                go_ret
                exact ⟨.inr ⟨rfl, by omega, by omega, by omega⟩, rfl⟩

set_option maxHeartbeats 1600000 in
theorem bytesx_any (key extra : ByteArray) (a1 a2 a3 : Option Addr) (c1 c2 c3 : Nat) (s1 s2 s3 : List ByteArray) (w : World) (h1 : SRow w a1 s1) (h2 : SRow w a2 s2) (h3 : SRow w a3 s3) :
    Calls Try.prog 15 #[.string key, .slice a1 s1.length c1, .string extra, .slice a2 s2.length c2, .slice a3 s3.length c3] w fun e w' => (e = .returned (.bool false) ∨ (e = .returned (.bool true) ∧ s1.length ≤ 1048576 ∧ s2.length ≤ 1048576 ∧ s3.length ≤ 1048576)) ∧ w = w' := by
  have H1 : Hid (SRow w a1 s1) := h1
  have H2 : Hid (SRow w a2 s2) := h2
  have H3 : Hid (SRow w a3 s3) := h3
  have hl1 : s1.length ≤ 9223372036854775807 := h1.1
  have hl2 : s2.length ≤ 9223372036854775807 := h2.1
  have hl3 : s3.length ≤ 9223372036854775807 := h3.1
  clear h1 h2 h3
  go_enter Try.func15, Try.ntmps15
  go_wp2
  all_goals first | (go_ret; exact ⟨.inl rfl, rfl⟩) | skip
  go_loop [12, 11] (fun i z => ∃ (j : Nat) (z' : Int), i = .int .i64 (j : Int) ∧ j ≤ s1.length ∧ z = .int .i64 z') (fun i _ => s1.length + 1 - (intOf i).toNat)
  case atStart => exact ⟨0, _, rfl, Nat.zero_le _, rfl⟩
  case round =>
    obtain ⟨j, z', rfl, hj, rfl⟩ := hrel
    by_cases hjn : j < s1.length
    · obtain ⟨b, o, rfl, hc⟩ := H1.out.cell hjn
      have hjb : (j : Int) < (s1.length : Int) := by omega
      go_wp2
      all_goals first | (go_ret; exact ⟨.inl rfl, rfl⟩) | skip
      go_round
      case rel => exact ⟨j + 1, _, by go_num, by omega, rfl⟩
      case measure => simp [intOf]; omega
    · have hjb : ¬ (j : Int) < (s1.length : Int) := by omega
      clear hjn hj
      go_wp2
      all_goals first | (go_ret; exact ⟨.inl rfl, rfl⟩) | skip
      go_loop [13, 11] (fun i z => ∃ (j : Nat) (z' : Int), i = .int .i64 (j : Int) ∧ j ≤ s2.length ∧ z = .int .i64 z') (fun i _ => s2.length + 1 - (intOf i).toNat)
      case atStart => exact ⟨0, _, rfl, Nat.zero_le _, rfl⟩
      case round =>
        obtain ⟨k, z', rfl, hk, rfl⟩ := hrel
        by_cases hkn : k < s2.length
        · obtain ⟨b, o, rfl, hc⟩ := H2.out.cell hkn
          have hkb : (k : Int) < (s2.length : Int) := by omega
          go_wp2
          all_goals first | (go_ret; exact ⟨.inl rfl, rfl⟩) | skip
          go_round
          case rel => exact ⟨k + 1, _, by go_num, by omega, rfl⟩
          case measure => simp [intOf]; omega
        · have hkb : ¬ (k : Int) < (s2.length : Int) := by omega
          clear hkn hk
          go_wp2
          all_goals first | (go_ret; exact ⟨.inl rfl, rfl⟩) | skip
          go_loop [14, 11] (fun i z => ∃ (j : Nat) (z' : Int), i = .int .i64 (j : Int) ∧ j ≤ s3.length ∧ z = .int .i64 z') (fun i _ => s3.length + 1 - (intOf i).toNat)
          case atStart => exact ⟨0, _, rfl, Nat.zero_le _, rfl⟩
          case round =>
            obtain ⟨m, z', rfl, hm, rfl⟩ := hrel
            by_cases hmn : m < s3.length
            · obtain ⟨b, o, rfl, hc⟩ := H3.out.cell hmn
              have hmb : (m : Int) < (s3.length : Int) := by omega
              go_wp2
              all_goals first | (go_ret; exact ⟨.inl rfl, rfl⟩) | skip
              go_round
              case rel => exact ⟨m + 1, _, by go_num, by omega, rfl⟩
              case measure => simp [intOf]; omega
            · have hmb : ¬ (m : Int) < (s3.length : Int) := by omega
              clear hmn hm
              go_wp2
              all_goals
                go_ret
                exact ⟨.inr ⟨rfl, by omega, by omega, by omega⟩, rfl⟩
end Go.Proofs.Qxb6606378a
