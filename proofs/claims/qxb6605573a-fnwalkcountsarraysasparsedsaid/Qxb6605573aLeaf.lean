/-
  THE READER's LEAVES: white space, numbers, words, strings.
-/
import Derived.Test.Qxb6605573aChecked
import Derived.Test.Qxb6605573aPlain
import Derived.WalkKit
import Derived.WalkSpells
import Derived.Below
import Derived.KernelRfl
import Derived.Deep.QuietTactic
import Derived.BigQuiet
namespace Go.Proofs.Qxb6605573a
open Go.RowKit

/-- The cells from the head of block g on hold these bytes. -/
def RowOf (w : World) (g : Nat) (S : List UInt8) : Prop := ∀ j, j < S.length → w.cell? ⟨g, j, none⟩ = some (.int .u8 ((ch S j : Nat) : Int))
theorem ch_lt (S : List UInt8) (j : Nat) : ch S j < 256 := UInt8.toNat_lt _

theorem ret_bool {a b : Bool} (h : a = b) : Ending.returned (.bool a) = .returned (.bool b) := by rw [h]
theorem ret_int {k : IntKind} {a b : Int} (h : a = b) : Ending.returned (.int k a) = .returned (.int k b) := by rw [h]

set_option maxHeartbeats 400000 in
theorem isWs_any (c : Nat) (w : World) : Calls Try.prog 29 #[.int .u8 (c : Int)] w fun e w' => e = .returned (.bool (isWs c)) ∧ w' = w := by
  go_enter Try.func29, Try.ntmps29
  go_wp2
  · go_ret
    have h : (c : Int) = 32 := by assumption
    have h' : c = 32 := by omega
    exact ⟨ret_bool (by rw [h']; rfl), rfl⟩
  · go_ret
    have h : (c : Int) = 9 := by assumption
    have h' : c = 9 := by omega
    exact ⟨ret_bool (by rw [h']; rfl), rfl⟩
  · go_ret
    have h : (c : Int) = 10 := by assumption
    have h' : c = 10 := by omega
    exact ⟨ret_bool (by rw [h']; rfl), rfl⟩
  · go_ret
    refine ⟨ret_bool ?_, rfl⟩
    unfold isWs
    have e : ∀ n : Nat, ((c : Int) == (n : Int)) = (c == n) := fun n => by rw [Bool.eq_iff_iff]; simp; omega
    rw [show (32 : Int) = ((32 : Nat) : Int) from rfl, show (9 : Int) = ((9 : Nat) : Int) from rfl, show (10 : Int) = ((10 : Nat) : Int) from rfl, show (13 : Int) = ((13 : Nat) : Int) from rfl, e, e, e, e]

def numOk (z : Int) (c : Nat) : Prop := z = -1 ∨ (1 ≤ z ∧ z ≤ 8 ∧ plainB c = true)
theorem plain_of {c : Nat} (h : (c : Int) = 43 ∨ (c : Int) = 45 ∨ (c : Int) = 46 ∨ (48 ≤ (c : Int) ∧ (c : Int) ≤ 57) ∨ (c : Int) = 69 ∨ (c : Int) = 101) : plainB c = true := by
  simp [plainB, isWs]; omega
theorem num_of {z : Int} {c : Nat} (hz : 1 ≤ z ∧ z ≤ 8) (h : (c : Int) = 43 ∨ (c : Int) = 45 ∨ (c : Int) = 46 ∨ (48 ≤ (c : Int) ∧ (c : Int) ≤ 57) ∨ (c : Int) = 69 ∨ (c : Int) = 101) : numOk z c := .inr ⟨hz.1, hz.2, plain_of h⟩
theorem is_of {c : Nat} {n : Int} (h : ((c : Int) == n) = true) : (c : Int) = n := by simpa using h

theorem is_or {c : Nat} {m n : Int} (h : ((c : Int) == m) = true ∨ ((c : Int) == n) = true) : (c : Int) = m ∨ (c : Int) = n := by simpa using h

set_option maxHeartbeats 4000000 in
theorem numStep_any (s : Nat) (hs : s ≤ 8) (c : Nat) (w : World) : Calls Try.prog 25 #[.int .i64 (s : Int), .int .u8 (c : Int)] w fun e w' => (∃ z, e = .returned (.int .i64 z) ∧ numOk z c) ∧ w' = w := by
  rcases (show s = 0 ∨ s = 1 ∨ s = 2 ∨ s = 3 ∨ s = 4 ∨ s = 5 ∨ s = 6 ∨ s = 7 ∨ s = 8 by omega) with rfl | rfl | rfl | rfl | rfl | rfl | rfl | rfl | rfl
  all_goals
    go_enter Try.func25, Try.ntmps25
    go_wp2
    all_goals
      go_ret
      refine ⟨⟨_, rfl, ?_⟩, rfl⟩
      first
        | exact .inl rfl
        | (refine num_of (by decide) ?_; first | omega | (have h1 := is_of (n := 43) (by assumption); omega) | (have h1 := is_of (n := 45) (by assumption); omega) | (have h1 := is_of (n := 46) (by assumption); omega) | (have h1 := is_of (n := 48) (by assumption); omega) | (have h1 := is_of (n := 69) (by assumption); omega) | (have h1 := is_of (n := 101) (by assumption); omega) | (have h1 := is_or (m := 101) (n := 69) (by assumption); omega) | (have h1 := is_or (m := 43) (n := 45) (by assumption); omega))
end Go.Proofs.Qxb6605573a
