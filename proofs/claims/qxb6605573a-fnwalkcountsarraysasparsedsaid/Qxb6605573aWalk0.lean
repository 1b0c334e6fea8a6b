/-
  WHAT AN END SAYS OF THE NEXT BYTE; the relation of walk's loop.
-/
import Derived.Test.Qxb6605573aWk
namespace Go.Proofs.Qxb6605573a
open Go.RowKit

abbrev Res := Nat × List (Nat × Nat)

theorem Ends.inl {S : List UInt8} {m m' : MS} {r : Res} (h : Ends S m r) (hs : step S m = some (.inl m')) : Ends S m' r := by
  rcases h.next with ⟨m2, h2, h3⟩ | h2
  · rw [hs] at h2; cases h2; exact h3
  · rw [hs] at h2; cases h2
theorem Ends.inr {S : List UInt8} {m : MS} {r r' : Res} (h : Ends S m r) (hs : step S m = some (.inr r')) : r' = r := by
  rcases h.next with ⟨m2, h2, h3⟩ | h2
  · rw [hs] at h2; cases h2
  · rw [hs] at h2; cases h2; rfl
theorem Ends.lt {S : List UInt8} {i oa : Nat} {op : Bool} {st : List Int} {cs : List (Nat × Nat)} {r : Res} (h : Ends S ⟨i, op, oa, st, cs⟩ r) : i < S.length := by
  by_cases hi : i < S.length
  · exact hi
  · have hs : step S ⟨i, op, oa, st, cs⟩ = none := by simp [step, hi]
    rcases h.next with ⟨m2, h2, h3⟩ | h2
    · rw [hs] at h2; cases h2
    · rw [hs] at h2; cases h2

/-- What comes of a byte that is neither white space nor met by an opening. -/
def ActEnds (S : List UInt8) (i c oa : Nat) (st : List Int) (cs : List (Nat × Nat)) (r : Res) : Prop :=
  (∃ m', act S i c oa st cs = some (.inl m') ∧ Ends S m' r) ∨ act S i c oa st cs = some (.inr r)

theorem Ends.ws {S : List UInt8} {i oa : Nat} {op : Bool} {st : List Int} {cs : List (Nat × Nat)} {r : Res} (h : Ends S ⟨i, op, oa, st, cs⟩ r) (hw : isWs (ch S i) = true) : Ends S ⟨i + 1, op, oa, st, cs⟩ r := h.inl (step_ws h.lt hw)
theorem Ends.act {S : List UInt8} {i oa : Nat} {st : List Int} {cs : List (Nat × Nat)} {r : Res} (h : Ends S ⟨i, false, oa, st, cs⟩ r) (hw : isWs (ch S i) = false) : ActEnds S i (ch S i) oa st cs r := by
  have := h.next
  rw [step_act h.lt hw] at this
  exact this
theorem Ends.actO {S : List UInt8} {i oa : Nat} {st : List Int} {cs : List (Nat × Nat)} {r : Res} (h : Ends S ⟨i, true, oa, st, cs⟩ r) (hw : isWs (ch S i) = false) (hc : ch S i ≠ 93) : ActEnds S i (ch S i) oa ((cs.length : Int) :: st) (cs ++ [(oa, 1)]) r := by
  have := h.next
  rw [step_open h.lt hw hc] at this
  exact this
theorem Ends.closeO {S : List UInt8} {i oa : Nat} {st : List Int} {cs : List (Nat × Nat)} {r : Res} (h : Ends S ⟨i, true, oa, st, cs⟩ r) (hc : ch S i = 93) : (st = [] ∧ r = (i + 1, cs)) ∨ (st ≠ [] ∧ Ends S ⟨i + 1, false, oa, st, cs⟩ r) := by
  have hw : isWs (ch S i) = false := by rw [hc]; rfl
  cases st with
  | nil => exact .inl ⟨rfl, (h.inr (by simp [step, h.lt, hc]; rfl)).symm⟩
  | cons t st' => exact .inr ⟨by simp, h.inl (by simp [step, h.lt, hc]; rfl)⟩

section
variable {S : List UInt8} {i c oa : Nat} {st : List Int} {cs : List (Nat × Nat)} {r : Res}
theorem act_inl {m' : MS} (h : ActEnds S i c oa st cs r) (hs : act S i c oa st cs = some (.inl m')) : Ends S m' r := by
  rcases h with ⟨m2, h2, h3⟩ | h2
  · rw [hs] at h2; cases h2; exact h3
  · rw [hs] at h2; cases h2
theorem act34 (h : ActEnds S i c oa st cs r) (hc : c = 34) : Ends S ⟨sEnd S (i + 1) + 1, false, oa, st, cs⟩ r := act_inl h (by simp [act, hc])
theorem act91 (h : ActEnds S i c oa st cs r) (hc : c = 91) : Ends S ⟨i + 1, true, i + 1, st, cs⟩ r := act_inl h (by simp [act, hc])
theorem act123 (h : ActEnds S i c oa st cs r) (hc : c = 123) : Ends S ⟨i + 1, false, oa, -1 :: st, cs⟩ r := act_inl h (by simp [act, hc])
theorem act44 (h : ActEnds S i c oa st cs r) (hc : c = 44) : ∃ t st', st = t :: st' ∧ ((0 ≤ t ∧ t.toNat < cs.length ∧ Ends S ⟨i + 1, false, oa, st, bump cs t.toNat⟩ r) ∨ (t < 0 ∧ Ends S ⟨i + 1, false, oa, st, cs⟩ r)) := by
  cases st with
  | nil =>
    rcases h with ⟨m2, h2, h3⟩ | h2 <;> simp [act, hc] at h2
  | cons t st' =>
    refine ⟨t, st', rfl, ?_⟩
    by_cases ht : 0 ≤ t
    · by_cases hl : t.toNat < cs.length
      · exact .inl ⟨ht, hl, act_inl h (by simp [act, hc, ht, hl])⟩
      · rcases h with ⟨m2, h2, h3⟩ | h2 <;> simp [act, hc, ht, hl] at h2
    · exact .inr ⟨by omega, act_inl h (by simp [act, hc, ht])⟩
theorem act93 (h : ActEnds S i c oa st cs r) (hc : c = 93 ∨ c = 125) : ∃ t st', st = t :: st' ∧ ((st' = [] ∧ r = (i + 1, cs)) ∨ (st' ≠ [] ∧ Ends S ⟨i + 1, false, oa, st', cs⟩ r)) := by
  have h34 : c ≠ 34 := by omega
  have h91 : c ≠ 91 := by omega
  have h123 : c ≠ 123 := by omega
  have h44 : c ≠ 44 := by omega
  cases st with
  | nil => rcases h with ⟨m2, h2, h3⟩ | h2 <;> simp [act, h34, h91, h123, h44, hc] at h2
  | cons t st' =>
    refine ⟨t, st', rfl, ?_⟩
    cases st' with
    | nil =>
      refine .inl ⟨rfl, ?_⟩
      rcases h with ⟨m2, h2, h3⟩ | h2
      · simp [act, h34, h91, h123, h44, hc] at h2
      · simp [act, h34, h91, h123, h44, hc] at h2; exact h2.symm
    | cons t2 st2 => exact .inr ⟨by simp, act_inl h (by simp [act, h34, h91, h123, h44, hc])⟩
theorem actElse (h : ActEnds S i c oa st cs r) (h34 : c ≠ 34) (h91 : c ≠ 91) (h123 : c ≠ 123) (h44 : c ≠ 44) (h93 : c ≠ 93) (h125 : c ≠ 125) : Ends S ⟨i + 1, false, oa, st, cs⟩ r := act_inl h (by simp [act, h34, h91, h123, h44, h93, h125])
end

theorem sEnd_ge (S : List UInt8) : ∀ (n j : Nat), S.length ≤ j + n → j ≤ sEnd S j := by
  intro n
  induction n with
  | zero => intro j h; rw [sEnd_out (by omega)]; omega
  | succ n ih =>
    intro j h
    rw [sEnd_step]
    split
    · omega
    · split
      · omega
      · split
        · have := ih (j + 2) (by omega); omega
        · have := ih (j + 1) (by omega); omega

/-- The counts that are kept. -/
def kept (rec : Bool) (cs : List (Nat × Nat)) : List (Nat × Nat) := if rec then cs else []

/-- THE RELATION OF walk's LOOP. -/
def WRel (w : World) (db g cap B : Nat) (S : List UInt8) (pos : Int) (esc : Bool) (sca : Int) (rec : Bool) (r : Res) (arr opn op oa i : Value) (wr : World) : Prop :=
  ∃ (m : MS) (go co : Nat) (cv : Value), i = .int .i64 (m.i : Int) ∧ arr = .int .i64 (m.cs.length : Int) ∧ opn = .slice (some ⟨go, 0, none⟩) m.st.length co ∧ op = .bool m.op ∧ oa = .int .i64 (m.oa : Int) ∧
    Ends S m r ∧ m.cs.length ≤ m.i ∧ m.st.length ≤ 2 * m.i ∧ (∀ x ∈ m.cs, x.2 ≤ 2 * m.i) ∧ Below db w wr ∧ WkAt wr db g cap B S pos esc sca m.st (kept rec m.cs) go co cv
end Go.Proofs.Qxb6605573a
