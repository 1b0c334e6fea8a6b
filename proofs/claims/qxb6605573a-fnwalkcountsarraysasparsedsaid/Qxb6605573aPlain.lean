/-
  THE PLAIN SIDE: the one-pass machine of 'walk', and what a recursive reader's pieces make it do. No Go in sight.
-/
import Derived.KernelRfl
namespace Go.Proofs.Qxb6605573a

/-- The byte at j. -/
def ch (S : List UInt8) (j : Nat) : Nat := (S.getD j 0).toNat
def isWs (c : Nat) : Bool := c == 32 || c == 9 || c == 10 || c == 13

/-- Where the string whose text begins at j has its closing quote (or the text's end). -/
def strE (S : List UInt8) : Nat → Nat → Nat
  | 0, j => j
  | f + 1, j => if S.length ≤ j then j else if ch S j = 34 then j else if ch S j = 92 then strE S f (j + 2) else strE S f (j + 1)

theorem strE_fuel (S : List UInt8) : ∀ (f g j : Nat), S.length ≤ j + f → S.length ≤ j + g → strE S f j = strE S g j := by
  intro f
  induction f with
  | zero =>
    intro g j h1 h2
    cases g with
    | zero => rfl
    | succ g => simp only [strE]; rw [if_pos (by omega)]
  | succ f ih =>
    intro g j h1 h2
    cases g with
    | zero => simp only [strE]; rw [if_pos (by omega)]
    | succ g =>
      simp only [strE]
      split
      · rfl
      · split
        · rfl
        · split
          · exact ih g (j + 2) (by omega) (by omega)
          · exact ih g (j + 1) (by omega) (by omega)

/-- The same with fuel enough. -/
def sEnd (S : List UInt8) (j : Nat) : Nat := strE S (S.length + 1) j

theorem sEnd_step (S : List UInt8) (j : Nat) : sEnd S j = if S.length ≤ j then j else if ch S j = 34 then j else if ch S j = 92 then sEnd S (j + 2) else sEnd S (j + 1) := by
  unfold sEnd
  conv => lhs; unfold strE
  split
  · rfl
  · split
    · rfl
    · split
      · exact strE_fuel S _ _ _ (by omega) (by omega)
      · exact strE_fuel S _ _ _ (by omega) (by omega)
theorem sEnd_quote {S : List UInt8} {j : Nat} (h : j < S.length) (hc : ch S j = 34) : sEnd S j = j := by
  rw [sEnd_step, if_neg (by omega), if_pos hc]
theorem sEnd_back {S : List UInt8} {j : Nat} (h : j < S.length) (hc : ch S j = 92) : sEnd S j = sEnd S (j + 2) := by
  rw [sEnd_step, if_neg (by omega), if_neg (by omega), if_pos hc]
theorem sEnd_plain {S : List UInt8} {j : Nat} (h : j < S.length) (hc : ch S j ≠ 34) (hd : ch S j ≠ 92) : sEnd S j = sEnd S (j + 1) := by
  rw [sEnd_step, if_neg (by omega), if_neg hc, if_neg hd]
theorem sEnd_out {S : List UInt8} {j : Nat} (h : S.length ≤ j) : sEnd S j = j := by
  rw [sEnd_step, if_pos h]

/-- The state of the machine: where it stands; has an array just opened, and where; the stack (top first); the counts. -/
structure MS where
  i : Nat
  op : Bool
  oa : Nat
  st : List Int
  cs : List (Nat × Nat)

/-- One more at place k. -/
def bump (cs : List (Nat × Nat)) (k : Nat) : List (Nat × Nat) := cs.set k ((cs.getD k (0, 0)).1, (cs.getD k (0, 0)).2 + 1)

/-- What a byte does that is neither white space nor met by an opening. -/
def act (S : List UInt8) (i c oa : Nat) (st : List Int) (cs : List (Nat × Nat)) : Option (MS ⊕ (Nat × List (Nat × Nat))) :=
  if c = 34 then some (.inl ⟨sEnd S (i + 1) + 1, false, oa, st, cs⟩)
  else if c = 91 then some (.inl ⟨i + 1, true, i + 1, st, cs⟩)
  else if c = 123 then some (.inl ⟨i + 1, false, oa, -1 :: st, cs⟩)
  else if c = 44 then
    match st with
    | [] => none
    | t :: _ => if 0 ≤ t then (if t.toNat < cs.length then some (.inl ⟨i + 1, false, oa, st, bump cs t.toNat⟩) else none) else some (.inl ⟨i + 1, false, oa, st, cs⟩)
  else if c = 93 ∨ c = 125 then
    match st with
    | [] => none
    | [_] => some (.inr (i + 1, cs))
    | _ :: t :: st' => some (.inl ⟨i + 1, false, oa, t :: st', cs⟩)
  else some (.inl ⟨i + 1, false, oa, st, cs⟩)

def step (S : List UInt8) (m : MS) : Option (MS ⊕ (Nat × List (Nat × Nat))) :=
  if m.i < S.length then
    if isWs (ch S m.i) then some (.inl ⟨m.i + 1, m.op, m.oa, m.st, m.cs⟩)
    else if m.op then
      if ch S m.i = 93 then
        (match m.st with
        | [] => some (.inr (m.i + 1, m.cs))
        | t :: st' => some (.inl ⟨m.i + 1, false, m.oa, t :: st', m.cs⟩))
      else act S m.i (ch S m.i) m.oa ((m.cs.length : Int) :: m.st) (m.cs ++ [(m.oa, 1)])
    else act S m.i (ch S m.i) m.oa m.st m.cs
  else none

def run (S : List UInt8) : Nat → MS → Option (Nat × List (Nat × Nat))
  | 0, _ => none
  | n + 1, m =>
    match step S m with
    | some (.inl m') => run S n m'
    | some (.inr r) => some r
    | none => none

/-- The machine, from m on, ends with r. -/
def Ends (S : List UInt8) (m : MS) (r : Nat × List (Nat × Nat)) : Prop := ∃ n, run S n m = some r
/-- Whatever the machine comes to from m', it comes to from m. -/
def Lead (S : List UInt8) (m m' : MS) : Prop := ∀ r, Ends S m' r → Ends S m r

theorem Lead.refl (S : List UInt8) (m : MS) : Lead S m m := fun _ h => h
theorem Lead.trans {S : List UInt8} {a b c : MS} (h : Lead S a b) (k : Lead S b c) : Lead S a c := fun r hr => h r (k r hr)
theorem lead_step {S : List UInt8} {m m' : MS} (h : step S m = some (.inl m')) : Lead S m m' := by
  rintro r ⟨n, hn⟩
  exact ⟨n + 1, by simp only [run, h]; exact hn⟩
theorem ends_step {S : List UInt8} {m : MS} {r : Nat × List (Nat × Nat)} (h : step S m = some (.inr r)) : Ends S m r :=
  ⟨1, by simp only [run, h]⟩
/-- Two states that take the same step. -/
theorem lead_same {S : List UInt8} {m m' : MS} (h : step S m = step S m') : Lead S m m' := by
  rintro r ⟨n, hn⟩
  cases n with
  | zero => simp [run] at hn
  | succ n => exact ⟨n + 1, by simp only [run, h]; simpa only [run] using hn⟩
/-- What an end says of the next step. -/
theorem Ends.next {S : List UInt8} {m : MS} {r : Nat × List (Nat × Nat)} (h : Ends S m r) : (∃ m', step S m = some (.inl m') ∧ Ends S m' r) ∨ step S m = some (.inr r) := by
  obtain ⟨n, hn⟩ := h
  cases n with
  | zero => simp [run] at hn
  | succ n =>
    simp only [run] at hn
    cases hs : step S m with
    | none => simp [hs] at hn
    | some x =>
      cases x with
      | inl m' => rw [hs] at hn; exact .inl ⟨m', rfl, n, hn⟩
      | inr r' => rw [hs] at hn; simp at hn; subst hn; exact .inr rfl

/-! ### single steps -/
theorem step_ws {S : List UInt8} {i oa : Nat} {op : Bool} {st : List Int} {cs : List (Nat × Nat)} (h : i < S.length) (hw : isWs (ch S i) = true) : step S ⟨i, op, oa, st, cs⟩ = some (.inl ⟨i + 1, op, oa, st, cs⟩) := by
  simp [step, h, hw]
theorem step_act {S : List UInt8} {i oa : Nat} {st : List Int} {cs : List (Nat × Nat)} (h : i < S.length) (hw : isWs (ch S i) = false) : step S ⟨i, false, oa, st, cs⟩ = act S i (ch S i) oa st cs := by
  simp [step, h, hw]
theorem step_open {S : List UInt8} {i oa : Nat} {st : List Int} {cs : List (Nat × Nat)} (h : i < S.length) (hw : isWs (ch S i) = false) (hc : ch S i ≠ 93) : step S ⟨i, true, oa, st, cs⟩ = act S i (ch S i) oa ((cs.length : Int) :: st) (cs ++ [(oa, 1)]) := by
  simp [step, h, hw, hc]

/-- White space from a to b. -/
def WsRun (S : List UInt8) (a b : Nat) : Prop := a ≤ b ∧ ∀ j, a ≤ j → j < b → j < S.length ∧ isWs (ch S j) = true
theorem lead_ws {S : List UInt8} {a b : Nat} (h : WsRun S a b) (op : Bool) (oa : Nat) (st : List Int) (cs : List (Nat × Nat)) : Lead S ⟨a, op, oa, st, cs⟩ ⟨b, op, oa, st, cs⟩ := by
  obtain ⟨hab, hw⟩ := h
  obtain ⟨n, rfl⟩ : ∃ n, b = a + n := ⟨b - a, by omega⟩
  induction n generalizing a with
  | zero => exact Lead.refl _ _
  | succ n ih =>
    obtain ⟨h1, h2⟩ := hw a (Nat.le_refl _) (by omega)
    refine (lead_step (step_ws h1 h2)).trans ?_
    have := ih (a := a + 1) (by omega) (fun j hj hk => hw j (by omega) (by omega))
    rw [show a + 1 + n = a + (n + 1) by omega] at this
    exact this

/-- A byte that does nothing. -/
def plainB (c : Nat) : Bool := !(isWs c || c == 34 || c == 91 || c == 123 || c == 44 || c == 93 || c == 125)
theorem act_plain {S : List UInt8} {i c oa : Nat} {st : List Int} {cs : List (Nat × Nat)} (h : plainB c = true) : act S i c oa st cs = some (.inl ⟨i + 1, false, oa, st, cs⟩) := by
  simp [plainB] at h
  simp [act, h]
theorem ws_of_plain {c : Nat} (h : plainB c = true) : isWs c = false := by
  simp [plainB] at h; exact h.1.1.1.1.1.1
def PlainRun (S : List UInt8) (a b : Nat) : Prop := a ≤ b ∧ ∀ j, a ≤ j → j < b → j < S.length ∧ plainB (ch S j) = true
theorem lead_plain {S : List UInt8} {a b : Nat} (h : PlainRun S a b) (oa : Nat) (st : List Int) (cs : List (Nat × Nat)) : Lead S ⟨a, false, oa, st, cs⟩ ⟨b, false, oa, st, cs⟩ := by
  obtain ⟨hab, hw⟩ := h
  obtain ⟨n, rfl⟩ : ∃ n, b = a + n := ⟨b - a, by omega⟩
  induction n generalizing a with
  | zero => exact Lead.refl _ _
  | succ n ih =>
    obtain ⟨h1, h2⟩ := hw a (Nat.le_refl _) (by omega)
    refine (lead_step ((step_act h1 (ws_of_plain h2)).trans (act_plain h2))).trans ?_
    have := ih (a := a + 1) (by omega) (fun j hj hk => hw j (by omega) (by omega))
    rw [show a + 1 + n = a + (n + 1) by omega] at this
    exact this

/-- A value's first byte. -/
def First (S : List UInt8) (p : Nat) : Prop := p < S.length ∧ isWs (ch S p) = false ∧ ch S p ≠ 93

/-- WHAT A VALUE FROM p TO e, WITH THE ARRAYS E IN IT, MAKES THE MACHINE DO. -/
def Val (S : List UInt8) (p e : Nat) (E : List (Nat × Nat)) : Prop :=
  First S p ∧ p ≤ e ∧ e ≤ S.length ∧ ∀ (oa : Nat) (st : List Int) (cs : List (Nat × Nat)), st ≠ [] → ∃ oa', Lead S ⟨p, false, oa, st, cs⟩ ⟨e, false, oa', st, cs ++ E⟩

/-- A string from its quote at p to e, past the closing quote. -/
def StrOk (S : List UInt8) (p e : Nat) : Prop := p < S.length ∧ ch S p = 34 ∧ p < e ∧ e ≤ S.length ∧ sEnd S (p + 1) + 1 = e
theorem lead_str {S : List UInt8} {p e : Nat} (h : StrOk S p e) (oa : Nat) (st : List Int) (cs : List (Nat × Nat)) : Lead S ⟨p, false, oa, st, cs⟩ ⟨e, false, oa, st, cs⟩ := by
  obtain ⟨h1, h2, _, _, h5⟩ := h
  apply lead_step
  rw [step_act h1 (by rw [h2]; rfl), h2]
  simp [act, h5]
theorem val_str {S : List UInt8} {p e : Nat} (h : StrOk S p e) : Val S p e [] :=
  ⟨⟨h.1, by rw [h.2.1]; rfl, by rw [h.2.1]; omega⟩, Nat.le_of_lt h.2.2.1, h.2.2.2.1, fun oa st cs _ => ⟨oa, by simpa using lead_str h oa st cs⟩⟩
theorem val_plain {S : List UInt8} {p e : Nat} (h : PlainRun S p e) (hp : p < e) (he : e ≤ S.length) : Val S p e [] := by
  obtain ⟨h1, h2⟩ := h.2 p (Nat.le_refl _) hp
  refine ⟨⟨h1, ws_of_plain h2, ?_⟩, Nat.le_of_lt hp, he, fun oa st cs _ => ⟨oa, by simpa using lead_plain h oa st cs⟩⟩
  intro e93; rw [e93] at h2; exact absurd h2 (by decide)

/-! ### arrays -/
/-- From just past the bracket at p: j elements are behind, e is past the last, Es are the arrays in them. -/
def ArrDone (S : List UInt8) (p j e : Nat) (Es : List (Nat × Nat)) : Prop :=
  e ≤ S.length ∧ ∀ (st : List Int) (cs : List (Nat × Nat)), ∃ oa', Lead S ⟨p + 1, true, p + 1, st, cs⟩ ⟨e, false, oa', (cs.length : Int) :: st, cs ++ (p + 1, j) :: Es⟩
/-- The same behind a comma and white space: the next element is due at q. -/
def ArrNext (S : List UInt8) (p j q : Nat) (Es : List (Nat × Nat)) : Prop :=
  ∀ (st : List Int) (cs : List (Nat × Nat)), ∃ oa', Lead S ⟨p + 1, true, p + 1, st, cs⟩ ⟨q, false, oa', (cs.length : Int) :: st, cs ++ (p + 1, j + 1) :: Es⟩
/-- THE WHOLE ARRAY whose bracket stands at p: e is past its closing bracket. -/
def Arr (S : List UInt8) (p e : Nat) (E : List (Nat × Nat)) : Prop :=
  p < e ∧ e ≤ S.length ∧ (∀ cs, Ends S ⟨p + 1, true, p + 1, [], cs⟩ (e, cs ++ E)) ∧
  ∀ (st : List Int) (cs : List (Nat × Nat)), st ≠ [] → ∃ oa', Lead S ⟨p + 1, true, p + 1, st, cs⟩ ⟨e, false, oa', st, cs ++ E⟩

theorem arr_empty {S : List UInt8} {p q : Nat} (hw : WsRun S (p + 1) q) (hq : q < S.length) (hc : ch S q = 93) : Arr S p (q + 1) [] := by
  have hws : isWs (ch S q) = false := by rw [hc]; rfl
  refine ⟨by have := hw.1; omega, by omega, fun cs => ?_, fun st cs hst => ⟨p + 1, ?_⟩⟩
  · refine lead_ws hw true (p + 1) [] cs _ (ends_step ?_)
    simp [step, hq, hc]; rfl
  · refine (lead_ws hw true (p + 1) st cs).trans (lead_step ?_)
    cases st with
    | nil => exact absurd rfl hst
    | cons t st' => simp [step, hq, hc]; rfl

theorem arr_first {S : List UInt8} {p q e : Nat} {E : List (Nat × Nat)} (hw : WsRun S (p + 1) q) (hv : Val S q e E) : ArrDone S p 1 e E := by
  obtain ⟨⟨f1, f2, f3⟩, _, he, hl⟩ := hv
  refine ⟨he, fun st cs => ?_⟩
  obtain ⟨oa', hl'⟩ := hl (p + 1) ((cs.length : Int) :: st) (cs ++ [(p + 1, 1)]) (by simp)
  refine ⟨oa', ((lead_ws hw true (p + 1) st cs).trans (lead_same ?_)).trans (by simpa using hl')⟩
  rw [step_open f1 f2 f3, step_act f1 f2]

theorem arr_more {S : List UInt8} {p j q e : Nat} {Es E : List (Nat × Nat)} (hn : ArrNext S p j q Es) (hv : Val S q e E) : ArrDone S p (j + 1) e (Es ++ E) := by
  obtain ⟨_, _, he, hl⟩ := hv
  refine ⟨he, fun st cs => ?_⟩
  obtain ⟨oa1, h1⟩ := hn st cs
  obtain ⟨oa2, h2⟩ := hl oa1 ((cs.length : Int) :: st) (cs ++ (p + 1, j + 1) :: Es) (by simp)
  exact ⟨oa2, h1.trans (by simpa using h2)⟩

theorem bump_at (cs : List (Nat × Nat)) (a j : Nat) (Es : List (Nat × Nat)) : bump (cs ++ (a, j) :: Es) cs.length = cs ++ (a, j + 1) :: Es := by
  unfold bump
  simp [List.getD]

theorem arr_comma {S : List UInt8} {p j e q q' : Nat} {Es : List (Nat × Nat)} (hd : ArrDone S p j e Es) (hw : WsRun S e q) (hq : q < S.length) (hc : ch S q = 44) (hw' : WsRun S (q + 1) q') : ArrNext S p j q' Es := by
  intro st cs
  obtain ⟨oa1, h1⟩ := hd.2 st cs
  refine ⟨oa1, ((h1.trans (lead_ws hw false oa1 _ _)).trans (lead_step ?_)).trans (lead_ws hw' false oa1 _ _)⟩
  rw [step_act hq (by rw [hc]; rfl), hc]
  simp [act, bump_at]

theorem arr_close {S : List UInt8} {p j e q : Nat} {Es : List (Nat × Nat)} (hp : p < e) (hd : ArrDone S p j e Es) (hw : WsRun S e q) (hq : q < S.length) (hc : ch S q = 93) : Arr S p (q + 1) ((p + 1, j) :: Es) := by
  have hws : isWs (ch S q) = false := by rw [hc]; rfl
  refine ⟨by have := hw.1; omega, by omega, fun cs => ?_, fun st cs hst => ?_⟩
  · obtain ⟨oa1, h1⟩ := hd.2 [] cs
    refine h1 _ (lead_ws hw false oa1 _ _ _ (ends_step ?_))
    rw [step_act hq hws, hc]
    simp [act]
  · obtain ⟨oa1, h1⟩ := hd.2 st cs
    refine ⟨oa1, (h1.trans (lead_ws hw false oa1 _ _)).trans (lead_step ?_)⟩
    rw [step_act hq hws, hc]
    cases st with
    | nil => exact absurd rfl hst
    | cons t st' => simp [act]

theorem val_arr {S : List UInt8} {p e : Nat} {E : List (Nat × Nat)} (hp : p < S.length) (hc : ch S p = 91) (h : Arr S p e E) : Val S p e E := by
  have hws : isWs (ch S p) = false := by rw [hc]; rfl
  refine ⟨⟨hp, hws, by omega⟩, Nat.le_of_lt h.1, h.2.1, fun oa st cs hst => ?_⟩
  obtain ⟨oa', h'⟩ := h.2.2.2 st cs hst
  refine ⟨oa', (lead_step ?_).trans h'⟩
  rw [step_act hp hws, hc]
  simp [act]

/-! ### objects -/
/-- From the brace at p: we stand at q inside the object, Es the arrays so far. -/
def ObjAt (S : List UInt8) (p q : Nat) (Es : List (Nat × Nat)) : Prop :=
  p < q ∧ ∀ (oa : Nat) (st : List Int) (cs : List (Nat × Nat)), ∃ oa', Lead S ⟨p, false, oa, st, cs⟩ ⟨q, false, oa', -1 :: st, cs ++ Es⟩
theorem obj_open {S : List UInt8} {p q : Nat} (hp : p < S.length) (hc : ch S p = 123) (hw : WsRun S (p + 1) q) : ObjAt S p q [] := by
  refine ⟨by have := hw.1; omega, fun oa st cs => ⟨oa, (lead_step ?_).trans (by simpa using lead_ws hw false oa (-1 :: st) cs)⟩⟩
  rw [step_act hp (by rw [hc]; rfl), hc]
  simp [act]
theorem obj_ws {S : List UInt8} {p q q' : Nat} {Es : List (Nat × Nat)} (h : ObjAt S p q Es) (hw : WsRun S q q') : ObjAt S p q' Es := by
  refine ⟨by have := h.1; have := hw.1; omega, fun oa st cs => ?_⟩
  obtain ⟨oa', h'⟩ := h.2 oa st cs
  exact ⟨oa', h'.trans (lead_ws hw false oa' _ _)⟩
theorem obj_str {S : List UInt8} {p q e : Nat} {Es : List (Nat × Nat)} (h : ObjAt S p q Es) (hs : StrOk S q e) : ObjAt S p e Es := by
  refine ⟨by have := h.1; have := hs.2.2.1; omega, fun oa st cs => ?_⟩
  obtain ⟨oa', h'⟩ := h.2 oa st cs
  exact ⟨oa', h'.trans (lead_str hs oa' _ _)⟩
theorem obj_colon {S : List UInt8} {p q : Nat} {Es : List (Nat × Nat)} (h : ObjAt S p q Es) (hq : q < S.length) (hc : ch S q = 58) : ObjAt S p (q + 1) Es := by
  refine ⟨by have := h.1; omega, fun oa st cs => ?_⟩
  obtain ⟨oa', h'⟩ := h.2 oa st cs
  refine ⟨oa', h'.trans (lead_step ?_)⟩
  rw [step_act hq (by rw [hc]; rfl), hc]
  simp [act]
theorem obj_comma {S : List UInt8} {p q : Nat} {Es : List (Nat × Nat)} (h : ObjAt S p q Es) (hq : q < S.length) (hc : ch S q = 44) : ObjAt S p (q + 1) Es := by
  refine ⟨by have := h.1; omega, fun oa st cs => ?_⟩
  obtain ⟨oa', h'⟩ := h.2 oa st cs
  refine ⟨oa', h'.trans (lead_step ?_)⟩
  rw [step_act hq (by rw [hc]; rfl), hc]
  simp [act]
theorem obj_val {S : List UInt8} {p q e : Nat} {Es E : List (Nat × Nat)} (h : ObjAt S p q Es) (hv : Val S q e E) : ObjAt S p e (Es ++ E) := by
  refine ⟨by have := h.1; have := hv.2.1; omega, fun oa st cs => ?_⟩
  obtain ⟨oa1, h1⟩ := h.2 oa st cs
  obtain ⟨oa2, h2⟩ := hv.2.2.2 oa1 (-1 :: st) (cs ++ Es) (by simp)
  exact ⟨oa2, h1.trans (by simpa using h2)⟩
theorem obj_close {S : List UInt8} {p q : Nat} {Es : List (Nat × Nat)} (hp : p < S.length) (hcp : ch S p = 123) (h : ObjAt S p q Es) (hq : q < S.length) (hc : ch S q = 125) : Val S p (q + 1) Es := by
  refine ⟨⟨hp, by rw [hcp]; rfl, by omega⟩, by have := h.1; omega, by omega, fun oa st cs hst => ?_⟩
  obtain ⟨oa', h'⟩ := h.2 oa st cs
  refine ⟨oa', h'.trans (lead_step ?_)⟩
  rw [step_act hq (by rw [hc]; rfl), hc]
  cases st with
  | nil => exact absurd rfl hst
  | cons t st' => simp [act]

end Go.Proofs.Qxb6605573a
