/-
  A SLICE THAT THE CALL OWNS, TOLD BY ITS CELLS: whatever the type that its block bears (an array on the stack, a row that append has laid). Append says where the value lies: where it lay, or in a new block.
-/
import Derived.Test.Qxb6605573aChecked
import Derived.WalkKit
import Derived.Below
import Derived.ArgAppend
import Derived.Laws.IdiomCopy
import Derived.KernelRfl
namespace Go.Proofs.Qxb6605573a
open Go.RowKit

def SRow (w : World) (B size : Nat) (v : Value) (n : Nat) (xs : List Value) : Prop :=
  xs.length = n * size ∧ ((v = .slice none 0 0 ∧ n = 0) ∨
    ∃ g cap, v = .slice (some ⟨g, 0, none⟩) n cap ∧ B ≤ g ∧ g < w.heap.size ∧ n ≤ cap ∧ (∀ j, j < cap * size → (w.cell? ⟨g, j, none⟩).isSome = true ∧ w.frozen? ⟨g, j, none⟩ = false) ∧ ∀ j u, xs[j]? = some u → w.cell? ⟨g, j, none⟩ = some u)

theorem SRow.nil (w : World) (B size : Nat) : SRow w B size (.slice none 0 0) 0 [] := ⟨by simp, .inl ⟨rfl, rfl⟩⟩
theorem SRow.shape {w : World} {B size : Nat} {v : Value} {n : Nat} {xs : List Value} (h : SRow w B size v n xs) : ∃ ao cap, v = .slice ao n cap := by
  obtain ⟨_, ⟨rfl, rfl⟩ | ⟨g, cap, rfl, _⟩⟩ := h
  · exact ⟨_, _, rfl⟩
  · exact ⟨_, _, rfl⟩
theorem SRow.keep {w w' : World} {B size : Nat} {v : Value} {n : Nat} {xs : List Value} (h : SRow w B size v n xs) (hb : ∀ b, v.ownBlock = some b → w'.heap[b]? = w.heap[b]?) (hs : w.heap.size ≤ w'.heap.size) : SRow w' B size v n xs := by
  obtain ⟨hl, h0 | ⟨g, cap, rfl, hB, hg, hn, hth, hc⟩⟩ := h
  · exact ⟨hl, .inl h0⟩
  · have e := hb g rfl
    exact ⟨hl, .inr ⟨g, cap, rfl, hB, by omega, hn, fun j hj => by rw [World.cell?_of_block (a := ⟨g, j, none⟩) e, World.frozen?_of_block (a := ⟨g, j, none⟩) e]; exact hth j hj, fun j u hu => (World.cell?_of_block (a := ⟨g, j, none⟩) e).trans (hc j u hu)⟩⟩
theorem SRow.lt {w : World} {B size : Nat} {v : Value} {n : Nat} {xs : List Value} (h : SRow w B size v n xs) : ∀ b, v.ownBlock = some b → B ≤ b ∧ b < w.heap.size := by
  obtain ⟨_, ⟨rfl, rfl⟩ | ⟨g, cap, rfl, hB, hg, _⟩⟩ := h
  · intro b hb; cases hb
  · intro b hb; cases hb; exact ⟨hB, hg⟩
theorem SRow.at_ {w : World} {B size : Nat} {v : Value} {n : Nat} {xs : List Value} (h : SRow w B size v n xs) (hn : 0 < n) : ∃ g cap, v = .slice (some ⟨g, 0, none⟩) n cap ∧ B ≤ g ∧ g < w.heap.size ∧ n ≤ cap ∧ (∀ j, j < cap * size → (w.cell? ⟨g, j, none⟩).isSome = true ∧ w.frozen? ⟨g, j, none⟩ = false) ∧ ∀ j u, xs[j]? = some u → w.cell? ⟨g, j, none⟩ = some u := by
  obtain ⟨_, ⟨_, h0⟩ | h1⟩ := h
  · omega
  · exact h1
theorem setOff (w : World) (g j k : Nat) (u : Value) (h : k ≠ j) : (w.setCell ⟨g, j, none⟩ u).cell? ⟨g, k, none⟩ = w.cell? ⟨g, k, none⟩ := by
  apply World.cell?_setCell_other
  intro e
  injection e with _ e2
  exact h e2.symm
theorem SRow.stored {w : World} {B size g cap n : Nat} {xs : List Value} (h : SRow w B size (.slice (some ⟨g, 0, none⟩) n cap) n xs) (j : Nat) (hj : j < n * size) (u : Value) : SRow (w.setCell ⟨g, j, none⟩ u) B size (.slice (some ⟨g, 0, none⟩) n cap) n (xs.set j u) := by
  obtain ⟨hl, ⟨h0, _⟩ | ⟨g', cap', hv, hB, hg, hn, hth, hc⟩⟩ := h
  · cases h0
  · cases hv
    have hjc : j < cap * size := Nat.lt_of_lt_of_le hj (Nat.mul_le_mul_right _ hn)
    have hsome := (hth j hjc).1
    refine ⟨by simpa using hl, .inr ⟨g, cap, rfl, hB, by simpa using hg, hn, fun k hk => ⟨?_, by rw [World.frozen?_setCell]; exact (hth k hk).2⟩, fun k u' hu => ?_⟩⟩
    · by_cases hkj : k = j
      · subst hkj; rw [World.cell?_setCell_same' _ _ _ hsome]; rfl
      · rw [setOff _ _ _ _ _ hkj]; exact (hth k hk).1
    · by_cases hkj : k = j
      · subst hkj
        rw [List.getElem?_set_self (by omega)] at hu
        rw [World.cell?_setCell_same' _ _ _ hsome]; exact hu
      · rw [List.getElem?_set_ne (fun e => hkj e.symm)] at hu
        rw [setOff _ _ _ _ _ hkj]; exact hc k u' hu
theorem SRow.of_own {w : World} {B B' e size : Nat} {v : Value} {n : Nat} {xs : List Value} (h : w.ownsRow B' e size v n xs) (hB : B ≤ B') : SRow w B size v n xs := by
  obtain ⟨hl, h0 | ⟨g, cap, cur, rfl, hg, hh, hn, _, hsz, htk⟩⟩ := h
  · exact ⟨hl, .inl h0⟩
  · refine ⟨hl, .inr ⟨g, cap, rfl, by omega, (Array.getElem?_eq_some_iff.1 hh).1, hn, fun j hj => ⟨?_, frozen_of_row _ _ _ _ _ hh⟩, fun j u hu => ?_⟩⟩
    · rw [cell_of_row _ _ _ _ _ _ hh]; simp [hsz, hj]
    · rw [cell_of_row _ _ _ _ _ _ hh]
      rw [← htk] at hu
      have hj : j < n * size := by
        have := (List.getElem?_eq_some_iff.1 hu).1
        rw [htk, hl] at this; exact this
      rw [List.getElem?_take_of_lt hj, Array.getElem?_toList] at hu
      exact hu

theorem grownBy_setCells (b : Nat) : ∀ (vs : List Value) (o : Nat) (w : World), w.grownBy (w.setCells b o vs) (some b)
  | [], _, w => World.grownBy.refl w _
  | v :: r, o, w => by
    have h := grownBy_setCells b r (o + 1) (w.setCell ⟨b, o, none⟩ v)
    have h0 : w.grownBy (w.setCell ⟨b, o, none⟩ v) (some b) := ⟨rfl, rfl, rfl, by simp, fun k _ hk => Below.heap_setCell w ⟨b, o, none⟩ v k (fun e => hk (by rw [e]))⟩
    exact ⟨h.os.trans h0.os, h.tape.trans h0.tape, h.output.trans h0.output, Nat.le_trans h0.size h.size, fun k hk hne => (h.block k (Nat.lt_of_lt_of_le hk h0.size) hne).trans (h0.block k hk hne)⟩

/-- ONE ELEMENT APPENDED. -/
theorem appS {P : Program} (w : World) {ops : Array Oper} {rest : List Oper} {o : Oper} {a : Act} {Q : Exit → Act → World → Prop}
    (hg : o.guard = none) (s x : Operand) (t : TypeId) (hop : o.op = Op.call { callee := Callee.builtin Builtin.append, args := #[s, x], argTypes := #[t, t] })
    (e : TypeId) (i : TypeInfo) (z : Value) (size bytes : Nat) (h1 : P.underlying t = some (.slice e)) (h2 : P.info? e = some i) (h3 : i.zero = some z) (h4 : i.size = size) (h5 : i.bytes = bytes) (h6 : z.cells.size = size) (h7 : 0 < size)
    (B : Nat) (v : Value) (n : Nat) (xs : List Value) (hs : a.eval s = v) (hr : SRow w B size v n xs)
    (ad : Addr) (c : Nat) (news : List Value) (hx : a.eval x = .slice (some ad) 1 c) (hn : news.length = 1 * size) (hc : ∀ j u, news[j]? = some u → w.cell? (ad.add j) = some u) (h1c : ∀ u ∈ news, u.oneCell' = true)
    (b1 : n + 1 ≤ maxLen) (b2 : (n + 1) * bytes ≤ 140737488355328) (hB : B ≤ w.heap.size)
    (hK : ∀ g cap w', SRow w' B size (.slice (some ⟨g, 0, none⟩) (n + 1) cap) (n + 1) (xs ++ news) → w.grownBy w' v.ownBlock → (v.ownBlock = some g ∨ w.heap.size ≤ g) → wpList P ops Q rest (a.put o.dst (.slice (some ⟨g, 0, none⟩) (n + 1) cap)) w') :
    wpList P ops Q (o :: rest) a w := by
  have fin : ∀ v' w', w'.ownsRow w.heap.size e size v' (n + 1) (xs ++ news) → w.grownBy w' none → wpList P ops Q rest (a.put o.dst v') w' := by
    intro v' w' ho hgr
    have hS := SRow.of_own ho hB
    obtain ⟨g, cap, rfl, hBg, hgw, _⟩ := (SRow.of_own ho (Nat.le_refl _)).at_ (by omega)
    refine hK g cap w' hS ⟨hgr.os, hgr.tape, hgr.output, hgr.size, fun k hk _ => hgr.block k hk (by simp)⟩ (.inr hBg)
  obtain ⟨hl, ⟨rfl, rfl⟩ | ⟨g, cap, rfl, hBg, hgw, hnc, hth, hcs⟩⟩ := hr
  · have hxs : xs = [] := List.eq_nil_of_length_eq_zero (by simpa using hl)
    subst hxs
    refine wpList_append_grows w hg s x t hop e i z size bytes h1 h2 h3 h4 h5 h6 h7 none 0 0 [] hs (fun _ => ⟨rfl, rfl⟩) (by simp) (fun b hb => by cases hb) ad 1 c news hx hn hc h1c (by omega) b1 b2 ?_
    intro v' w' ho hgr
    exact fin v' w' ho hgr
  · refine wpList_append_arg w hg s x t hop e i z size bytes h1 h2 h3 h4 h5 h6 h7 g 0 n cap xs hs hl (fun j u hu => by rw [Nat.zero_add]; exact hcs j u hu) ad 1 c news hx hn hc h1c ?_ b1 b2 ?_ ?_
    · intro hroom j hj
      rw [Nat.zero_add]
      refine hth (n * size + j) ?_
      have : (n + 1) * size ≤ cap * size := Nat.mul_le_mul_right _ hroom
      rw [Nat.add_mul] at this
      omega
    · intro hroom
      have hle : (n + 1) * size ≤ cap * size := Nat.mul_le_mul_right _ hroom
      rw [Nat.add_mul] at hle
      have hin : ∀ j, j < news.length → (w.cell? ⟨g, 0 + n * size + j, none⟩).isSome = true := fun j hj => by rw [Nat.zero_add]; exact (hth _ (by omega)).1
      refine hK g cap _ ⟨by rw [List.length_append, hl, hn, Nat.add_mul], .inr ⟨g, cap, rfl, hBg, Nat.lt_of_lt_of_le hgw (grownBy_setCells g news _ w).size, hroom, fun j hj => ⟨?_, ?_⟩, fun j u hu => ?_⟩⟩ (grownBy_setCells g news _ w) (.inl rfl)
      · by_cases hj1 : j < n * size
        · rw [World.cell?_setCells_out g news _ w ⟨g, j, none⟩ (fun _ _ => .inl (by simpa using hj1))]; exact (hth j hj).1
        · by_cases hj2 : j < n * size + news.length
          · obtain ⟨k, rfl⟩ : ∃ k, j = n * size + k := ⟨j - n * size, by omega⟩
            have := World.cell?_setCells_in g news (0 + n * size) w hin k (by omega)
            rw [Nat.zero_add] at this ⊢
            rw [this]; simp
          · rw [World.cell?_setCells_out g news _ w ⟨g, j, none⟩ (fun _ _ => .inr (by simp; omega))]; exact (hth j hj).1
      · rw [World.frozen?_setCells]; exact (hth j hj).2
      · by_cases hj1 : j < n * size
        · rw [List.getElem?_append_left (by omega)] at hu
          rw [World.cell?_setCells_out g news _ w ⟨g, j, none⟩ (fun _ _ => .inl (by simpa using hj1))]; exact hcs j u hu
        · obtain ⟨k, rfl⟩ : ∃ k, j = n * size + k := ⟨j - n * size, by omega⟩
          rw [List.getElem?_append_right (by omega), hl, Nat.add_sub_cancel_left] at hu
          obtain ⟨hk, hku⟩ := List.getElem?_eq_some_iff.1 hu
          have := World.cell?_setCells_in g news (0 + n * size) w hin k hk
          rw [Nat.zero_add] at this ⊢
          rw [this, hku]
    · intro _ v' w' ho hgr
      exact fin v' w' ho hgr
end Go.Proofs.Qxb6605573a
