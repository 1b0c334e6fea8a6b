/-
  THE LABELS' MAP, AND WHAT IT ANSWERS.
-/
import Derived.Test.Qxb6606378aSml
import Derived.Maps.Own
import Derived.Maps.OwnSet
import Derived.Maps.StringElems
import Derived.Maps.Views
import Derived.Lib.SliceRun
namespace Go.Proofs.Qxb6606378a
open Go.RowKit Go.Maps

/-- The last of the first j pairs that names the key. -/
def lastN (ks vs : List ByteArray) (key : ByteArray) : Nat → Option ByteArray
  | 0 => none
  | j + 1 => if ks.getD j ByteArray.empty = key then some (vs.getD j ByteArray.empty) else lastN ks vs key j

def klit (key : ByteArray) : Lit := .string key.data.toList
theorem klit_inj {a b : ByteArray} (h : klit a = klit b) : a = b := by
  unfold klit at h
  injection h with h
  obtain ⟨⟨x⟩⟩ := a
  obtain ⟨⟨y⟩⟩ := b
  simp at h
  rw [h]

/-- What a map of Go's answers. -/
def Ans (D : DataW Unit) (o : ByteArray → Option ByteArray) : Prop :=
  ∀ key, has D (klit key) = (o key).isSome ∧ D.atKey (klit key) (.lit (.string [])) = .lit (.string ((o key).getD ByteArray.empty).data.toList)

def MapOf (w : World) (r : Option Nat) (o : ByteArray → Option ByteArray) : Prop :=
  (r = none ∧ ∀ key, o key = none) ∨ (∃ b n D, r = some b ∧ w.ownsMap Try.prog 9 (plainElem (H := Unit) Try.prog 9) b n D ∧ Ans D o)

theorem MapOf.below {w w' : World} {r : Option Nat} {o : ByteArray → Option ByteArray} (h : MapOf w r o) (hb : Below w.heap.size w w') : MapOf w' r o := by
  rcases h with h | ⟨b, n, D, hr, hown, ha⟩
  · exact .inl h
  · exact .inr ⟨b, n, D, hr, hown.kept (row := none) ⟨hb.os, hb.tape, hb.output, hb.size, fun k hk _ => hb.block k hk⟩ (by simp), ha⟩

theorem strKey : Keyed Try.prog 9 := string_keyed Try.underlying9

theorem MapOf.look {w : World} {r : Option Nat} {o : ByteArray → Option ByteArray} (h : MapOf w r o) {key : ByteArray} (hk : key.size ≤ maxLen) :
    (Instr.lookup 31 (.map r) (.string key) true).run Try.prog w = .ok (.tuple #[.string ((o key).getD ByteArray.empty), .bool (o key).isSome]) w := by
  have hkey : keyOf Try.prog 9 (.string key) = some (klit key) := WideMaps.keyOf_string_mk (s := key) Try.underlying9 hk
  rcases h with ⟨rfl, h0⟩ | ⟨b, n, D, rfl, hown, ha⟩
  · have := look_nil (P := Try.prog) (w := w) (t := 31) (e := 9) true strKey Try.underlying31 (Try.zeroValue9 w) hkey
    rw [this, h0 key]
    rfl
  · obtain ⟨v, ps, hrun, hv⟩ := hown.look_ok (t := 31) (e := 9) strKey Try.underlying31 (Try.zeroValue9 w) (plainElem_string (s := ByteArray.empty) Try.underlying9 (by unfold maxLen; decide)) hkey
    obtain ⟨s, rfl, hz, _⟩ := plainElem_string_inv Try.underlying9 hv
    rw [hrun, (ha key).1]
    have h2 := (ha key).2
    have h3 : D.atKey (klit key) (.lit (.string [])) = .lit (.string s.data.toList) := by
      have := (Prod.mk.inj hz).1
      exact this
    rw [h2] at h3
    have h4 : klit ((o key).getD ByteArray.empty) = klit s := by
      injection h3
    rw [klit_inj h4]

theorem isKey (key : ByteArray) : WideAt.IsKeyLit (klit key) := by simp [klit, WideAt.IsKeyLit]
theorem Ans.empty : Ans (.map []) (fun _ => none) := fun key => ⟨by rfl, by rfl⟩

theorem Ans.step {D : DataW Unit} {ks vs : List ByteArray} {j : Nat} (hD : IsMap D) (h : Ans D (fun key => lastN ks vs key j)) :
    Ans (D.put (klit (ks.getD j ByteArray.empty)) (.lit (.string (vs.getD j ByteArray.empty).data.toList))) (fun key => lastN ks vs key (j + 1)) := by
  intro key
  by_cases hk : ks.getD j ByteArray.empty = key
  · subst hk
    refine ⟨?_, ?_⟩
    · rw [has_put_same hD (isKey _)]; simp [lastN]
    · rw [atKey_put_same hD (isKey _)]; simp [lastN]
  · have hne : klit key ≠ klit (ks.getD j ByteArray.empty) := fun e => hk (klit_inj e).symm
    refine ⟨?_, ?_⟩
    · rw [has_put_other hne, (h key).1]; simp only [lastN, if_neg hk]
    · rw [atKey_put_other hne, (h key).2]; simp only [lastN, if_neg hk]

theorem run_makeMap_hint (n : Int) (w : World) : (Instr.makeMap 31 (some (.int .i64 n))).run Try.prog w = .ok (.map (some w.heap.size)) (w.alloc (.map #[] 0)) := by
  simp [Instr.makeMap, run_underlying Try.underlying31, asInt, asIntOf]

/-- What the loop keeps. -/
def LRel (w : World) (ks vs : List ByteArray) (kv : Value) (wr : World) : Prop := ∃ (j : Nat) (D : DataW Unit), kv = .int .i64 (j : Int) ∧ j ≤ ks.length ∧ wr.ownsMap Try.prog 9 (plainElem Try.prog 9) w.heap.size j D ∧ Ans D (fun key => lastN ks vs key j) ∧ Below w.heap.size w wr

set_option maxHeartbeats 800000 in
theorem labels_any (ka va : Option Addr) (kc vc : Nat) (ks vs : List ByteArray) (w : World) (hk : SRow w ka ks) (hv : SRow w va vs) (hl : ks.length = vs.length) (hm : ks.length ≤ 1048576) :
    Calls Try.prog 13 #[.slice ka ks.length kc, .slice va vs.length vc] w fun e w' => ∃ r, e = .returned (.map r) ∧ Below w.heap.size w w' ∧ MapOf w' r (fun key => lastN ks vs key ks.length) := by
  have q27 : ∀ (w : World) (a : Option Addr) (n c n' c' : Nat), (binOp .eql 27 (.slice a n c) (.slice none n' c')).run Try.prog w = .ok (.bool a.isNone) w := fun w a n c n' c' => Lib.run_eql_slice_nil w _ _ a n c n' c' Try.underlying27
  have HK : Hid (SRow w ka ks) := hk
  have HV : Hid (SRow w va vs) := hv
  have HL : Hid (ks.length = vs.length) := hl
  clear hk hv hl
  cases ka with
  | none =>
    obtain rfl := HK.out.2.2.1 rfl
    go_enter Try.func13, Try.ntmps13
    go_wp2
    go_ret
    exact ⟨none, rfl, Below.refl _ _, .inl ⟨rfl, fun _ => rfl⟩⟩
  | some x =>
    have hmm : ∀ (n : Int) (w : World), (Instr.makeMap 31 (some (.int .i64 n))).run Try.prog w = .ok (.map (some w.heap.size)) (w.alloc (.map #[] 0)) := fun n w => run_makeMap_hint n w
    have H0 : Hid (LRel w ks vs (.int .i64 0) (w.alloc (.map #[] 0))) := ⟨0, .map [], rfl, Nat.zero_le _, World.ownsMap_made (H := Unit) w Try.prog 9 (plainElem Try.prog 9), Ans.empty, (Below.refl _ _).alloc (Nat.le_refl _) _⟩
    go_enter Try.func13, Try.ntmps13
    go_wp2
    go_loopw [6] (fun i wr => LRel w ks vs i wr) (fun i _ => ks.length + 1 - (intOf i).toNat)
    case atStart => exact H0.out
    case round =>
      obtain ⟨j, D, rfl, hj, hown, hans, hbel⟩ := hrel
      by_cases hlt : j < ks.length
      · obtain ⟨b, o, hx, hc⟩ := (HK.out.below hbel).cell hlt
        obtain rfl := Option.some.inj hx
        have hlv : j < vs.length := by rw [← HL.out]; exact hlt
        obtain ⟨b', o', rfl, hc'⟩ := (HV.out.below hbel).cell hlv
        have m1 := HK.out.2.1 j
        have m2 := HV.out.2.1 j
        have hst := Ans.step hown.isMap hans
        generalize ks.getD j ByteArray.empty = s1 at hc m1 hst
        generalize vs.getD j ByteArray.empty = s2 at hc' m2 hst
        obtain ⟨w1, hrun, hown1, hgr1⟩ := hown.drew.update strKey Try.underlying31 (by unfold maxLen; omega) (WideMaps.keyOf_string_mk (s := s1) Try.underlying9 (by unfold maxLen; exact m1)) (plainElem_string (s := s2) Try.underlying9 (by unfold maxLen; exact m2))
        have HN : Hid (LRel w ks vs (.int .i64 ((j : Int) + 1)) w1) :=
          ⟨j + 1, _, by simp, by omega, hown1, hst, hbel.drew.grown hgr1 (by have := hbel.size; exact this) (fun k hk => by cases hk; exact Nat.le_refl _)⟩
        have hb1 : (j : Int) < (ks.length : Int) := by omega
        have hb2 : (j : Int) < (vs.length : Int) := by omega
        clear hown1 hgr1 hbel hown hans H0 hst
        go_wp2
        go_region
        all_goals
          go_wp2
          go_roundw
          case rel => exact HN.out
          case measure => simp [intOf]; omega
      · have hjb : ¬ (j : Int) < (ks.length : Int) := by omega
        obtain rfl : j = ks.length := by omega
        have HM : Hid (MapOf wr (some w.heap.size) (fun key => lastN ks vs key ks.length)) := .inr ⟨_, _, D, rfl, hown, hans⟩
        have HB : Hid (Below w.heap.size w wr) := hbel
        clear hown hans hbel
        go_wp2
        go_ret
        exact ⟨_, rfl, HB.out, HM.out⟩
end Go.Proofs.Qxb6606378a
