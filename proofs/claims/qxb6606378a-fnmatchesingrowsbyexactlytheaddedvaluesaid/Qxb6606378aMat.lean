/-
  matches, AND lookup WITHOUT A MAP.
-/
import Derived.Test.Qxb6606378aMap
namespace Go.Proofs.Qxb6606378a
open Go.RowKit Go.Maps

theorem contains_any (a : Option Addr) (c : Nat) (ss : List ByteArray) (x : ByteArray) (w : World) (h : SRow w a ss) :
    Calls Try.prog 21 #[.slice a ss.length c, .string x] w fun e w' => e = .returned (.bool (Lib.containsS ss x)) ∧ w = w' := by
  obtain ⟨h1, h2, h3, h0 | ⟨b, o, rfl, _, hc⟩⟩ := h
  · subst h0
    refine (Try.slices_Contains_string_empty a c x w).mono ?_
    rintro e w' ⟨rfl, rfl⟩
    exact ⟨rfl, rfl⟩
  · refine (Try.slices_Contains_string b o ss.length c ss x w (Nat.le_refl _) h1 hc).mono ?_
    rintro e w' ⟨rfl, rfl⟩
    exact ⟨by rw [List.take_length], rfl⟩

/-- What a requirement says. -/
def meets (z : Int) (o : Option ByteArray) (ss : List ByteArray) : Bool :=
  if z = 0 then o.isSome else if z = 1 then !o.isSome else if z = 2 then o.isSome && Lib.containsS ss (o.getD ByteArray.empty) else !o.isSome || !Lib.containsS ss (o.getD ByteArray.empty)

theorem matches_any (z : Int) (hz : z = 0 ∨ z = 1 ∨ z = 2 ∨ z = 3) (key : ByteArray) (hm : key.size ≤ maxLen) (a : Option Addr) (c : Nat) (ss : List ByteArray) (r : Option Nat) (f : ByteArray → Option ByteArray) (w : World) (h : SRow w a ss) (hr : MapOf w r f) :
    Calls Try.prog 18 #[.agg #[.string key, .int .i64 z, .slice a ss.length c], .map r] w fun e w' => e = .returned (.bool (meets z (f key) ss)) ∧ Below w.heap.size w w' := by
  have hb : Below w.heap.size w (w.alloc (.cells #[.string key, .int .i64 z, .slice a ss.length c] 47)) := (Below.refl _ _).alloc (Nat.le_refl _) _
  have hlk := (hr.below hb).look hm
  have HS : Hid (SRow (w.alloc (.cells #[.string key, .int .i64 z, .slice a ss.length c] 47)) a ss) := h.below hb
  have HB : Hid (Below w.heap.size w (w.alloc (.cells #[.string key, .int .i64 z, .slice a ss.length c] 47))) := hb
  clear hb h hr hm
  cases ho : f key with
  | none =>
    rw [ho] at hlk
    simp only [Option.getD_none, Option.isSome_none] at hlk
    clear ho
    rcases hz with rfl | rfl | rfl | rfl
    all_goals
      go_enter Try.func18, Try.ntmps18
      go_wp2
      go_ret
      exact ⟨rfl, HB.out⟩
  | some v =>
    rw [ho] at hlk
    simp only [Option.getD_some, Option.isSome_some] at hlk
    clear ho
    rcases hz with rfl | rfl | rfl | rfl
    · go_enter Try.func18, Try.ntmps18
      go_wp2
      go_ret
      exact ⟨rfl, HB.out⟩
    · go_enter Try.func18, Try.ntmps18
      go_wp2
      go_ret
      exact ⟨rfl, HB.out⟩
    · go_enter Try.func18, Try.ntmps18
      go_wp2_with fail
      refine (contains_any a c ss v _ HS.out).mono ?_
      rintro e w' ⟨rfl, rfl⟩
      go_wp2
      go_ret
      exact ⟨by simp [meets], HB.out⟩
    · go_enter Try.func18, Try.ntmps18
      go_wp2_with fail
      refine (contains_any a c ss v _ HS.out).mono ?_
      rintro e w' ⟨rfl, rfl⟩
      go_wp2
      go_ret
      exact ⟨by simp [meets], HB.out⟩

/-- .. through the test's own door. -/
theorem zmatches_any (z : Int) (hz : z = 0 ∨ z = 1 ∨ z = 2 ∨ z = 3) (key : ByteArray) (hm : key.size ≤ maxLen) (a : Option Addr) (c : Nat) (ss : List ByteArray) (r : Option Nat) (f : ByteArray → Option ByteArray) (w : World) (h : SRow w a ss) (hr : MapOf w r f) :
    Calls Try.prog 14 #[.string key, .int .i64 z, .slice a ss.length c, .map r] w fun e w' => e = .returned (.bool (meets z (f key) ss)) ∧ Below w.heap.size w w' := by
  have hbd : ∀ w n, (Instr.build 47 #[(0, .string key), (1, .int .i64 z), (2, .slice a n c)]).run Try.prog w = .ok (.agg #[.string key, .int .i64 z, .slice a n c]) w := fun w n => by kernel_rfl
  have HM : Hid (Calls Try.prog 18 #[.agg #[.string key, .int .i64 z, .slice a ss.length c], .map r] w fun e w' => e = .returned (.bool (meets z (f key) ss)) ∧ Below w.heap.size w w') := matches_any z hz key hm a c ss r f w h hr
  clear h hr hm hz
  go_enter Try.func14, Try.ntmps14
  go_wp2_with fail
  refine HM.out.mono ?_
  rintro e w' ⟨rfl, hb⟩
  have HB : Hid (Below w.heap.size w w') := hb
  clear hb HM
  go_wp2
  go_ret
  exact ⟨rfl, HB.out⟩

theorem toList_inj {a b : ByteArray} (h : a.toList = b.toList) : a = b := by
  rw [ByteArray.toList_eq, ByteArray.toList_eq] at h
  exact klit_inj (by unfold klit; rw [h])

/-- The value that the last of the pairs gives, without a map. -/
theorem lookup_any (key : ByteArray) (ka va : Option Addr) (kc vc : Nat) (ks vs : List ByteArray) (w : World) (hk : SRow w ka ks) (hv : SRow w va vs) (hl : ks.length = vs.length) (hm : ks.length ≤ 1048576) :
    Calls Try.prog 16 #[.string key, .slice ka ks.length kc, .slice va vs.length vc] w fun e w' => e = .returned (.tuple #[.string ((lastN ks vs key ks.length).getD ByteArray.empty), .bool (lastN ks vs key ks.length).isSome]) ∧ w = w' := by
  have HK : Hid (SRow w ka ks) := hk
  have HV : Hid (SRow w va vs) := hv
  have HL : Hid (ks.length = vs.length) := hl
  obtain ⟨o, ho⟩ : ∃ o, o = lastN ks vs key ks.length := ⟨_, rfl⟩
  rw [← ho]
  have HO : Hid (o = lastN ks vs key ks.length) := ho
  clear hk hv hl ho
  go_enter Try.func16, Try.ntmps16
  go_wp2
  go_loop [8] (fun i => ∃ j : Nat, i = .int .i64 ((j : Int) - 1) ∧ j ≤ ks.length ∧ Hid (o = lastN ks vs key j)) (fun i => (intOf i + 1).toNat)
  case atStart => exact ⟨ks.length, rfl, Nat.le_refl _, HO⟩
  case round =>
    obtain ⟨j, rfl, hj, HJ⟩ := hrel
    cases j with
    | zero =>
      have e := HJ.out
      simp only [lastN] at e
      subst e
      go_wp2
      go_ret2
      exact ⟨rfl, rfl⟩
    | succ j =>
      have hjn : j < ks.length := by omega
      obtain ⟨b, o1, rfl, hc⟩ := HK.out.cell hjn
      obtain ⟨b', o2, rfl, hc'⟩ := HV.out.cell (j := j) (by rw [← HL.out]; exact hjn)
      have e := HJ.out
      simp only [lastN] at e
      generalize ks.getD j ByteArray.empty = s1 at hc e
      generalize vs.getD j ByteArray.empty = s2 at hc' e
      have hb1 : (j : Int) < (ks.length : Int) := by omega
      have hb2 : (j : Int) < (vs.length : Int) := by have := HL.out; omega
      rw [show ((j + 1 : Nat) : Int) - 1 = (j : Int) by omega]
      by_cases he : s1 = key
      · rw [if_pos he] at e
        subst e
        subst he
        go_wp2
        go_ret2
        exact ⟨rfl, rfl⟩
      · rw [if_neg he] at e
        have HE : Hid (o = lastN ks vs key j) := e
        have hbe : (s1.toList == key.toList) = false := by simpa using fun e => he (toList_inj e)
        clear e he HJ
        go_wp2
        go_round
        case rel => exact ⟨j, rfl, by omega, HE⟩
        case measure => simp [intOf]
end Go.Proofs.Qxb6606378a
