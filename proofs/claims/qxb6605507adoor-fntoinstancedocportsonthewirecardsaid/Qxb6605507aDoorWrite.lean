/-
  THE WRITERS: a port as JSON and as XML, onto a slice that the call owns: what comes back owns the old cells and, behind them, the port's bytes.
-/
import Derived.Test.Qxb6605507aDoorShelf
import Derived.Test.Qxb6605507aDoorRows
import Derived.WalkKit
import Derived.Below
import Derived.Lib.AppendStr
import Derived.Lib.UnsafeStr
import Derived.Lib.ItoaLen
import Derived.Lib.AppendIntMem
import Derived.KernelRfl
namespace Go.Proofs.Qxb6605507aDoor
open Go.RowKit Go.Lib

theorem info5 : (Tryd.prog.info? 5).map (fun i => (i.zero, i.size, i.bytes)) = some (some (.int .u8 0), 1, 1) := by kernel_rfl

def flagBytes : Bool → List UInt8
  | true => [34, 116, 114, 117, 101, 34]
  | false => [34, 102, 97, 108, 115, 101, 34]
def boolBytes : Bool → List UInt8
  | true => [116, 114, 117, 101]
  | false => [102, 97, 108, 115, 101]

/-- WHAT A WRITER LEAVES -/
def Wrote (B : Nat) (w : World) (n : Nat) (xs : List Value) (l : List UInt8) (e : Ending) (w' : World) : Prop :=
  ∃ v', e = .returned v' ∧ w'.ownsRow B 5 1 v' (n + l.length) (xs ++ byteCells l) ∧ Below B w w'

theorem own_eq {w : World} {B : Nat} {v : Value} {n n' : Nat} {xs xs' : List Value} (h : w.ownsRow B 5 1 v n xs) (hn : n = n') (hx : xs = xs') : w.ownsRow B 5 1 v n' xs' := by
  subst hn; subst hx; exact h

/-- 'append(b, "text"...)' onto an owned row of bytes. -/
theorem appStr {ops : Array Oper} {rest : List Oper} {o : Oper} {a : Act} {Q : Exit → Act → World → Prop} (w : World) (hgd : o.guard = none) (sl x : Operand)
    (ho : o.op = .call { callee := .builtin .append, args := #[sl, x], argTypes := #[60, 9] })
    (B n : Nat) (v : Value) (xs : List Value) (hs : a.eval sl = v) (hown : w.ownsRow B 5 1 v n xs) (s : ByteArray) (hx : a.eval x = .string s) (l : List UInt8) (hl : s.data.toList = l)
    (hn : n + l.length ≤ 100000) (hbase : B ≤ w.heap.size)
    (h : ∀ v' w', w'.ownsRow B 5 1 v' (n + l.length) (xs ++ byteCells l) → Below B w w' → B ≤ w'.heap.size → wpList Tryd.prog ops Q rest (a.put o.dst v') w') : wpList Tryd.prog ops Q (o :: rest) a w := by
  obtain ⟨i0, hi, hz0, hz1, hz2⟩ := info_parts info5
  have hsz : s.size = l.length := by rw [← hl, Array.length_toList]; rfl
  refine wpList_append_own_string w hgd sl x 60 9 ho B 5 i0 Tryd.underlying60 Tryd.underlying9 hi hz0 hz1 hz2 v n xs hs hown s hx (by unfold maxLen; omega) (by omega) hbase fun v' w' h1 h2 _ => ?_
  have e : strCells s = byteCells l := by rw [strCells_eq, hl]
  rw [e, hsz] at h1
  have hb : Below B w w' := (Below.refl B w).grown h2 hbase (fun k hk => (hown.lt k hk).1)
  exact h v' w' h1 hb (Nat.le_trans hbase hb.size)

/-- 'append(b, 'c')' onto an owned row of bytes: the byte lies in the block that was laid last. -/
theorem appByte {ops : Array Oper} {rest : List Oper} {o : Oper} {a : Act} {Q : Exit → Act → World → Prop} (w : World) (ob : Obj) (hgd : o.guard = none) (sl x : Operand)
    (ho : o.op = .call { callee := .builtin .append, args := #[sl, x], argTypes := #[60, 60] })
    (B n : Nat) (v : Value) (xs : List Value) (hs : a.eval sl = v) (hown : w.ownsRow B 5 1 v n xs) (c : UInt8) (k : Nat) (hx : a.eval x = .slice (some ⟨k, 0, none⟩) 1 1) (hc : (w.alloc ob).cell? ⟨k, 0, none⟩ = some (.int .u8 c.toNat))
    (hn : n + 1 ≤ 100000) (hbase : B ≤ w.heap.size)
    (h : ∀ v' w', w'.ownsRow B 5 1 v' (n + 1) (xs ++ byteCells [c]) → Below B w w' → B ≤ w'.heap.size → wpList Tryd.prog ops Q rest (a.put o.dst v') w') : wpList Tryd.prog ops Q (o :: rest) a (w.alloc ob) := by
  obtain ⟨i0, hi, hz0, hz1, hz2⟩ := info_parts info5
  refine wpList_append_own (w.alloc ob) hgd sl x 60 ho B 5 i0 (.int .u8 0) 1 1 Tryd.underlying60 hi hz0 hz1 hz2 rfl (by decide) v n xs hs (hown.alloc ob) ⟨k, 0, none⟩ 1 1 (byteCells [c]) hx rfl ?_ ?_ (by unfold maxLen; omega) (by omega) (by simp; omega) fun v' w' h1 h2 _ => ?_
  · intro j u hj
    match j, hj with
    | 0, hj => simp [byteCells] at hj; subst hj; exact hc
  · intro u hu; simp [byteCells] at hu; subst hu; rfl
  have hb0 : Below B w (w.alloc ob) := (Below.refl B w).alloc hbase ob
  have hb : Below B w w' := hb0.grown h2 (by simp; omega) (fun k hk => ((hown.alloc ob).lt k hk).1)
  exact h v' w' h1 hb (Nat.le_trans hbase hb.size)

set_option maxHeartbeats 400000 in
theorem flag_any (B n : Nat) (f : Bool) (sv : Value) (xs : List Value) (w : World) (hown : w.ownsRow B 5 1 sv n xs) (hBw : B ≤ w.heap.size) (hlim : n ≤ 1000) :
    Calls Tryd.prog 34 #[.bool f, sv] w (Wrote B w n xs (flagBytes f)) := by
  cases f
  all_goals
    go_enter Tryd.func34, Tryd.ntmps34
    go_wp2_with (at_builtin; refine appStr _ rfl _ _ rfl B n _ xs rfl hown _ rfl _ rfl (by simp; omega) hBw ?_)
    intro v' w' h1 h2 h3
    go_wp2
    go_ret
    exact ⟨v', rfl, h1, h2⟩

set_option maxHeartbeats 400000 in
theorem bool_in (B n : Nat) (f : Bool) (sv : Value) (xs : List Value) (w : World) (hown : w.ownsRow B 5 1 sv n xs) (hBw : B ≤ w.heap.size) (hlim : n ≤ 1000) :
    Calls Tryd.prog 38 #[sv, .bool f] w (Wrote B w n xs (boolBytes f)) := by
  cases f
  all_goals
    go_enter Tryd.func38, Tryd.ntmps38
    go_wp2_with (at_builtin; refine appStr _ rfl _ _ rfl B n _ xs rfl hown _ rfl _ rfl (by simp; omega) hBw ?_)
    intro v' w' h1 h2 h3
    go_wp2
    go_ret
    exact ⟨v', rfl, h1, h2⟩

set_option maxHeartbeats 400000 in
theorem bool_any (B n : Nat) (f : Bool) (sv : Value) (xs : List Value) (w : World) (hown : w.ownsRow B 5 1 sv n xs) (hBw : B ≤ w.heap.size) (hlim : n ≤ 1000) :
    Calls Tryd.prog 35 #[sv, .bool f] w (Wrote B w n xs (boolBytes f)) := by
  go_enter Tryd.func35, Tryd.ntmps35
  go_wp2_with (go_at_call 38; refine (bool_in B n f sv xs _ hown hBw hlim).mono ?_; rintro e w' ⟨v', rfl, h1, h2⟩)
  go_wp2
  go_ret
  exact ⟨v', rfl, h1, h2⟩

set_option maxHeartbeats 400000 in
theorem endTag_any (B n : Nat) (s : ByteArray) (hs : s.size ≤ 100) (sv : Value) (xs : List Value) (w : World) (hown : w.ownsRow B 5 1 sv n xs) (hBw : B ≤ w.heap.size) (hlim : n ≤ 1000) :
    Calls Tryd.prog 36 #[sv, .string s] w (Wrote B w n xs ([60, 47] ++ s.data.toList ++ [62])) := by
  have hsl : s.data.toList.length = s.size := by rw [Array.length_toList]; rfl
  go_enter Tryd.func36, Tryd.ntmps36
  go_wp2_with (at_builtin; refine appStr _ rfl _ _ rfl B n _ xs rfl hown _ rfl _ rfl (by simp; omega) hBw ?_)
  intro v1 w1 h1 b1 z1
  go_wp2_with (at_builtin; refine appStr _ rfl _ _ rfl B _ _ _ rfl h1 _ rfl _ rfl (by simp; omega) z1 ?_)
  intro v2 w2 h2 b2 z2
  go_wp2_with (at_builtin; refine appByte _ _ rfl _ _ rfl B _ _ _ rfl h2 62 _ rfl (by simp) (by simp; omega) z2 ?_)
  intro v3 w3 h3 b3 z3
  go_wp2
  go_ret
  refine ⟨v3, rfl, ?_, (b1.trans b2).trans b3⟩
  exact own_eq h3 (by simp; omega) (by simp [byteCells])

/-- the table of powers of ten, as the row lists it -/
def powName : String := Rows.fnToInstanceDocPortsOnTheWireRow.named.headD ""
def Pow (w : World) : Prop := TabIs Tryd.prog w powName .u64 pow10Tab
theorem Pow.on {w w' : World} (h : Pow w) (hb : Below w.heap.size w w') : Pow w' := tabBelow_of_tabIs h w' hb

def jsonBytes (n : Int) (f : Bool) : List UInt8 := [123, 34, 36, 34, 58] ++ itoa n ++ [44, 34, 64, 101, 110, 97, 98, 108, 101, 100, 34, 58] ++ flagBytes f ++ [125]
def xmlBytes (s : List UInt8) (n : Int) (f : Bool) : List UInt8 := [60] ++ s ++ [32, 101, 110, 97, 98, 108, 101, 100, 61, 34] ++ boolBytes f ++ [34, 62] ++ itoa n ++ ([60, 47] ++ s ++ [62])

theorem flag_len (f : Bool) : (flagBytes f).length ≤ 7 := by cases f <;> decide
theorem bool_len (f : Bool) : (boolBytes f).length ≤ 7 := by cases f <;> decide

theorem own_mono {w : World} {B B' : Nat} {v : Value} {n : Nat} {xs : List Value} (h : w.ownsRow B 5 1 v n xs) (hB : B' ≤ B) : w.ownsRow B' 5 1 v n xs := by
  obtain ⟨hl, h0 | ⟨g, cap, cur, hv, hb, r⟩⟩ := h
  · exact ⟨hl, .inl h0⟩
  · exact ⟨hl, .inr ⟨g, cap, cur, hv, Nat.le_trans hB hb, r⟩⟩

/-- WHAT A WRITER THAT BEGINS WITH nil LEAVES -/
def WroteNew (w : World) (l : List UInt8) (e : Ending) (w' : World) : Prop :=
  ∃ v', e = .returned v' ∧ w'.ownsRow w.heap.size 5 1 v' l.length (byteCells l) ∧ Below w.heap.size w w'

theorem int_any (B n : Nat) (i : Int) (h0 : -9223372036854775808 ≤ i) (h1 : i ≤ 9223372036854775807) (sv : Value) (xs : List Value) (w : World) (hown : w.ownsRow B 5 1 sv n xs) (hBw : B ≤ w.heap.size) (hlim : n ≤ 1000) (hp : TabBelow Tryd.prog B w powName .u64 pow10Tab) :
    Calls Tryd.prog 33 #[sv, .int .i64 i, .int .i64 10] w (Wrote B w n xs (itoa i)) := by
  have hp' : TabBelow Tryd.prog B w _ .u64 pow10Tab := hp
  have hc := Any.strconv_AppendInt_10 Tryd.laysM176 B n i h0 h1 sv xs w hown hBw (by omega) hp'
  have hc' : Calls Tryd.prog 33 #[sv, .int .i64 i, .int .i64 10] w _ := hc
  refine hc'.mono ?_
  rintro e w' ⟨v', he, h2, h3, _⟩
  exact ⟨v', he, h2, h3⟩

set_option maxHeartbeats 1000000 in
theorem json_in (n : Int) (h0 : -9223372036854775808 ≤ n) (h1 : n ≤ 9223372036854775807) (f : Bool) (w : World) (hp : Pow w) :
    Calls Tryd.prog 30 #[.agg #[.int .i64 n, .bool f], .slice none 0 0] w (WroteNew w (jsonBytes n f)) := by
  have hil := itoa_length_le n h0 h1
  have hfl := flag_len f
  have b0 : Below w.heap.size w (w.alloc (.cells #[.int .i64 n, .bool f] 40)) := (Below.refl _ w).alloc (Nat.le_refl _) _
  have hp0 := hp.on b0
  have z0 : w.heap.size + 1 ≤ (w.alloc (.cells #[.int .i64 n, .bool f] 40)).heap.size := by simp
  have hp1 : TabBelow Tryd.prog (w.heap.size + 1) (w.alloc (.cells #[.int .i64 n, .bool f] 40)) powName .u64 pow10Tab := by
    have := tabBelow_of_tabIs hp0; simpa using this
  have cn : (w.alloc (.cells #[.int .i64 n, .bool f] 40)).cell? ⟨w.heap.size, 0, none⟩ = some (.int .i64 n) := by simp
  have cf : (w.alloc (.cells #[.int .i64 n, .bool f] 40)).cell? ⟨w.heap.size, 1, none⟩ = some (.bool f) := by simp
  have HP : Hid (TabBelow Tryd.prog (w.heap.size + 1) (w.alloc (.cells #[.int .i64 n, .bool f] 40)) powName .u64 pow10Tab) := hp1
  have HB : Hid (Below w.heap.size w (w.alloc (.cells #[.int .i64 n, .bool f] 40))) := b0
  clear hp hp0 hp1 b0
  go_enter Tryd.func30, Tryd.ntmps30
  go_wp2_with (at_builtin; refine appStr _ rfl _ _ rfl (w.heap.size + 1) 0 _ [] rfl (World.ownsRow_nil _ _ _ _) _ rfl _ rfl (by simp) z0 ?_)
  intro v1 w1 o1 b1 z1
  have cn1 : w1.cell? ⟨w.heap.size, 0, none⟩ = some (.int .i64 n) := (b1.cell (by simp)).trans cn
  have cf1 : w1.cell? ⟨w.heap.size, 1, none⟩ = some (.bool f) := (b1.cell (by simp)).trans cf
  clear cn cf z0
  have HP1 : Hid (TabBelow Tryd.prog (w.heap.size + 1) w1 powName .u64 pow10Tab) := HP.out.on b1
  have HB1 : Hid (Below w.heap.size w w1) := HB.out.trans (b1.mono (by omega))
  clear HP HB b1
  go_wp2_with fail
  refine (int_any (w.heap.size + 1) 5 n h0 h1 v1 (byteCells [123, 34, 36, 34, 58]) w1 o1 z1 (by omega) HP1.out).mono ?_
  rintro e w2 ⟨v2, rfl, o2, b2⟩
  have cf2 : w2.cell? ⟨w.heap.size, 1, none⟩ = some (.bool f) := (b2.cell (by simp)).trans cf1
  have z2 := Nat.le_trans z1 b2.size
  have HB2 : Hid (Below w.heap.size w w2) := HB1.out.trans (b2.mono (by omega))
  clear HB1 HP1 b2 o1 z1 cn1 cf1
  go_wp2_with (at_builtin; refine appStr _ rfl _ _ rfl (w.heap.size + 1) _ _ _ rfl o2 _ rfl _ rfl (by simp; omega) z2 ?_)
  intro v3 w3 o3 b3 z3
  have cf3 : w3.cell? ⟨w.heap.size, 1, none⟩ = some (.bool f) := (b3.cell (by simp)).trans cf2
  have HB3 : Hid (Below w.heap.size w w3) := HB2.out.trans (b3.mono (by omega))
  clear HB2 b3 o2 z2 cf2
  go_wp2_with fail
  refine (flag_any (w.heap.size + 1) _ f v3 _ w3 o3 z3 (by simp; omega)).mono ?_
  rintro e w4 ⟨v4, rfl, o4, b4⟩
  have z4 := Nat.le_trans z3 b4.size
  have HB4 : Hid (Below w.heap.size w w4) := HB3.out.trans (b4.mono (by omega))
  clear HB3 b4 o3 z3 cf3
  go_wp2_with (at_builtin; refine appByte _ _ rfl _ _ rfl (w.heap.size + 1) _ _ _ rfl o4 125 _ rfl (by simp) (by simp; omega) z4 ?_)
  intro v5 w5 o5 b5 z5
  go_wp2
  go_ret
  refine ⟨v5, rfl, own_mono (own_eq o5 ?_ ?_) (by omega), HB4.out.trans (b5.mono (by omega))⟩
  · simp [jsonBytes]; omega
  · simp [jsonBytes, byteCells]

set_option maxHeartbeats 1000000 in
theorem json_any (n : Int) (h0 : -9223372036854775808 ≤ n) (h1 : n ≤ 9223372036854775807) (f : Bool) (w : World) (hp : Pow w) :
    Calls Tryd.prog 14 #[.agg #[.int .i64 n, .bool f], .slice none 0 0] w (WroteNew w (jsonBytes n f)) := by
  have b0 : Below w.heap.size w (w.alloc (.cells #[.int .i64 n, .bool f] 40)) := (Below.refl _ w).alloc (Nat.le_refl _) _
  have hp0 := hp.on b0
  have HP : Hid (Pow (w.alloc (.cells #[.int .i64 n, .bool f] 40))) := hp0
  have HB : Hid (Below w.heap.size w (w.alloc (.cells #[.int .i64 n, .bool f] 40))) := b0
  clear hp hp0 b0
  go_enter Tryd.func14, Tryd.ntmps14
  go_wp2_with fail
  refine (json_in n h0 h1 f _ HP.out).mono ?_
  rintro e w1 ⟨v1, rfl, o1, b1⟩
  go_wp2
  go_ret
  exact ⟨v1, rfl, own_mono o1 (by simp), HB.out.trans (b1.mono (by simp))⟩

set_option maxHeartbeats 1000000 in
theorem xml_in (s : ByteArray) (hs : s.size ≤ 100) (n : Int) (h0 : -9223372036854775808 ≤ n) (h1 : n ≤ 9223372036854775807) (f : Bool) (w : World) (hp : Pow w) :
    Calls Tryd.prog 31 #[.agg #[.int .i64 n, .bool f], .slice none 0 0, .string s] w (WroteNew w (xmlBytes s.data.toList n f)) := by
  have hsl : s.data.toList.length = s.size := by rw [Array.length_toList]; rfl
  have hil := itoa_length_le n h0 h1
  have hfl := bool_len f
  have b0 : Below w.heap.size w (w.alloc (.cells #[.int .i64 n, .bool f] 40)) := (Below.refl _ w).alloc (Nat.le_refl _) _
  have hp0 := hp.on b0
  have z0 : w.heap.size + 1 ≤ (w.alloc (.cells #[.int .i64 n, .bool f] 40)).heap.size := by simp
  have hp1 : TabBelow Tryd.prog (w.heap.size + 1) (w.alloc (.cells #[.int .i64 n, .bool f] 40)) powName .u64 pow10Tab := by
    have := tabBelow_of_tabIs hp0; simpa using this
  have cn : (w.alloc (.cells #[.int .i64 n, .bool f] 40)).cell? ⟨w.heap.size, 0, none⟩ = some (.int .i64 n) := by simp
  have cf : (w.alloc (.cells #[.int .i64 n, .bool f] 40)).cell? ⟨w.heap.size, 1, none⟩ = some (.bool f) := by simp
  have HP : Hid (TabBelow Tryd.prog (w.heap.size + 1) (w.alloc (.cells #[.int .i64 n, .bool f] 40)) powName .u64 pow10Tab) := hp1
  have HB : Hid (Below w.heap.size w (w.alloc (.cells #[.int .i64 n, .bool f] 40))) := b0
  clear hp hp0 hp1 b0
  go_enter Tryd.func31, Tryd.ntmps31
  go_wp2_with (at_builtin; refine appByte _ _ rfl _ _ rfl (w.heap.size + 1) 0 _ [] rfl (World.ownsRow_nil _ _ _ _) 60 _ rfl (by simp) (by simp) z0 ?_)
  intro v1 w1 o1 b1 z1
  have cn1 : w1.cell? ⟨w.heap.size, 0, none⟩ = some (.int .i64 n) := (b1.cell (by simp)).trans cn
  have cf1 : w1.cell? ⟨w.heap.size, 1, none⟩ = some (.bool f) := (b1.cell (by simp)).trans cf
  have HP1 : Hid (TabBelow Tryd.prog (w.heap.size + 1) w1 powName .u64 pow10Tab) := HP.out.on b1
  have HB1 : Hid (Below w.heap.size w w1) := HB.out.trans (b1.mono (by omega))
  clear cn cf z0 HP HB b1
  go_wp2_with (at_builtin; refine appStr _ rfl _ _ rfl (w.heap.size + 1) _ _ _ rfl o1 _ rfl _ rfl (by simp; omega) z1 ?_)
  intro v2 w2 o2 b2 z2
  have cn2 : w2.cell? ⟨w.heap.size, 0, none⟩ = some (.int .i64 n) := (b2.cell (by simp)).trans cn1
  have cf2 : w2.cell? ⟨w.heap.size, 1, none⟩ = some (.bool f) := (b2.cell (by simp)).trans cf1
  have HP2 : Hid (TabBelow Tryd.prog (w.heap.size + 1) w2 powName .u64 pow10Tab) := HP1.out.on b2
  have HB2 : Hid (Below w.heap.size w w2) := HB1.out.trans (b2.mono (by omega))
  clear cn1 cf1 z1 HP1 HB1 b2 o1
  go_wp2_with (at_builtin; refine appStr _ rfl _ _ rfl (w.heap.size + 1) _ _ _ rfl o2 _ rfl _ rfl (by simp; omega) z2 ?_)
  intro v3 w3 o3 b3 z3
  have cn3 : w3.cell? ⟨w.heap.size, 0, none⟩ = some (.int .i64 n) := (b3.cell (by simp)).trans cn2
  have cf3 : w3.cell? ⟨w.heap.size, 1, none⟩ = some (.bool f) := (b3.cell (by simp)).trans cf2
  have HP3 : Hid (TabBelow Tryd.prog (w.heap.size + 1) w3 powName .u64 pow10Tab) := HP2.out.on b3
  have HB3 : Hid (Below w.heap.size w w3) := HB2.out.trans (b3.mono (by omega))
  clear cn2 cf2 z2 HP2 HB2 b3 o2
  go_wp2_with fail
  refine (bool_any (w.heap.size + 1) _ f v3 _ w3 o3 z3 (by simp; omega)).mono ?_
  rintro e w4 ⟨v4, rfl, o4, b4⟩
  have z4 := Nat.le_trans z3 b4.size
  have cn4 : w4.cell? ⟨w.heap.size, 0, none⟩ = some (.int .i64 n) := (b4.cell (by simp)).trans cn3
  have HP4 : Hid (TabBelow Tryd.prog (w.heap.size + 1) w4 powName .u64 pow10Tab) := HP3.out.on b4
  have HB4 : Hid (Below w.heap.size w w4) := HB3.out.trans (b4.mono (by omega))
  clear cn3 cf3 z3 HP3 HB3 b4 o3
  go_wp2_with (at_builtin; refine appStr _ rfl _ _ rfl (w.heap.size + 1) _ _ _ rfl o4 _ rfl _ rfl (by simp; omega) z4 ?_)
  intro v5 w5 o5 b5 z5
  have cn5 : w5.cell? ⟨w.heap.size, 0, none⟩ = some (.int .i64 n) := (b5.cell (by simp)).trans cn4
  have HP5 : Hid (TabBelow Tryd.prog (w.heap.size + 1) w5 powName .u64 pow10Tab) := HP4.out.on b5
  have HB5 : Hid (Below w.heap.size w w5) := HB4.out.trans (b5.mono (by omega))
  clear cn4 z4 HP4 HB4 b5 o4
  go_wp2_with fail
  refine (int_any (w.heap.size + 1) _ n h0 h1 v5 _ w5 o5 z5 (by simp; omega) HP5.out).mono ?_
  rintro e w6 ⟨v6, rfl, o6, b6⟩
  have z6 := Nat.le_trans z5 b6.size
  have HB6 : Hid (Below w.heap.size w w6) := HB5.out.trans (b6.mono (by omega))
  clear cn5 z5 HP5 HB5 b6 o5
  go_wp2_with fail
  refine (endTag_any (w.heap.size + 1) _ s hs v6 _ w6 o6 z6 (by omega)).mono ?_
  rintro e w7 ⟨v7, rfl, o7, b7⟩
  go_wp2
  go_ret
  refine ⟨v7, rfl, own_mono (own_eq o7 ?_ ?_) (by omega), HB6.out.trans (b7.mono (by omega))⟩
  · simp [xmlBytes]; omega
  · simp [xmlBytes, byteCells]

set_option maxHeartbeats 1000000 in
theorem xml_any (s : ByteArray) (hs : s.size ≤ 100) (n : Int) (h0 : -9223372036854775808 ≤ n) (h1 : n ≤ 9223372036854775807) (f : Bool) (w : World) (hp : Pow w) :
    Calls Tryd.prog 16 #[.agg #[.int .i64 n, .bool f], .slice none 0 0, .string s] w (WroteNew w (xmlBytes s.data.toList n f)) := by
  have b0 : Below w.heap.size w (w.alloc (.cells #[.int .i64 n, .bool f] 40)) := (Below.refl _ w).alloc (Nat.le_refl _) _
  have hp0 := hp.on b0
  have HP : Hid (Pow (w.alloc (.cells #[.int .i64 n, .bool f] 40))) := hp0
  have HB : Hid (Below w.heap.size w (w.alloc (.cells #[.int .i64 n, .bool f] 40))) := b0
  clear hp hp0 b0
  go_enter Tryd.func16, Tryd.ntmps16
  go_wp2_with fail
  refine (xml_in s hs n h0 h1 f _ HP.out).mono ?_
  rintro e w1 ⟨v1, rfl, o1, b1⟩
  go_wp2
  go_ret
  exact ⟨v1, rfl, own_mono o1 (by simp), HB.out.trans (b1.mono (by simp))⟩
end Go.Proofs.Qxb6605507aDoor
