/-
  THE READERS OF A WHOLE PORT: readJSONPort, readXMLPort.
-/
import Derived.Test.Qxb6605507aDoorRead2
import Derived.Test.Qxb6605507aDoorWrite
namespace Go.Proofs.Qxb6605507aDoor
open Go.RowKit Go.Lib

theorem RowOf.drewN {w : World} {g : Nat} {L : List UInt8} (h : RowOf w g L) (n : Nat) : RowOf (w.drewN n) g L := h

theorem eat_y (g cap : Nat) (L : List UInt8) (z : Int) (i r : Nat) (lit : ByteArray) (w : World) (hR : RowOf w g L) (hz : z = i) (hr : i + lit.size = r) (hi : r ≤ L.length) (hL : L.length ≤ 100000) (hlit : lit.size ≤ 1000) (hh : hasB L i lit.data.toList = true) :
    Calls Tryd.prog 28 #[.slice (some ⟨g, 0, none⟩) L.length cap, .int .i64 z, .string lit] w fun e w' => e = .returned (.tuple #[.int .i64 (r : Int), .bool true]) ∧ ∃ n, w' = w.drewN n := by
  subst hz; subst hr; exact eat_yes g cap L i lit w hR (by omega) hL hlit hh
theorem eat_n (g cap : Nat) (L : List UInt8) (z : Int) (i : Nat) (lit : ByteArray) (w : World) (hR : RowOf w g L) (hz : z = i) (hi : i ≤ L.length) (hL : L.length ≤ 100000) (hlit : lit.size ≤ 1000) (hh : hasB L i lit.data.toList = false) :
    Calls Tryd.prog 28 #[.slice (some ⟨g, 0, none⟩) L.length cap, .int .i64 z, .string lit] w fun e w' => e = .returned (.tuple #[.int .i64 (i : Int), .bool false]) ∧ ∃ n, w' = w.drewN n := by
  subst hz; exact eat_no g cap L i lit w hR hi hL hlit hh
theorem int_y (g cap : Nat) (L : List UInt8) (z : Int) (st r : Nat) (n : Int) (w : World) (hR : RowOf w g L) (hz : z = st) (hr : st + (itoa n).length = r) (hL : L.length ≤ 100000) (h0 : -9223372036854775808 ≤ n) (h1 : n ≤ 9223372036854775807) (hN : NumAt L st (itoa n)) :
    Calls Tryd.prog 29 #[.slice (some ⟨g, 0, none⟩) L.length cap, .int .i64 z] w fun e w' => e = .returned (.tuple #[.int .i64 n, .int .i64 (r : Int), .bool true]) ∧ w' = w := by
  subst hz; subst hr; exact int_any_at g cap L st n w hR hL h0 h1 hN

/-! ### what stands where in the written bytes -/
theorem hasB_app (A lit R : List UInt8) : hasB (A ++ (lit ++ R)) A.length lit = true := by
  unfold hasB
  rw [decide_eq_true_iff, List.drop_left, List.take_left]
theorem numAt_app (A D R : List UInt8) (c : UInt8) (hc : ¬ (48 ≤ c.toNat ∧ c.toNat ≤ 57)) : NumAt (A ++ (D ++ (c :: R))) A.length D := by
  refine ⟨by simp, fun t ht => ?_, ?_⟩
  · simp [List.getD, List.getElem?_append_right, List.getElem?_append_left ht]
  · have e : (A ++ (D ++ (c :: R))).getD (A.length + D.length) 0 = c := by simp [List.getD]
    rw [e]; exact hc

set_option maxHeartbeats 1000000 in
theorem readJSON_core (g cap : Nat) (L : List UInt8) (n : Int) (h0 : -9223372036854775808 ≤ n) (h1 : n ≤ 9223372036854775807) (f : Bool) (k m : Nat) (w : World) (hR : RowOf w g L) (hL : L.length ≤ 100000)
    (e1 : hasB L 0 [123, 34, 36, 34, 58] = true) (e2 : NumAt L 5 (itoa n)) (hk : 5 + (itoa n).length = k) (e3 : hasB L k [44, 34, 64, 101, 110, 97, 98, 108, 101, 100, 34, 58] = true)
    (e4 : hasB L (k + 12) [34, 116, 114, 117, 101, 34] = f) (e5 : f = false → hasB L (k + 12) [34, 102, 97, 108, 115, 101, 34] = true) (hm : k + 12 + (flagBytes f).length = m) (e6 : hasB L m [125] = true) (hl : m + 1 = L.length) :
    Calls Tryd.prog 13 #[.slice (some ⟨g, 0, none⟩) L.length cap] w fun e w' => e = .returned (.tuple #[.int .i64 n, .bool f, .bool true]) ∧ ∃ q, w' = w.drewN q := by
  have HK : Hid (5 + (itoa n).length = k) := hk
  have hml : (m : Int) + 1 ≤ L.length := by omega
  have hlm : (L.length : Int) ≤ (m : Int) + 1 := by omega
  have H1 : Hid (hasB L 0 [123, 34, 36, 34, 58] = true) := e1
  have H3 : Hid (hasB L k [44, 34, 64, 101, 110, 97, 98, 108, 101, 100, 34, 58] = true) := e3
  have H4 : Hid (hasB L (k + 12) [34, 116, 114, 117, 101, 34] = f) := e4
  have H6 : Hid (hasB L m [125] = true) := e6
  cases f
  · have HM : Hid (k + 12 + 7 = m) := hm
    have H5 : Hid (hasB L (k + 12) [34, 102, 97, 108, 115, 101, 34] = true) := e5 rfl
    have hkm : k + 19 ≤ m := by simp [flagBytes] at hm; omega
    clear e1 e3 e4 e5 e6 hk hm hl
    go_enter Tryd.func13, Tryd.ntmps13
    go_wp2_with fail
    refine (eat_y g cap L _ 0 5 _ w hR rfl rfl (by omega) hL (by decide) H1.out).mono ?_
    rintro e w1 ⟨rfl, q1, rfl⟩
    go_wp2_with fail
    refine (int_y g cap L _ 5 k n _ (hR.drewN _) rfl HK.out hL h0 h1 e2).mono ?_
    rintro e w2 ⟨rfl, rfl⟩
    go_wp2_with fail
    refine (eat_y g cap L _ k (k + 12) _ _ (hR.drewN _) rfl rfl (by omega) hL (by decide) H3.out).mono ?_
    rintro e w1 ⟨rfl, q3, rfl⟩
    go_wp2_with fail
    refine (eat_n g cap L _ (k + 12) _ _ (hR.drewN _) (by omega) (by omega) hL (by decide) H4.out).mono ?_
    rintro e w1 ⟨rfl, q4, rfl⟩
    go_wp2_with fail
    refine (eat_y g cap L _ (k + 12) m _ _ (hR.drewN _) (by omega) (by exact HM.out) (by omega) hL (by decide) H5.out).mono ?_
    rintro e w1 ⟨rfl, q5, rfl⟩
    go_wp2_with fail
    refine (eat_y g cap L _ m (m + 1) _ _ (hR.drewN _) rfl rfl (by omega) hL (by decide) H6.out).mono ?_
    rintro e w1 ⟨rfl, q6, rfl⟩
    go_wp2
    go_ret3
    exact ⟨rfl, _, rfl⟩
  · have HM : Hid (k + 12 + 6 = m) := hm
    have hkm : k + 18 ≤ m := by simp [flagBytes] at hm; omega
    clear e1 e3 e4 e5 e6 hk hm hl
    go_enter Tryd.func13, Tryd.ntmps13
    go_wp2_with fail
    refine (eat_y g cap L _ 0 5 _ w hR rfl rfl (by omega) hL (by decide) H1.out).mono ?_
    rintro e w1 ⟨rfl, q1, rfl⟩
    go_wp2_with fail
    refine (int_y g cap L _ 5 k n _ (hR.drewN _) rfl HK.out hL h0 h1 e2).mono ?_
    rintro e w2 ⟨rfl, rfl⟩
    go_wp2_with fail
    refine (eat_y g cap L _ k (k + 12) _ _ (hR.drewN _) rfl rfl (by omega) hL (by decide) H3.out).mono ?_
    rintro e w1 ⟨rfl, q3, rfl⟩
    go_wp2_with fail
    refine (eat_y g cap L _ (k + 12) m _ _ (hR.drewN _) (by omega) (by exact HM.out) (by omega) hL (by decide) H4.out).mono ?_
    rintro e w1 ⟨rfl, q5, rfl⟩
    go_wp2_with fail
    refine (eat_y g cap L _ m (m + 1) _ _ (hR.drewN _) rfl rfl (by omega) hL (by decide) H6.out).mono ?_
    rintro e w1 ⟨rfl, q6, rfl⟩
    go_wp2
    go_ret3
    exact ⟨rfl, _, rfl⟩

theorem readJSON_any (g cap : Nat) (n : Int) (h0 : -9223372036854775808 ≤ n) (h1 : n ≤ 9223372036854775807) (f : Bool) (w : World) (hR : RowOf w g (jsonBytes n f)) :
    Calls Tryd.prog 13 #[.slice (some ⟨g, 0, none⟩) (jsonBytes n f).length cap] w fun e w' => e = .returned (.tuple #[.int .i64 n, .bool f, .bool true]) ∧ ∃ q, w' = w.drewN q := by
  have hil := itoa_length_le n h0 h1
  have hfl := flag_len f
  have q1 : jsonBytes n f = [] ++ ([123, 34, 36, 34, 58] ++ (itoa n ++ [44, 34, 64, 101, 110, 97, 98, 108, 101, 100, 34, 58] ++ flagBytes f ++ [125])) := by simp [jsonBytes]
  have q2 : jsonBytes n f = [123, 34, 36, 34, 58] ++ (itoa n ++ (44 :: ([34, 64, 101, 110, 97, 98, 108, 101, 100, 34, 58] ++ flagBytes f ++ [125]))) := by simp [jsonBytes]
  have q3 : jsonBytes n f = ([123, 34, 36, 34, 58] ++ itoa n) ++ ([44, 34, 64, 101, 110, 97, 98, 108, 101, 100, 34, 58] ++ (flagBytes f ++ [125])) := by simp [jsonBytes]
  have q4 : jsonBytes n f = ([123, 34, 36, 34, 58] ++ itoa n ++ [44, 34, 64, 101, 110, 97, 98, 108, 101, 100, 34, 58]) ++ (flagBytes f ++ [125]) := by simp [jsonBytes]
  have q5 : jsonBytes n f = ([123, 34, 36, 34, 58] ++ itoa n ++ [44, 34, 64, 101, 110, 97, 98, 108, 101, 100, 34, 58] ++ flagBytes f) ++ ([125] ++ []) := by simp [jsonBytes]
  refine readJSON_core g cap (jsonBytes n f) n h0 h1 f (5 + (itoa n).length) (5 + (itoa n).length + 12 + (flagBytes f).length) w hR ?_ ?_ ?_ rfl ?_ ?_ ?_ rfl ?_ ?_
  · simp [jsonBytes]; omega
  · rw [q1]; exact hasB_app [] _ _
  · rw [q2]; exact numAt_app [123, 34, 36, 34, 58] _ _ _ (by decide)
  · rw [q3, show 5 + (itoa n).length = ([123, 34, 36, 34, 58] ++ itoa n).length by simp; omega]; exact hasB_app _ _ _
  · rw [q4, show 5 + (itoa n).length + 12 = ([123, 34, 36, 34, 58] ++ itoa n ++ [44, 34, 64, 101, 110, 97, 98, 108, 101, 100, 34, 58]).length by simp; omega]
    unfold hasB
    rw [List.drop_left]
    cases f <;> simp [flagBytes]
  · intro hf
    subst hf
    rw [q4, show 5 + (itoa n).length + 12 = ([123, 34, 36, 34, 58] ++ itoa n ++ [44, 34, 64, 101, 110, 97, 98, 108, 101, 100, 34, 58]).length by simp; omega]
    exact hasB_app _ _ _
  · rw [q5, show 5 + (itoa n).length + 12 + (flagBytes f).length = ([123, 34, 36, 34, 58] ++ itoa n ++ [44, 34, 64, 101, 110, 97, 98, 108, 101, 100, 34, 58] ++ flagBytes f).length by simp; omega]
    exact hasB_app _ _ _
  · simp [jsonBytes]; omega

set_option maxHeartbeats 1000000 in
theorem readXML_core (g cap : Nat) (L : List UInt8) (s : ByteArray) (hs : s.size ≤ 100) (n : Int) (h0 : -9223372036854775808 ≤ n) (h1 : n ≤ 9223372036854775807) (f : Bool) (a b c d k m : Nat) (w : World) (hR : RowOf w g L) (hL : L.length ≤ 100000)
    (e1 : hasB L 0 [60] = true) (e2 : hasB L 1 s.data.toList = true) (ha : 1 + s.size = a) (e3 : hasB L a [32, 101, 110, 97, 98, 108, 101, 100, 61, 34] = true) (hb : a + 10 = b)
    (e4 : hasB L b [116, 114, 117, 101] = f) (e5 : f = false → hasB L b [102, 97, 108, 115, 101] = true) (hc : b + (boolBytes f).length = c) (e6 : hasB L c [34, 62] = true) (hd : c + 2 = d)
    (e7 : NumAt L d (itoa n)) (hk : d + (itoa n).length = k) (e8 : hasB L k [60, 47] = true) (e9 : hasB L (k + 2) s.data.toList = true) (hm : k + 2 + s.size = m) (e10 : hasB L m [62] = true) (hl : m + 1 = L.length) :
    Calls Tryd.prog 15 #[.slice (some ⟨g, 0, none⟩) L.length cap, .string s] w fun e w' => e = .returned (.tuple #[.int .i64 n, .bool f, .bool true]) ∧ ∃ q, w' = w.drewN q := by
  have HA : Hid (1 + s.size = a) := ha
  have HB : Hid (a + 10 = b) := hb
  have HD : Hid (c + 2 = d) := hd
  have HK : Hid (d + (itoa n).length = k) := hk
  have HM : Hid (k + 2 + s.size = m) := hm
  have o1 : 1 ≤ a := by omega
  have o2 : a + 10 ≤ b := by omega
  have o3 : b ≤ c := by omega
  have o4 : c + 2 ≤ d := by omega
  have o5 : d ≤ k := by omega
  have o6 : k + 2 ≤ m := by omega
  have hml : (m : Int) + 1 ≤ L.length := by omega
  have hlm : (L.length : Int) ≤ (m : Int) + 1 := by omega
  have H1 : Hid (hasB L 0 [60] = true) := e1
  have H2 : Hid (hasB L 1 s.data.toList = true) := e2
  have H3 : Hid (hasB L a [32, 101, 110, 97, 98, 108, 101, 100, 61, 34] = true) := e3
  have H4 : Hid (hasB L b [116, 114, 117, 101] = f) := e4
  have H6 : Hid (hasB L c [34, 62] = true) := e6
  have H8 : Hid (hasB L k [60, 47] = true) := e8
  have H9 : Hid (hasB L (k + 2) s.data.toList = true) := e9
  have H10 : Hid (hasB L m [62] = true) := e10
  cases f
  · have HC : Hid (b + 5 = c) := hc
    have H5 : Hid (hasB L b [102, 97, 108, 115, 101] = true) := e5 rfl
    have hbc : b + 5 ≤ c := by simp [boolBytes] at hc; omega
    clear e1 e2 e3 e4 e5 e6 e8 e9 e10 ha hb hc hd hk hm hl
    go_enter Tryd.func15, Tryd.ntmps15
    go_wp2_with fail
    refine (eat_y g cap L _ 0 1 _ w hR rfl rfl (by omega) hL (by decide) H1.out).mono ?_
    rintro e w1 ⟨rfl, q1, rfl⟩
    go_wp2_with fail
    refine (eat_y g cap L _ 1 a _ _ (hR.drewN _) rfl HA.out (by omega) hL (by omega) H2.out).mono ?_
    rintro e w1 ⟨rfl, q2, rfl⟩
    go_wp2_with fail
    refine (eat_y g cap L _ a b _ _ (hR.drewN _) rfl (by exact HB.out) (by omega) hL (by decide) H3.out).mono ?_
    rintro e w1 ⟨rfl, q3, rfl⟩
    go_wp2_with fail
    refine (eat_n g cap L _ b _ _ (hR.drewN _) (by omega) (by omega) hL (by decide) H4.out).mono ?_
    rintro e w1 ⟨rfl, q4, rfl⟩
    go_wp2_with fail
    refine (eat_y g cap L _ b c _ _ (hR.drewN _) (by omega) (by exact HC.out) (by omega) hL (by decide) H5.out).mono ?_
    rintro e w1 ⟨rfl, q5, rfl⟩
    go_wp2_with fail
    refine (eat_y g cap L _ c d _ _ (hR.drewN _) (by omega) (by exact HD.out) (by omega) hL (by decide) H6.out).mono ?_
    rintro e w1 ⟨rfl, q6, rfl⟩
    go_wp2_with fail
    refine (int_y g cap L _ d k n _ (hR.drewN _) (by omega) HK.out hL h0 h1 e7).mono ?_
    rintro e w2 ⟨rfl, rfl⟩
    go_wp2_with fail
    refine (eat_y g cap L _ k (k + 2) _ _ (hR.drewN _) rfl rfl (by omega) hL (by decide) H8.out).mono ?_
    rintro e w1 ⟨rfl, q8, rfl⟩
    go_wp2_with fail
    refine (eat_y g cap L _ (k + 2) m _ _ (hR.drewN _) (by omega) HM.out (by omega) hL (by omega) H9.out).mono ?_
    rintro e w1 ⟨rfl, q9, rfl⟩
    go_wp2_with fail
    refine (eat_y g cap L _ m (m + 1) _ _ (hR.drewN _) rfl rfl (by omega) hL (by decide) H10.out).mono ?_
    rintro e w1 ⟨rfl, q10, rfl⟩
    go_wp2
    go_ret3
    exact ⟨rfl, _, rfl⟩
  · have HC : Hid (b + 4 = c) := hc
    have hbc : b + 4 ≤ c := by simp [boolBytes] at hc; omega
    clear e1 e2 e3 e4 e5 e6 e8 e9 e10 ha hb hc hd hk hm hl
    go_enter Tryd.func15, Tryd.ntmps15
    go_wp2_with fail
    refine (eat_y g cap L _ 0 1 _ w hR rfl rfl (by omega) hL (by decide) H1.out).mono ?_
    rintro e w1 ⟨rfl, q1, rfl⟩
    go_wp2_with fail
    refine (eat_y g cap L _ 1 a _ _ (hR.drewN _) rfl HA.out (by omega) hL (by omega) H2.out).mono ?_
    rintro e w1 ⟨rfl, q2, rfl⟩
    go_wp2_with fail
    refine (eat_y g cap L _ a b _ _ (hR.drewN _) rfl (by exact HB.out) (by omega) hL (by decide) H3.out).mono ?_
    rintro e w1 ⟨rfl, q3, rfl⟩
    go_wp2_with fail
    refine (eat_y g cap L _ b c _ _ (hR.drewN _) (by omega) (by exact HC.out) (by omega) hL (by decide) H4.out).mono ?_
    rintro e w1 ⟨rfl, q5, rfl⟩
    go_wp2_with fail
    refine (eat_y g cap L _ c d _ _ (hR.drewN _) (by omega) (by exact HD.out) (by omega) hL (by decide) H6.out).mono ?_
    rintro e w1 ⟨rfl, q6, rfl⟩
    go_wp2_with fail
    refine (int_y g cap L _ d k n _ (hR.drewN _) (by omega) HK.out hL h0 h1 e7).mono ?_
    rintro e w2 ⟨rfl, rfl⟩
    go_wp2_with fail
    refine (eat_y g cap L _ k (k + 2) _ _ (hR.drewN _) rfl rfl (by omega) hL (by decide) H8.out).mono ?_
    rintro e w1 ⟨rfl, q8, rfl⟩
    go_wp2_with fail
    refine (eat_y g cap L _ (k + 2) m _ _ (hR.drewN _) (by omega) HM.out (by omega) hL (by omega) H9.out).mono ?_
    rintro e w1 ⟨rfl, q9, rfl⟩
    go_wp2_with fail
    refine (eat_y g cap L _ m (m + 1) _ _ (hR.drewN _) rfl rfl (by omega) hL (by decide) H10.out).mono ?_
    rintro e w1 ⟨rfl, q10, rfl⟩
    go_wp2
    go_ret3
    exact ⟨rfl, _, rfl⟩

theorem readXML_any (g cap : Nat) (s : ByteArray) (hs : s.size ≤ 100) (n : Int) (h0 : -9223372036854775808 ≤ n) (h1 : n ≤ 9223372036854775807) (f : Bool) (w : World) (hR : RowOf w g (xmlBytes s.data.toList n f)) :
    Calls Tryd.prog 15 #[.slice (some ⟨g, 0, none⟩) (xmlBytes s.data.toList n f).length cap, .string s] w fun e w' => e = .returned (.tuple #[.int .i64 n, .bool f, .bool true]) ∧ ∃ q, w' = w.drewN q := by
  have hil := itoa_length_le n h0 h1
  have hfl := bool_len f
  have hsl := lit_len s
  obtain ⟨N, hN⟩ : ∃ N, N = s.data.toList := ⟨_, rfl⟩
  rw [← hN] at hR hsl ⊢
  have q1 : xmlBytes N n f = [] ++ ([60] ++ (N ++ [32, 101, 110, 97, 98, 108, 101, 100, 61, 34] ++ boolBytes f ++ [34, 62] ++ itoa n ++ [60, 47] ++ N ++ [62])) := by simp [xmlBytes]
  have q2 : xmlBytes N n f = [60] ++ (N ++ ([32, 101, 110, 97, 98, 108, 101, 100, 61, 34] ++ boolBytes f ++ [34, 62] ++ itoa n ++ [60, 47] ++ N ++ [62])) := by simp [xmlBytes]
  have q3 : xmlBytes N n f = ([60] ++ N) ++ ([32, 101, 110, 97, 98, 108, 101, 100, 61, 34] ++ (boolBytes f ++ [34, 62] ++ itoa n ++ [60, 47] ++ N ++ [62])) := by simp [xmlBytes]
  have q4 : xmlBytes N n f = ([60] ++ N ++ [32, 101, 110, 97, 98, 108, 101, 100, 61, 34]) ++ (boolBytes f ++ ([34, 62] ++ itoa n ++ [60, 47] ++ N ++ [62])) := by simp [xmlBytes]
  have q5 : xmlBytes N n f = ([60] ++ N ++ [32, 101, 110, 97, 98, 108, 101, 100, 61, 34] ++ boolBytes f) ++ ([34, 62] ++ (itoa n ++ [60, 47] ++ N ++ [62])) := by simp [xmlBytes]
  have q6 : xmlBytes N n f = ([60] ++ N ++ [32, 101, 110, 97, 98, 108, 101, 100, 61, 34] ++ boolBytes f ++ [34, 62]) ++ (itoa n ++ (60 :: ([47] ++ N ++ [62]))) := by simp [xmlBytes]
  have q7 : xmlBytes N n f = ([60] ++ N ++ [32, 101, 110, 97, 98, 108, 101, 100, 61, 34] ++ boolBytes f ++ [34, 62] ++ itoa n) ++ ([60, 47] ++ (N ++ [62])) := by simp [xmlBytes]
  have q8 : xmlBytes N n f = ([60] ++ N ++ [32, 101, 110, 97, 98, 108, 101, 100, 61, 34] ++ boolBytes f ++ [34, 62] ++ itoa n ++ [60, 47]) ++ (N ++ [62]) := by simp [xmlBytes]
  have q9 : xmlBytes N n f = ([60] ++ N ++ [32, 101, 110, 97, 98, 108, 101, 100, 61, 34] ++ boolBytes f ++ [34, 62] ++ itoa n ++ [60, 47] ++ N) ++ ([62] ++ []) := by simp [xmlBytes]
  refine readXML_core g cap (xmlBytes N n f) s hs n h0 h1 f (1 + s.size) (1 + s.size + 10) (1 + s.size + 10 + (boolBytes f).length) (1 + s.size + 10 + (boolBytes f).length + 2) (1 + s.size + 10 + (boolBytes f).length + 2 + (itoa n).length) (1 + s.size + 10 + (boolBytes f).length + 2 + (itoa n).length + 2 + s.size) w hR ?_ ?_ ?_ rfl ?_ rfl ?_ ?_ rfl ?_ rfl ?_ rfl ?_ ?_ rfl ?_ ?_
  · simp [xmlBytes]; omega
  · rw [q1]; exact hasB_app [] _ _
  · rw [q2, ← hN]; exact hasB_app [60] _ _
  · rw [q3, show 1 + s.size = ([60] ++ N).length by simp; omega]; exact hasB_app _ _ _
  · rw [q4, show 1 + s.size + 10 = ([60] ++ N ++ [32, 101, 110, 97, 98, 108, 101, 100, 61, 34]).length by simp; omega]
    unfold hasB
    rw [List.drop_left]
    cases f <;> simp [boolBytes]
  · intro hf
    subst hf
    rw [q4, show 1 + s.size + 10 = ([60] ++ N ++ [32, 101, 110, 97, 98, 108, 101, 100, 61, 34]).length by simp; omega]
    exact hasB_app _ _ _
  · rw [q5, show 1 + s.size + 10 + (boolBytes f).length = ([60] ++ N ++ [32, 101, 110, 97, 98, 108, 101, 100, 61, 34] ++ boolBytes f).length by simp; omega]
    exact hasB_app _ _ _
  · rw [q6, show 1 + s.size + 10 + (boolBytes f).length + 2 = ([60] ++ N ++ [32, 101, 110, 97, 98, 108, 101, 100, 61, 34] ++ boolBytes f ++ [34, 62]).length by simp; omega]
    exact numAt_app _ _ _ _ (by decide)
  · rw [q7, show 1 + s.size + 10 + (boolBytes f).length + 2 + (itoa n).length = ([60] ++ N ++ [32, 101, 110, 97, 98, 108, 101, 100, 61, 34] ++ boolBytes f ++ [34, 62] ++ itoa n).length by simp; omega]
    exact hasB_app _ _ _
  · rw [q8, ← hN, show 1 + s.size + 10 + (boolBytes f).length + 2 + (itoa n).length + 2 = ([60] ++ N ++ [32, 101, 110, 97, 98, 108, 101, 100, 61, 34] ++ boolBytes f ++ [34, 62] ++ itoa n ++ [60, 47]).length by simp; omega]
    exact hasB_app _ _ _
  · rw [q9, show 1 + s.size + 10 + (boolBytes f).length + 2 + (itoa n).length + 2 + s.size = ([60] ++ N ++ [32, 101, 110, 97, 98, 108, 101, 100, 61, 34] ++ boolBytes f ++ [34, 62] ++ itoa n ++ [60, 47] ++ N).length by simp; omega]
    exact hasB_app _ _ _
  · simp [xmlBytes]; omega
end Go.Proofs.Qxb6605507aDoor
