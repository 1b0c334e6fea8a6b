/-
  THE LAW 'ROUND TRIP': ITS SMALL FUNCTIONS.
-/
import Derived.Test.Qxb6606217aFmtSpecC
import Derived.OwnWalk
namespace Go.Proofs.Qxb6606217aFmt
open Go.RowKit Go.Extern.Stop Go.Stop Go.Extern

/-- Bytes as cells. -/
def bl (L : List UInt8) : List Value := L.map fun c => Value.int .u8 ((c.toNat : Nat) : Int)
theorem bl_length (L : List UInt8) : (bl L).length = L.length := by simp [bl]
theorem bl_append (L M : List UInt8) : bl (L ++ M) = bl L ++ bl M := by simp [bl]
theorem bl_get (L : List UInt8) (j : Nat) (hj : j < L.length) : (bl L)[j]? = some (.int .u8 ((ch L j : Nat) : Int)) := by
  simp [bl, ch, List.getElem?_eq_getElem hj, List.getD_eq_getElem?_getD]
theorem bl_one (L : List UInt8) : ∀ u ∈ bl L, u.oneCell' = true := by
  intro u hu
  simp only [bl, List.mem_map] at hu
  obtain ⟨c, _, rfl⟩ := hu
  rfl

/-- A copy of bytes: no slice where there was none. -/
def Cl (w : World) (ao : Option Addr) (c : Nat) (S : List UInt8) : Prop := (ao = none ∧ S = [] ∧ c = 0) ∨ (∃ b, ao = some ⟨b, 0, none⟩ ∧ b < w.heap.size ∧ RowOf w b S)
theorem Cl.below {w w' : World} {ao : Option Addr} {c : Nat} {S : List UInt8} (h : Cl w ao c S) (hb : Below w.heap.size w w') : Cl w' ao c S := by
  rcases h with h | ⟨b, h1, h2, h3⟩
  · exact .inl h
  · exact .inr ⟨b, h1, Nat.lt_of_lt_of_le h2 hb.size, h3.below hb h2⟩

theorem clone_cl (v : Value) (S : List UInt8) (w : World) (hv : Opens w v S) (hl : S.length ≤ 1048576) :
    Calls Tryf.prog 7 #[v] w fun e w' => ∃ ao c, e = .returned (.slice ao S.length c) ∧ Below w.heap.size w w' ∧ Cl w' ao c S := by
  rcases hv with ⟨rfl, rfl⟩ | ⟨x, cap, rfl, hm, hc⟩
  · refine (clone_nil w).mono ?_
    rintro e w' ⟨rfl, rfl⟩
    exact ⟨none, 0, rfl, Below.refl _ _, .inl ⟨rfl, rfl, rfl⟩⟩
  · refine (clone_any x cap S hl w hc).mono ?_
    rintro e w' ⟨rfl, hb, hr, hs⟩
    exact ⟨_, _, rfl, hb, .inr ⟨_, rfl, hs, hr⟩⟩

theorem same_cl (b1 o1 c1 : Nat) (ao : Option Addr) (c2 : Nat) (S : List UInt8) (hn : S.length ≤ 1048576 * 4) (w : World) (h1 : ∀ j, j < S.length → w.cell? ⟨b1, o1 + j, none⟩ = some (.int .u8 ((ch S j : Nat) : Int))) (h2 : Cl w ao c2 S) :
    Calls Tryf.prog 14 #[.slice (some ⟨b1, o1, none⟩) S.length c1, .slice ao S.length c2] w fun e w' => e = .returned (.bool true) ∧ ∃ k, w' = w.drewN k := by
  rcases h2 with ⟨rfl, rfl, rfl⟩ | ⟨b, rfl, _, hr⟩
  · go_enter Tryf.func14, Tryf.ntmps14
    go_wp2
    go_loopw [5] (fun kv wr => kv = .int .i64 0 ∧ wr = w) (fun kv _ => 1)
    case atStart => exact ⟨rfl, rfl⟩
    case round =>
      obtain ⟨rfl, rfl⟩ := hrel
      go_wp2
      go_ret
      exact ⟨rfl, 0, rfl⟩
  · exact same_any b1 o1 c1 b 0 c2 S.length hn w (fun j => ((ch S j : Nat) : Int)) h1 (fun j hj => by rw [Nat.zero_add]; exact hr j hj) 0

theorem bytes15_any (Z : Array Value) (a1 a2 : Option Addr) (l1 c1 l2 c2 : Nat) (h1 : l1 ≤ 9223372036854775807) (h2 : l2 ≤ 9223372036854775807) (w : World) :
    Calls Tryf.prog 15 #[.agg Z, .slice a1 l1 c1, .slice a2 l2 c2] w fun e w' => e = .returned (.bool (decide (l1 + l2 ≤ 1048576))) ∧ Below w.heap.size w w' := by
  have HB : Hid (Below w.heap.size w (w.alloc (.cells Z 34))) := (Below.refl _ _).alloc (Nat.le_refl _) _
  by_cases k1 : l1 ≤ 1048576
  · by_cases k2 : l2 ≤ 1048576
    · by_cases k3 : l1 + l2 ≤ 1048576
      · have b1 : ¬ (1048576 : Int) < (l1 : Int) := by omega
        have b2 : ¬ (1048576 : Int) < (l2 : Int) := by omega
        have b3 : ¬ (1048576 : Int) < (l1 : Int) + (l2 : Int) := by omega
        have HD : Hid (decide (l1 + l2 ≤ 1048576) = true) := decide_eq_true k3
        clear k3 h1 h2
        go_enter Tryf.func15, Tryf.ntmps15
        go_wp2
        go_ret
        exact ⟨by rw [HD.out]; rfl, HB.out⟩
      · have b1 : ¬ (1048576 : Int) < (l1 : Int) := by omega
        have b2 : ¬ (1048576 : Int) < (l2 : Int) := by omega
        have b3 : (1048576 : Int) < (l1 : Int) + (l2 : Int) := by omega
        have HD : Hid (decide (l1 + l2 ≤ 1048576) = false) := decide_eq_false k3
        clear k3 h1 h2
        go_enter Tryf.func15, Tryf.ntmps15
        go_wp2
        go_ret
        exact ⟨by rw [HD.out]; rfl, HB.out⟩
    · have b1 : ¬ (1048576 : Int) < (l1 : Int) := by omega
      have b2 : (1048576 : Int) < (l2 : Int) := by omega
      have HD : Hid (decide (l1 + l2 ≤ 1048576) = false) := decide_eq_false (by omega)
      go_enter Tryf.func15, Tryf.ntmps15
      go_wp2
      go_ret
      exact ⟨by rw [HD.out]; rfl, HB.out⟩
  · have b1 : (1048576 : Int) < (l1 : Int) := by omega
    have HD : Hid (decide (l1 + l2 ≤ 1048576) = false) := decide_eq_false (by omega)
    go_enter Tryf.func15, Tryf.ntmps15
    go_wp2
    go_ret
    exact ⟨by rw [HD.out]; rfl, HB.out⟩

theorem Opens.form {w : World} {v : Value} {S : List UInt8} (h : Opens w v S) : ∃ ao c, v = .slice ao S.length c ∧ S.length ≤ 9223372036854775807 := by
  rcases h with ⟨rfl, rfl⟩ | ⟨x, cap, rfl, hm, _⟩
  · exact ⟨none, 0, rfl, Nat.zero_le _⟩
  · exact ⟨_, _, rfl, hm⟩
theorem Opens.below {w w' : World} {v : Value} {S : List UInt8} (h : Opens w v S) (hb : Below w.heap.size w w') : Opens w' v S := by
  rcases h with h | ⟨x, cap, hv, hm, hc⟩
  · exact .inl h
  · exact .inr ⟨x, cap, hv, hm, fun j hj => (hb.cell (cell_lt (hc j hj))).trans (hc j hj)⟩

theorem Cl.none0 {w : World} {ao : Option Addr} {c : Nat} {S : List UInt8} (h : Cl w ao c S) : ao = none → S.length = 0 ∧ c = 0 := by
  intro h0
  rcases h with ⟨_, rfl, rfl⟩ | ⟨b, rfl, _⟩
  · exact ⟨rfl, rfl⟩
  · cases h0
theorem Cl.cells {w : World} {ao : Option Addr} {c : Nat} {S : List UInt8} (h : Cl w ao c S) : ∀ ad, ao = some ad → ∀ j u, (bl S)[j]? = some u → w.cell? (ad.add j) = some u := by
  intro ad had j u hu
  rcases h with ⟨rfl, _⟩ | ⟨b, rfl, _, hr⟩
  · cases had
  · obtain rfl := Option.some.inj had
    have hj : j < S.length := by
      rw [← bl_length S]
      exact (List.getElem?_eq_some_iff.1 hu).1
    rw [bl_get S j hj] at hu
    rw [add0, hr j hj]
    exact hu

/-- The length, in two bytes. -/
def two (n : Nat) : List UInt8 := [UInt8.ofNat (n / 256), UInt8.ofNat (n % 256)]
theorem bl_two (n : Nat) (hn : n ≤ 65535) : bl (two n) = [.int .u8 ((n : Int) / 256), .int .u8 ((n : Int) % 256)] := by
  have h1 : n / 256 % 256 = n / 256 := by omega
  simp [bl, two, h1]

def msg (I D T : List UInt8) : List UInt8 := I ++ two D.length ++ D ++ T
theorem msg_length (I D T : List UInt8) (hI : I.length = 16) : (msg I D T).length = 18 + D.length + T.length := by
  simp [msg, two, hI]; omega
theorem msg_id (I D T : List UInt8) (hI : I.length = 16) (j : Nat) (hj : j < 16) : ch (msg I D T) j = ch I j := by
  unfold ch msg
  rw [List.getD_eq_getElem?_getD, List.getD_eq_getElem?_getD, List.append_assoc, List.append_assoc, List.getElem?_append_left (by omega)]
theorem msg_data (I D T : List UInt8) (hI : I.length = 16) (j : Nat) (hj : j < D.length) : ch (msg I D T) (18 + j) = ch D j := by
  unfold ch msg
  have h2 : (I ++ two D.length).length = 18 := by simp [two, hI]
  rw [List.getD_eq_getElem?_getD, List.getD_eq_getElem?_getD, List.append_assoc, List.getElem?_append_right (by rw [h2]; omega), h2, List.getElem?_append_left (by omega), show 18 + j - 18 = j by omega]
theorem msg_told (I D T : List UInt8) (hI : I.length = 16) (hd : D.length ≤ 65535) : told (msg I D T) = D.length := by
  have h0 : ch (msg I D T) 16 = D.length / 256 := by
    unfold ch msg
    rw [List.getD_eq_getElem?_getD, List.append_assoc, List.append_assoc, List.getElem?_append_right (by omega), hI]
    simp [two]
    omega
  have h1 : ch (msg I D T) 17 = D.length % 256 := by
    unfold ch msg
    rw [List.getD_eq_getElem?_getD, List.append_assoc, List.append_assoc, List.getElem?_append_right (by omega), hI]
    simp [two]
  unfold told
  rw [h0, h1]
  omega
theorem msg_ids (I D T : List UInt8) (hI : I.length = 16) : (bl I).toArray = ids16 (msg I D T) := by
  apply Array.ext_getElem?
  intro j
  by_cases hj : j < 16
  · rw [List.getElem?_toArray, bl_get I j (by omega)]
    have h := msg_id I D T hI j hj
    rw [← h]
    rcases j with _ | _ | _ | _ | _ | _ | _ | _ | _ | _ | _ | _ | _ | _ | _ | _ | j <;> first | rfl | omega
  · rw [Array.getElem?_eq_none (by simp [bl, hI]; omega), Array.getElem?_eq_none (by simp [ids16]; omega)]
end Go.Proofs.Qxb6606217aFmt
