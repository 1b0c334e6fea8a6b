/-
  THE BOUND ON LENGTHS: zzBytes: some bool comes back; nothing old has turned.
-/
import Derived.Test.Qxb6605507aDoorInp
namespace Go.Proofs.Qxb6605507aDoor
open Go.RowKit Go.Maps

/-- A sum and a counter up to n. -/
def CntRel (n : Nat) (a k : Value) : Prop := ∃ (z : Int) (j : Nat), a = .int .i64 z ∧ k = .int .i64 j ∧ j ≤ n
def SomeBool (e : Ending) : Prop := ∃ b, e = .returned (.bool b)

set_option maxRecDepth 100000 in
set_option maxHeartbeats 4000000 in
theorem zzBytes_any (i : Inp) (w : World) (ok : i.Ok w w.heap.size) :
    Calls Tryd.prog 8 #[.agg i.cells] w fun e w' => SomeBool e ∧ Below w.heap.size w w' := by
  have hB : Hid (Below w.heap.size w (w.alloc (.cells i.cells 32))) := (Below.refl _ _).alloc (Nat.le_refl _) _
  have OK : Hid (i.Ok w w.heap.size) := ok
  clear ok
  unfold Inp.cells at hB ⊢
  go_enter Tryd.func8, Tryd.ntmps8
  go_wp2
  any_goals (go_ret; exact ⟨⟨_, rfl⟩, (Below.refl _ _).alloc (Nat.le_refl _) _⟩)
  go_loop [3, 4] (fun a k => CntRel i.dkl a k) (fun _ k => i.dkl - (intOf k).toNat)
  case atStart => exact ⟨_, 0, rfl, rfl, Nat.zero_le _⟩
  case round =>
    obtain ⟨z, j, rfl, rfl, hj⟩ := hrel
    by_cases hlt : j < i.dkl
    · obtain ⟨hl, h0 | ⟨b, o, ha, hb, hc⟩⟩ := OK.out.dk
      · omega
      obtain ⟨s, hs, hcs⟩ := hc j hlt
      have hne : ¬ b = w.heap.size := by omega
      have hjl : (j : Int) < (i.dkl : Int) := by omega
      clear hc
      go_wp2
      any_goals (go_ret; exact ⟨⟨_, rfl⟩, (Below.refl _ _).alloc (Nat.le_refl _) _⟩)
      go_round
      case rel => exact ⟨_, _, _, ⟨_, j + 1, rfl, by go_num, by omega⟩, rfl, rfl, rfl⟩
      case measure => simp [intOf]; omega
    · clear hj
      go_wp2
      any_goals (go_ret; exact ⟨⟨_, rfl⟩, (Below.refl _ _).alloc (Nat.le_refl _) _⟩)
      go_loop [3, 5] (fun a k => CntRel i.dvl a k) (fun _ k => i.dvl - (intOf k).toNat)
      case atStart => exact ⟨_, 0, rfl, rfl, Nat.zero_le _⟩
      case round =>
        obtain ⟨z, j, rfl, rfl, hj⟩ := hrel
        by_cases hlt : j < i.dvl
        · obtain ⟨hl, h0 | ⟨b, o, ha, hb, hc⟩⟩ := OK.out.dv
          · omega
          obtain ⟨s, hs, hcs⟩ := hc j hlt
          have hne : ¬ b = w.heap.size := by omega
          have hjl : (j : Int) < (i.dvl : Int) := by omega
          clear hc
          go_wp2
          any_goals (go_ret; exact ⟨⟨_, rfl⟩, (Below.refl _ _).alloc (Nat.le_refl _) _⟩)
          go_round
          case rel => exact ⟨_, _, _, ⟨_, j + 1, rfl, by go_num, by omega⟩, rfl, rfl, rfl⟩
          case measure => simp [intOf]; omega
        · clear hj
          go_wp2
          any_goals (go_ret; exact ⟨⟨_, rfl⟩, (Below.refl _ _).alloc (Nat.le_refl _) _⟩)
          go_loop [3, 6] (fun a k => CntRel i.mkl a k) (fun _ k => i.mkl - (intOf k).toNat)
          case atStart => exact ⟨_, 0, rfl, rfl, Nat.zero_le _⟩
          case round =>
            obtain ⟨z, j, rfl, rfl, hj⟩ := hrel
            by_cases hlt : j < i.mkl
            · obtain ⟨hl, h0 | ⟨b, o, ha, hb, hc⟩⟩ := OK.out.mks
              · omega
              obtain ⟨s, hs, hcs⟩ := hc j hlt
              have hne : ¬ b = w.heap.size := by omega
              have hjl : (j : Int) < (i.mkl : Int) := by omega
              clear hc
              go_wp2
              any_goals (go_ret; exact ⟨⟨_, rfl⟩, (Below.refl _ _).alloc (Nat.le_refl _) _⟩)
              go_round
              case rel => exact ⟨_, _, _, ⟨_, j + 1, rfl, by go_num, by omega⟩, rfl, rfl, rfl⟩
              case measure => simp [intOf]; omega
            · clear hj
              go_wp2
              any_goals (go_ret; exact ⟨⟨_, rfl⟩, (Below.refl _ _).alloc (Nat.le_refl _) _⟩)
              go_loop [3, 7] (fun a k => CntRel i.mvl a k) (fun _ k => i.mvl - (intOf k).toNat)
              case atStart => exact ⟨_, 0, rfl, rfl, Nat.zero_le _⟩
              case round =>
                obtain ⟨z, j, rfl, rfl, hj⟩ := hrel
                by_cases hlt : j < i.mvl
                · obtain ⟨hl, h0 | ⟨b, o, ha, hb, hc⟩⟩ := OK.out.mvs
                  · omega
                  obtain ⟨s, hs, hcs⟩ := hc j hlt
                  have hne : ¬ b = w.heap.size := by omega
                  have hjl : (j : Int) < (i.mvl : Int) := by omega
                  clear hc
                  go_wp2
                  any_goals (go_ret; exact ⟨⟨_, rfl⟩, (Below.refl _ _).alloc (Nat.le_refl _) _⟩)
                  go_round
                  case rel => exact ⟨_, _, _, ⟨_, j + 1, rfl, by go_num, by omega⟩, rfl, rfl, rfl⟩
                  case measure => simp [intOf]; omega
                · clear hj
                  go_wp2
                  all_goals (go_ret; exact ⟨⟨_, rfl⟩, (Below.refl _ _).alloc (Nat.le_refl _) _⟩)
end Go.Proofs.Qxb6605507aDoor
