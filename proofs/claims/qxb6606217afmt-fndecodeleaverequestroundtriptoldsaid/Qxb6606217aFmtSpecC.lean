/-
  THE LAW 'SPEC', WHATEVER THE BODY.
-/
import Derived.Test.Qxb6606217aFmtSpecB
import Derived.ProofKit
import Derived.OpenShut
namespace Go.Proofs.Qxb6606217aFmt
open Go.ChangeShapes Go.WideShapes Go.ChangeAt Go.RowKit Go.Extern.Stop Go.Stop Go.Extern

/-- A slice of bytes, and the bytes. -/
def Opens (w : World) (v : Value) (S : List UInt8) : Prop :=
  (v = .slice none 0 0 ∧ S = []) ∨ (∃ x cap, v = .slice (some x) S.length cap ∧ S.length ≤ 9223372036854775807 ∧ ∀ j, j < S.length → w.cell? (x.add j) = some (.int .u8 ((ch S j : Nat) : Int)))

theorem opens_of {H : Type} {enc : TypeId × Value → H} {W : World} {base : Nat} {v : Value} {d : DataW H} {p : List MemPlace} (hval : Value.okWide Tryf.prog W .any base 22 v) (h1 : DataW.Trod enc Tryf.prog W 0 (fun _ => true) true 22 v d p) : ∃ S, Opens W v S := by
  obtain ⟨a1, len, cap, rfl⟩ := okWide_slice Tryf.underlying22 hval
  obtain ⟨fuel, hf⟩ := h1
  rcases open_ints Tryf.underlying22 Tryf.underlying5 cells5 hf with ⟨hcs, hx⟩ | ⟨a, len', cap', zs, hcs, _, hl, hm, hz, hx, hcell, hwz⟩
  · simp [Value.cells] at hcs
    obtain ⟨rfl, rfl, rfl⟩ := hcs
    exact ⟨[], .inl ⟨rfl, rfl⟩⟩
  · simp [Value.cells] at hcs
    obtain ⟨rfl, rfl, rfl⟩ := hcs
    simp only [if_true] at hz
    have hlen : ((zs.take len).map fun n => UInt8.ofNat n.toNat).length = len := by simp; omega
    refine ⟨(zs.take len).map fun n => UInt8.ofNat n.toNat, .inr ⟨a, cap, by rw [hlen], ?_, fun j hj => ?_⟩⟩
    · rw [hlen]; unfold maxLen at hm; omega
    · rw [hlen] at hj
      rw [hcell j (by omega)]
      have hb := range_u8 hwz j
      have e : zs.getD j 0 = zs[j]'(by omega) := by simp [List.getD, List.getElem?_eq_getElem (show j < zs.length by omega)]
      have e2 : ((zs.take len).map fun n => UInt8.ofNat n.toNat).getD j 0 = UInt8.ofNat (zs[j]'(by omega)).toNat := by
        rw [List.getD_eq_getElem?_getD, List.getElem?_map, List.getElem?_take_of_lt hj, List.getElem?_eq_getElem (show j < zs.length by omega)]; rfl
      rw [List.getD_eq_getElem?_getD] at e
      rw [e] at hb
      rw [List.getD_eq_getElem?_getD, e]
      unfold ch
      rw [e2]
      congr 2
      simp only [UInt8.toNat_ofNat']
      omega

theorem spec_any (F : Interp) (a : Addr) (s : ByteArray) (v : Value) (S : List UInt8) (w : World) (hE : Env F a s w) (hv : Opens w v S) :
    Calls Tryf.prog 4 #[v] w fun e w' => e = .returned (.bool true) ∧ Below w.heap.size w w' := by
  rcases hv with ⟨rfl, rfl⟩ | ⟨x, cap, rfl, hm, hc⟩
  · refine spec_low F a s none none 0 0 0 (by omega) w hE ((clone_nil w).mono ?_)
    rintro e w' ⟨rfl, rfl⟩
    exact ⟨rfl, Below.refl _ _⟩
  · by_cases hb : S.length ≤ 1048576
    · by_cases h16 : S.length < 16
      · refine spec_low F a s (some x) (some ⟨w.heap.size, 0, none⟩) S.length cap S.length h16 w hE ((clone_any x cap S hb w hc).mono ?_)
        rintro e w' ⟨rfl, h, _⟩
        exact ⟨rfl, h⟩
      · exact spec_ge F a s x cap S (by omega) hb w hE hc
    · go_enter Tryf.func4, Tryf.ntmps4
      go_wp2_with fail
      refine (bytes_any _ _ _ hm _).mono ?_
      rintro e w1 ⟨rfl, rfl⟩
      rw [decide_eq_false hb]
      go_wp2
      go_ret
      exact ⟨rfl, Below.refl _ _⟩
end Go.Proofs.Qxb6606217aFmt
