/-
  THE LAW 'ROUND TRIP': ITS ROW, fmt's TEXT TOLD, AND ITS CARD.
-/
import Derived.Test.Qxb6606217aFmtSpecD
import Derived.Test.Qxb6606217aFmtRtB
namespace Go.Proofs.Qxb6606217aFmt
open Go.ChangeShapes Go.WideShapes Go.ChangeAt Go.RowKit Go.Kit Go.Extern.Stop Go.Stop Go.Extern

theorem cells34 : Tryf.prog.cellsOf 34 = 16 := by kernel_rfl

/-- Sixteen bytes that came in by value. -/
theorem bytes16_of {H : Type} {enc : TypeId × Value → H} {W : World} {base : Nat} {v : Value} {d : DataW H} {p : List MemPlace} (hval : Value.okWide Tryf.prog W .any base 34 v) (h1 : DataW.Trod enc Tryf.prog W 0 (fun _ => true) true 34 v d p) :
    ∃ I : List UInt8, I.length = 16 ∧ v = .agg (bl I).toArray := by
  obtain ⟨cs, rfl, hcs⟩ : ∃ cs, v = .agg cs ∧ cs.size = Tryf.prog.cellsOf 34 := by
    simp only [Value.okWide, Tryf.underlying34] at hval
    obtain ⟨cs, e1, e2, _⟩ := hval
    exact ⟨cs, e1, e2⟩
  rw [cells34] at hcs
  obtain ⟨fuel, hf⟩ := h1
  obtain ⟨xs, m, _, _, _, hxl, hx⟩ := DataW.trod_array Tryf.underlying34 hf
  rw [cells5] at hx
  have each : ∀ i, i < 16 → ∃ c : UInt8, cs[i]? = some (.int .u8 ((c.toNat : Nat) : Int)) := by
    intro i hi
    have h := hx i hi
    have hxi : xs[i]? = some (xs[i]'(by omega)) := List.getElem?_eq_getElem _
    rw [hxi] at h
    obtain ⟨n, e, _, hw⟩ := DataW.trod_int Tryf.underlying5 h
    have hb := bounds_u8 hw
    have hl : ((Value.agg cs).cells.toList.drop (i * 1)).take 1 = [cs[i]'(by omega)] := by
      show (cs.toList.drop (i * 1)).take 1 = _
      rw [Nat.mul_one, List.drop_eq_getElem_cons (by simp; omega)]
      simp
    rw [hl] at e
    have e2 : cs[i]'(by omega) = .int .u8 n := by simpa using e
    refine ⟨UInt8.ofNat n.toNat, ?_⟩
    rw [Array.getElem?_eq_getElem (by omega), e2]
    congr 2
    simp only [UInt8.toNat_ofNat']
    omega
  obtain ⟨f, hff⟩ : ∃ f : Nat → UInt8, ∀ i, i < 16 → cs[i]? = some (.int .u8 (((f i).toNat : Nat) : Int)) :=
    ⟨fun i => if h : i < 16 then (each i h).choose else 0, fun i hi => by simp only [dif_pos hi]; exact (each i hi).choose_spec⟩
  refine ⟨(List.range 16).map f, by simp, ?_⟩
  congr 1
  apply Array.ext_getElem?
  intro j
  by_cases hj : j < 16
  · rw [hff j hj]
    simp [bl, hj]
  · rw [Array.getElem?_eq_none (by omega), Array.getElem?_eq_none (by simp [bl]; omega)]

theorem rt_any (F : Interp) (a : Addr) (s : ByteArray) (I : List UInt8) (hI : I.length = 16) (v1 v2 : Value) (D T : List UInt8) (w : World) (hE : Env F a s w) (h1 : Opens w v1 D) (h2 : Opens w v2 T) :
    Calls Tryf.prog 5 #[.agg (bl I).toArray, v1, v2] w fun e w' => e = .returned (.bool true) ∧ Below w.heap.size w w' := by
  by_cases hs : D.length + T.length ≤ 1048576
  · by_cases hd : D.length ≤ 65535
    · exact rt_main F a s I hI v1 v2 D T w hE h1 h2 hs hd
    · refine rt_big _ ?_ v1 v2 D T w h1 h2 (.inr (by omega))
      have h : (Tryf.prog.info? 34).map (·.size) = some 16 := by kernel_rfl
      exact h.trans (by simp [bl_length, hI])
  · refine rt_big _ ?_ v1 v2 D T w h1 h2 (.inl hs)
    have h : (Tryf.prog.info? 34).map (·.size) = some 16 := by kernel_rfl
    exact h.trans (by simp [bl_length, hI])

def zero16 : Array Value := #[.int .u8 0, .int .u8 0, .int .u8 0, .int .u8 0, .int .u8 0, .int .u8 0, .int .u8 0, .int .u8 0, .int .u8 0, .int .u8 0, .int .u8 0, .int .u8 0, .int .u8 0, .int .u8 0, .int .u8 0, .int .u8 0]

set_option maxRecDepth 100000 in
theorem rt_lifted (os : Os) (started : os.Started) (H : Type) (enc : TypeId × Value → H) :
    ReturnsInTold none {} Tryf.checked os 5 .any Input.okWide ((OpenSpec.ofChange Rows.fnDecodeLeaveRequestRoundTripSpec).preRow enc Tryf.prog Tryf.f5 [] false laid1) (fun F => ((OpenSpec.ofChange Rows.fnDecodeLeaveRequestRoundTripSpec).at F).post enc Tryf.prog Tryf.f5 false true false false) (aloneAtReturn Tryf.prog) nothingAlways := by
  refine returnsInTold_of_row (C := Tryf.checked) (s := OpenSpec.ofChange Rows.fnDecodeLeaveRequestRoundTripSpec) (by kernel_rfl) own started (by kernel_rfl) Tryf.func5
    (OpenSpec.witness_stopped_atRef (enc := enc) (C := Tryf.checked) false (World.doorLaid Tryf.prog 28 os) #[.agg zero16, .slice none 0 0, .slice none 0 0] rfl (by kernel_rfl) (by kernel_rfl) (by kernel_rfl)
      (OpenSpec.preRow_of_B rfl 8 (by kernel_rfl) (by kernel_rfl) (door_met os _))) ?_
  intro F W base args ds gs before _ hF hval0 hW _ _ _ hL _
  have hval : ∀ (j : Nat) t v, Tryf.f5.params[j]? = some t → args[j]? = some v → Value.okWide Tryf.prog W .any base t v := hval0
  have hW' := hW
  obtain ⟨p, q, hA0, hV0, rfl, hfz, hnd⟩ := hW
  have hA : DataW.TrodAll enc Tryf.prog W 0 (fun _ => true) true Tryf.f5.params.toList args.toList ds p := hA0
  have hV : DataW.TrodVars enc Tryf.prog W (fun _ => true) [errName] gs q := hV0
  rw [Tryf.params5] at hA hval
  obtain ⟨v0, vs0, d0, ds0, p0, q0, hargs, rfl, rfl, h0, r0⟩ := trodAll_cons hA
  obtain ⟨v1, vs1, d1, ds1, p1, q1, rfl, rfl, rfl, h1, r1⟩ := trodAll_cons r0
  obtain ⟨v2, vs2, d2, ds2, p2, q2, rfl, rfl, rfl, h2, r2⟩ := trodAll_cons r1
  obtain ⟨rfl, rfl, rfl⟩ := trodAll_nil r2
  obtain rfl : args = #[v0, v1, v2] := by cases args; simp_all
  obtain ⟨a, s, hvar, hEn⟩ := env_of_laid hL
  obtain ⟨rfl, rfl⟩ := hV.unique (vars_read1 enc gE gET Tryf.underlying30 hvar trivial _)
  have lt0 : ∀ x ∈ p0, x.block < W.heap.size := by obtain ⟨m, hm⟩ := h0; exact DataW.trod_lt m _ _ _ hm
  have lt1 : ∀ x ∈ p1, x.block < W.heap.size := by obtain ⟨m, hm⟩ := h1; exact DataW.trod_lt m _ _ _ hm
  have lt2 : ∀ x ∈ p2, x.block < W.heap.size := by obtain ⟨m, hm⟩ := h2; exact DataW.trod_lt m _ _ _ hm
  obtain ⟨I, hI, e0⟩ := bytes16_of (hval 0 34 v0 rfl rfl) h0
  obtain ⟨D, hD⟩ := opens_of (hval 1 22 v1 rfl rfl) h1
  obtain ⟨T, hT⟩ := opens_of (hval 2 22 v2 rfl rfl) h2
  subst e0
  clear hA0 hV0 hval0
  refine (rt_any F.told a s I hI v1 v2 D T W (hEn _ hF) hD hT).mono fun e W' ⟨he, bel⟩ => ?_
  subst he
  exact ⟨_, rfl, _, _, _, [], _, [.cell 0 0], hW', trodAll_mk1 (shut_bool Tryf.underlying4 _), (trodAll_cons_mk (Below.trod laidOut (by kernel_rfl) (of_decide_eq_true (by kernel_rfl)) h0 bel lt0) (trodAll_cons_mk (Below.trod laidOut (by kernel_rfl) (of_decide_eq_true (by kernel_rfl)) h1 bel lt1) (trodAll_cons_mk (Below.trod laidOut (by kernel_rfl) (of_decide_eq_true (by kernel_rfl)) h2 bel lt2) trodAll_mk0))), vars_read1 enc gE gET Tryf.underlying30 (var_below hvar bel) trivial _, bel.frame _, fun h => by cases h⟩

theorem roundtrip_card_holds : Rows.FnDecodeLeaveRequestRoundTripToldSaid :=
  Claim7.holds_of_told_tied_any_at .later 5 Tryf.f5 (Rows.fnDecodeLeaveRequestRoundTripRow.stops.headD "") Rows.fnDecodeLeaveRequestRoundTripRow.stops.tail [] Rows.fnDecodeLeaveRequestRoundTripCard.stood.harness false false [.sentinel] true
    (by kernel_rfl) rfl rfl rfl laidOut (by kernel_rfl) rfl ⟨rfl, rfl, rfl, rfl, rfl, rfl, rfl⟩ rfl rfl (by kernel_rfl) (by kernel_rfl) Tryf.func5 (by kernel_rfl)
    (of_decide_eq_true (by kernel_rfl)) (of_decide_eq_true (by kernel_rfl)) seatStops.symm rfl seatKnobs.symm (by kernel_rfl)
    (by kernel_rfl) (by kernel_rfl) (by kernel_rfl) (by kernel_rfl) (by kernel_rfl) (by kernel_rfl) (by kernel_rfl) (by kernel_rfl) (by kernel_rfl) rfl (by kernel_rfl) rfl rfl
    rfl rfl
    rfl (by kernel_rfl) (by kernel_rfl) (by kernel_rfl) (by decide) (by kernel_rfl) fnDecodeLeaveRequestRoundTrip_row_tie
    (OpenClaim.moreEntering_of (by kernel_rfl) (by kernel_rfl) (by kernel_rfl) (by kernel_rfl) (by kernel_rfl) (by kernel_rfl) (by kernel_rfl) (by kernel_rfl) (by kernel_rfl) (by kernel_rfl))
    ⟨_, WideRow.started_initial, seatQuiet _⟩
    (fun os started _ H enc _ => rt_lifted os started H enc)
end Go.Proofs.Qxb6606217aFmt
