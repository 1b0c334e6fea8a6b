/-
  THE LAW 'SPEC': ITS ROW, fmt's TEXT TOLD, AND ITS CARD.
-/
import Derived.Test.Qxb6606217aFmtRows
import Derived.Test.Qxb6606217aFmtTie
import Derived.Test.Qxb6606217aFmtCards
import Derived.Test.Qxb6606217aFmtSpecC
import Derived.LaidMore
import Derived.Stop.JoinedTold
import Derived.Stop.LaidErr
import Derived.SevenTiedAt
import Derived.Deep.DeepWitnessRef
import Derived.Carry
namespace Go.Proofs.Qxb6606217aFmt
open Go.ChangeShapes Go.WideShapes Go.ChangeAt Go.RowKit Go.Kit Go.Extern.Stop Go.Stop Go.Extern

theorem own : ownKnob Tryf.prog.godebug = none := by kernel_rfl
theorem laidOut : laidOutB Tryf.pinned.checked.prog = true := by kernel_rfl
theorem seatStops : Tryf.pinned.checked.prog.stops = Rows.fnDecodeLeaveRequestSpecRow.stops := by kernel_rfl
theorem seatKnobs : Tryf.pinned.checked.prog.stopKnobs = [] := by kernel_rfl
theorem seatQuiet (os : Os) : Stop.quiet Tryf.pinned.checked.prog os := by
  intro k hk
  rw [seatKnobs] at hk
  cases hk

/-- The variable's name, out of the row. -/
def errName : String := Rows.fnDecodeLeaveRequestSpecSpec.vars.headD ""
theorem gE : Tryf.prog.globalNamed errName = some 0 := by kernel_rfl
theorem gET : (Tryf.prog.globals[0]?).map (·.type) = some 30 := by kernel_rfl
theorem row58 (u : TypeId) (h : Tryf.prog.typeName? 3 u = some nm58) : u = 58 :=
  typeName_ptr_named (nm := "errors.errorString") (by kernel_rfl) (by kernel_rfl) (by decide) u (h.trans (congrArg some (by decide)))

/-- The listed data. -/
def laid1 : List (String × DataW Unit) := Rows.fnDecodeLeaveRequestSpecRow.laid

/-- The door's own heap meets the condition. -/
theorem door_met (os : Os) (args : Array Value) : laidMetH Tryf.prog laid1 ((World.doorLaid Tryf.prog 28 os).forCall (fun _ _ => 0) ⟨#[], args, []⟩).memory := by
  rw [MakeChecks.laidMetH_plain _ _ _ (by kernel_rfl)]
  exact laidMet_of_run' 8 (by kernel_rfl) (by kernel_rfl)

theorem cells60 : Tryf.prog.cellsOf 60 = 1 := by kernel_rfl
theorem cells9 : Tryf.prog.cellsOf 9 = 1 := by kernel_rfl

/-- WHAT THE CONDITION GIVES THE WALK: the variable's error. -/
theorem env_of_laid {W : World} (h : laidMetH Tryf.prog laid1 W) : ∃ (a : Addr) (s : ByteArray), W.var? Tryf.prog errName = some #[.iface 58 (.pointer (some a))] ∧ ∀ F : Interp, F.answers W.tape → Env F a s W := by
  rw [MakeChecks.laidMetH_plain _ _ _ (by kernel_rfl)] at h
  obtain ⟨a, s, hv, hc, _, _⟩ := laid_sentinel h gE gET Tryf.underlying30 row58 Tryf.underlying58 Tryf.underlying60 rfl rfl Tryf.underlying9 cells60 cells9
  exact ⟨a, s, hv, fun F hF => ⟨hF, by simpa using World.var?_cell gE hv 0, hc⟩⟩

theorem var_below {W W' : World} {n : String} {cs : Array Value} (h : W.var? Tryf.prog n = some cs) (hb : Below W.heap.size W W') : W'.var? Tryf.prog n = some cs := by
  unfold World.var? at h ⊢
  cases hg : Tryf.prog.globalNamed n with
  | none => simp [hg] at h
  | some g =>
    simp only [hg, Option.bind_some] at h ⊢
    have hlt : g < W.heap.size := by
      rcases Nat.lt_or_ge g W.heap.size with h' | h'
      · exact h'
      · simp [Array.getElem?_eq_none h'] at h
    rw [hb.block g hlt]
    exact h

set_option maxRecDepth 100000 in
theorem spec_lifted (os : Os) (started : os.Started) (H : Type) (enc : TypeId × Value → H) :
    ReturnsInTold none {} Tryf.checked os 4 .any Input.okWide ((OpenSpec.ofChange Rows.fnDecodeLeaveRequestSpecSpec).preRow enc Tryf.prog Tryf.f4 [] false laid1) (fun F => ((OpenSpec.ofChange Rows.fnDecodeLeaveRequestSpecSpec).at F).post enc Tryf.prog Tryf.f4 false true false false) (aloneAtReturn Tryf.prog) nothingAlways := by
  refine returnsInTold_of_row (C := Tryf.checked) (s := OpenSpec.ofChange Rows.fnDecodeLeaveRequestSpecSpec) (by kernel_rfl) own started (by kernel_rfl) Tryf.func4
    (OpenSpec.witness_stopped_atRef (enc := enc) (C := Tryf.checked) false (World.doorLaid Tryf.prog 28 os) #[.slice none 0 0] rfl (by kernel_rfl) (by kernel_rfl) (by kernel_rfl)
      (OpenSpec.preRow_of_B rfl 8 (by kernel_rfl) (by kernel_rfl) (door_met os _))) ?_
  intro F W base args ds gs before _ hF hval0 hW _ _ _ hL _
  have hval : ∀ (j : Nat) t v, Tryf.f4.params[j]? = some t → args[j]? = some v → Value.okWide Tryf.prog W .any base t v := hval0
  have hW' := hW
  obtain ⟨p, q, hA0, hV0, rfl, hfz, hnd⟩ := hW
  have hA : DataW.TrodAll enc Tryf.prog W 0 (fun _ => true) true Tryf.f4.params.toList args.toList ds p := hA0
  have hV : DataW.TrodVars enc Tryf.prog W (fun _ => true) [errName] gs q := hV0
  rw [Tryf.params4] at hA hval
  obtain ⟨v0, d0, rfl, rfl, h0⟩ := trodAll_one hA
  obtain ⟨a, s, hvar, hEn⟩ := env_of_laid hL
  obtain ⟨rfl, rfl⟩ := hV.unique (vars_read1 enc gE gET Tryf.underlying30 hvar trivial _)
  have lt0 : ∀ x ∈ p, x.block < W.heap.size := by obtain ⟨m, hm⟩ := h0; exact DataW.trod_lt m _ _ _ hm
  obtain ⟨S, hS⟩ := opens_of (hval 0 22 v0 rfl rfl) h0
  clear hA0 hV0 hval0
  refine (spec_any F.told a s v0 S W (hEn _ hF) hS).mono fun e W' ⟨he, bel⟩ => ?_
  subst he
  exact ⟨_, rfl, _, _, _, [], p, [.cell 0 0], hW', trodAll_mk1 (shut_bool Tryf.underlying4 _), trodAll_mk1 (Below.trod laidOut (by kernel_rfl) (of_decide_eq_true (by kernel_rfl)) h0 bel lt0), vars_read1 enc gE gET Tryf.underlying30 (var_below hvar bel) trivial _, bel.frame _, fun h => by cases h⟩

theorem spec_card_holds : Rows.FnDecodeLeaveRequestSpecToldSaid :=
  Claim7.holds_of_told_tied_any_at .later 4 Tryf.f4 (Rows.fnDecodeLeaveRequestSpecRow.stops.headD "") Rows.fnDecodeLeaveRequestSpecRow.stops.tail [] Rows.fnDecodeLeaveRequestSpecCard.stood.harness false false [.sentinel] true
    (by kernel_rfl) rfl rfl rfl laidOut (by kernel_rfl) rfl ⟨rfl, rfl, rfl, rfl, rfl, rfl, rfl⟩ rfl rfl (by kernel_rfl) (by kernel_rfl) Tryf.func4 (by kernel_rfl)
    (of_decide_eq_true (by kernel_rfl)) (of_decide_eq_true (by kernel_rfl)) seatStops.symm rfl seatKnobs.symm (by kernel_rfl)
    (by kernel_rfl) (by kernel_rfl) (by kernel_rfl) (by kernel_rfl) (by kernel_rfl) (by kernel_rfl) (by kernel_rfl) (by kernel_rfl) (by kernel_rfl) rfl (by kernel_rfl) rfl rfl
    rfl rfl
    rfl (by kernel_rfl) (by kernel_rfl) (by kernel_rfl) (by decide) (by kernel_rfl) fnDecodeLeaveRequestSpec_row_tie
    (OpenClaim.moreEntering_of (by kernel_rfl) (by kernel_rfl) (by kernel_rfl) (by kernel_rfl) (by kernel_rfl) (by kernel_rfl) (by kernel_rfl) (by kernel_rfl) (by kernel_rfl) (by kernel_rfl))
    ⟨_, WideRow.started_initial, seatQuiet _⟩
    (fun os started _ H enc _ => spec_lifted os started H enc)
end Go.Proofs.Qxb6606217aFmt
