/-
  DERIVED. GIVEN WITH THE SEED: THE CARDS: each row of Qxb6606217aFmtRows.lean that lists a variable, with what it lists TIED to the program's text (the seventh form; the later family's looks); each row that meets fmt, with fmt's text TOLD by the authors' own Lean function (tested against real Go, not proved from fmt's source: count such statements apart). THE CARD IS WHAT COUNTS. Prove the row's statement (the work); the ties are given (Qxb6606217aFmtTie.lean); close each card by the builder's one call (the guide's Derived/Test/ToyasCard.lean, 'card_holds'). Laid BY PROGRAM, IN A SANDBOX (cutbox-door.mjs). By AI agents, Wed Nov 11 2026. No macro, syntax, notation, axiom, sorry.
-/
import Derived.Test.Qxb6606217aFmtRows
import GoSem.ClaimSeven
namespace Go.Proofs.Qxb6606217aFmt
namespace Rows

/-- THE TOLD AND TIED CARD OF 'zzlaws_wire_b1.FnDecoderU8ReadsBackInOrder'. -/
def fnDecoderU8ReadsBackInOrderCard : Claim7 := { stood := { row := fnDecoderU8ReadsBackInOrderRow, standIns := [], harness := (true, "635e398bbf40e479b1cf262142e2a28503df8c9f2a93e07ab84dbe835ac2b386"), looks := false }, told := true, laidByText := true, laidKinds := [.sentinel], laidTests := true, laidLooks := .later, goes := false }
def FnDecoderU8ReadsBackInOrderToldSaid : Prop := Claim7.holds Tryf.pinned (.plain (OpenSpec.ofChange fnDecoderU8ReadsBackInOrderSpec)) fnDecoderU8ReadsBackInOrderCard
/-- ITS FALSE NEIGHBOUR. Refute it at one input. -/
def FnDecoderU8ReadsBackInOrderToldWrongFalsely : Prop := Claim7.holds Tryf.pinned (.plain (OpenSpec.ofChange fnDecoderU8ReadsBackInOrderWrong)) fnDecoderU8ReadsBackInOrderCard

/-- THE TOLD AND TIED CARD OF 'zzlaws_wire_b1.FnDecodeLeaveRequestSpec'. -/
def fnDecodeLeaveRequestSpecCard : Claim7 := { stood := { row := fnDecodeLeaveRequestSpecRow, standIns := [], harness := (true, "635e398bbf40e479b1cf262142e2a28503df8c9f2a93e07ab84dbe835ac2b386"), looks := false }, told := true, laidByText := true, laidKinds := [.sentinel], laidTests := true, laidLooks := .later, goes := false }
def FnDecodeLeaveRequestSpecToldSaid : Prop := Claim7.holds Tryf.pinned (.plain (OpenSpec.ofChange fnDecodeLeaveRequestSpecSpec)) fnDecodeLeaveRequestSpecCard
/-- ITS FALSE NEIGHBOUR. Refute it at one input. -/
def FnDecodeLeaveRequestSpecToldWrongFalsely : Prop := Claim7.holds Tryf.pinned (.plain (OpenSpec.ofChange fnDecodeLeaveRequestSpecWrong)) fnDecodeLeaveRequestSpecCard

/-- THE TOLD AND TIED CARD OF 'zzlaws_wire_b1.FnDecodeLeaveRequestRoundTrip'. -/
def fnDecodeLeaveRequestRoundTripCard : Claim7 := { stood := { row := fnDecodeLeaveRequestRoundTripRow, standIns := [], harness := (true, "635e398bbf40e479b1cf262142e2a28503df8c9f2a93e07ab84dbe835ac2b386"), looks := false }, told := true, laidByText := true, laidKinds := [.sentinel], laidTests := true, laidLooks := .later, goes := false }
def FnDecodeLeaveRequestRoundTripToldSaid : Prop := Claim7.holds Tryf.pinned (.plain (OpenSpec.ofChange fnDecodeLeaveRequestRoundTripSpec)) fnDecodeLeaveRequestRoundTripCard
/-- ITS FALSE NEIGHBOUR. Refute it at one input. -/
def FnDecodeLeaveRequestRoundTripToldWrongFalsely : Prop := Claim7.holds Tryf.pinned (.plain (OpenSpec.ofChange fnDecodeLeaveRequestRoundTripWrong)) fnDecodeLeaveRequestRoundTripCard
end Rows
end Go.Proofs.Qxb6606217aFmt
