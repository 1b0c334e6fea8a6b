/-
  NARROWER THAN 'FOR EVERY INPUT', by the rows' own cells (each row's printed sentence says how): FnDecoderU8ReadsBackInOrder: ifaces, laid · FnDecodeLeaveRequestSpec: ifaces, laid · FnDecodeLeaveRequestRoundTrip: ifaces, laid.
  DERIVED. THE GIVEN ROWS OF THIS SEAT. 3 by the template 'for every input the law returns true; each argument reads behind the call as it read before'; 0 by the template 'total and deterministic' (their statements: Qxb6606217aFmtTotals.lean).
  GIVEN WITH THE SEED: the statements are not yours to turn. If you find one false, say at which input.
  Laid BY PROGRAM, IN A SANDBOX (cutbox-rows.mjs): the forced cells as the released guide's own fill.sh prints them over the translation 4f11e5be387d4b50… (all of the seat's roots in one cut). By AI agents, Wed Nov 11 2026. No macro, syntax, notation, axiom, sorry.
-/
import Derived.Test.Qxb6606217aFmtChecked
import GoSem.Claim
import GoSem.ClaimJoined
import GoSem.ClaimMapViews
import Derived.JoinedTies
import Derived.KernelRfl
namespace Go.Proofs.Qxb6606217aFmt
/- THE CELL 'sum', in the pinned program and in every row, IS THE sha256 OF THE DUMP (.gsa) THAT Qxb6606217aFmtProg.lean LOADS. Nothing in Lean hashes anything: it is a label: what it is worth is what the hold of that sum in a sandbox is worth. -/
noncomputable def Tryf.pinned : Pinned := { name := "qxb6606217afmt", sum := "4f11e5be387d4b50c9a885ef837ee32cd408d0adead051439eb551825bf02e86", checked := Tryf.checked }
namespace Rows
def none {H : Type} : Left H := { results := [], args := [] }

/- WHAT THE LISTED PACKAGE-LEVEL VARIABLES READ AS WHEN THE CALL BEGINS. Each datum BY PROGRAM (the guide's laid-datum.mjs) off the statement by which the dump's own 'gosem.cut.vars' lays the variable. In a bare row this is a premise. The card (Qxb6606217aFmtCards.lean) ties it to the program's text. -/
def laid_example_com_backroute_backroute_wire_ErrMalformed {H : Type} : DataW H := .iface "*errors.errorString" (.ptr (.agg [.lit (.string [109, 97, 108, 102, 111, 114, 109, 101, 100, 32, 82, 69, 76, 79, 65, 68, 32, 109, 101, 115, 115, 97, 103, 101])]))

/-- 'zzlaws_wire_b1.FnDecoderU8ReadsBackInOrder': WHATEVER THE INPUT: true; the input reads as it did. -/
def fnDecoderU8ReadsBackInOrderSpec : ChangeSpec := { name := "fnDecoderU8ReadsBackInOrder", vars := ["example.com/backroute/backroute/wire.ErrMalformed"], fn := fun _ => fun
  | [d1, d2, d3, g1] => { results := [.lit (.bool true)], args := [d1, d2, d3], vars := [g1] }
  | _ => none }
def fnDecoderU8ReadsBackInOrderRow : OpenClaim := { program := "qxb6606217afmt", sum := "4f11e5be387d4b50c9a885ef837ee32cd408d0adead051439eb551825bf02e86", func := "example.com/backroute/backroute/zzlaws_wire_b1.FnDecoderU8ReadsBackInOrder", spec := "fnDecoderU8ReadsBackInOrder", stops := ["fmt.Sprintf, its operands' methods called", "fmt.errorf"], inPlace := ["fmt.Sprintf", "fmt.errorf"], unfollowed := true, recurses := true, named := ["example.com/backroute/backroute/wire.ErrMalformed"], ifaces := true, apart := false, laid := [("example.com/backroute/backroute/wire.ErrMalformed", laid_example_com_backroute_backroute_wire_ErrMalformed)] }
/-- NO THEOREM (fmt's text is open here; it may be false): for the released tool's asking of the row's closed facts alone. THE STATEMENT IS 'FnDecoderU8ReadsBackInOrderToldSaid' (Qxb6606217aFmtCards.lean). -/
def FnDecoderU8ReadsBackInOrderFormAsk : Prop := fnDecoderU8ReadsBackInOrderRow.holds Tryf.pinned (OpenSpec.ofChange fnDecoderU8ReadsBackInOrderSpec)

/-- ITS FALSE NEIGHBOUR: 'it returns false'. Refute it at one input. -/
def fnDecoderU8ReadsBackInOrderWrong : ChangeSpec := { name := "fnDecoderU8ReadsBackInOrder", vars := ["example.com/backroute/backroute/wire.ErrMalformed"], fn := fun _ => fun
  | [d1, d2, d3, g1] => { results := [.lit (.bool false)], args := [d1, d2, d3], vars := [g1] }
  | _ => none }
def FnDecoderU8ReadsBackInOrderWrongFormAsk : Prop := fnDecoderU8ReadsBackInOrderRow.holds Tryf.pinned (OpenSpec.ofChange fnDecoderU8ReadsBackInOrderWrong)

/-- 'zzlaws_wire_b1.FnDecodeLeaveRequestSpec': WHATEVER THE INPUT: true; the input reads as it did. -/
def fnDecodeLeaveRequestSpecSpec : ChangeSpec := { name := "fnDecodeLeaveRequestSpec", vars := ["example.com/backroute/backroute/wire.ErrMalformed"], fn := fun _ => fun
  | [d, g1] => { results := [.lit (.bool true)], args := [d], vars := [g1] }
  | _ => none }
def fnDecodeLeaveRequestSpecRow : OpenClaim := { program := "qxb6606217afmt", sum := "4f11e5be387d4b50c9a885ef837ee32cd408d0adead051439eb551825bf02e86", func := "example.com/backroute/backroute/zzlaws_wire_b1.FnDecodeLeaveRequestSpec", spec := "fnDecodeLeaveRequestSpec", stops := ["fmt.Sprintf, its operands' methods called", "fmt.errorf"], inPlace := ["fmt.Sprintf", "fmt.errorf"], unfollowed := true, recurses := true, named := ["example.com/backroute/backroute/wire.ErrMalformed"], ifaces := true, apart := false, laid := [("example.com/backroute/backroute/wire.ErrMalformed", laid_example_com_backroute_backroute_wire_ErrMalformed)] }
/-- NO THEOREM (fmt's text is open here; it may be false): for the released tool's asking of the row's closed facts alone. THE STATEMENT IS 'FnDecodeLeaveRequestSpecToldSaid' (Qxb6606217aFmtCards.lean). -/
def FnDecodeLeaveRequestSpecFormAsk : Prop := fnDecodeLeaveRequestSpecRow.holds Tryf.pinned (OpenSpec.ofChange fnDecodeLeaveRequestSpecSpec)

/-- ITS FALSE NEIGHBOUR: 'it returns false'. Refute it at one input. -/
def fnDecodeLeaveRequestSpecWrong : ChangeSpec := { name := "fnDecodeLeaveRequestSpec", vars := ["example.com/backroute/backroute/wire.ErrMalformed"], fn := fun _ => fun
  | [d, g1] => { results := [.lit (.bool false)], args := [d], vars := [g1] }
  | _ => none }
def FnDecodeLeaveRequestSpecWrongFormAsk : Prop := fnDecodeLeaveRequestSpecRow.holds Tryf.pinned (OpenSpec.ofChange fnDecodeLeaveRequestSpecWrong)

/-- 'zzlaws_wire_b1.FnDecodeLeaveRequestRoundTrip': WHATEVER THE INPUT: true; the input reads as it did. -/
def fnDecodeLeaveRequestRoundTripSpec : ChangeSpec := { name := "fnDecodeLeaveRequestRoundTrip", vars := ["example.com/backroute/backroute/wire.ErrMalformed"], fn := fun _ => fun
  | [d1, d2, d3, g1] => { results := [.lit (.bool true)], args := [d1, d2, d3], vars := [g1] }
  | _ => none }
def fnDecodeLeaveRequestRoundTripRow : OpenClaim := { program := "qxb6606217afmt", sum := "4f11e5be387d4b50c9a885ef837ee32cd408d0adead051439eb551825bf02e86", func := "example.com/backroute/backroute/zzlaws_wire_b1.FnDecodeLeaveRequestRoundTrip", spec := "fnDecodeLeaveRequestRoundTrip", stops := ["fmt.Sprintf, its operands' methods called", "fmt.errorf"], inPlace := ["fmt.Sprintf", "fmt.errorf"], unfollowed := true, recurses := true, named := ["example.com/backroute/backroute/wire.ErrMalformed"], ifaces := true, apart := false, laid := [("example.com/backroute/backroute/wire.ErrMalformed", laid_example_com_backroute_backroute_wire_ErrMalformed)] }
/-- NO THEOREM (fmt's text is open here; it may be false): for the released tool's asking of the row's closed facts alone. THE STATEMENT IS 'FnDecodeLeaveRequestRoundTripToldSaid' (Qxb6606217aFmtCards.lean). -/
def FnDecodeLeaveRequestRoundTripFormAsk : Prop := fnDecodeLeaveRequestRoundTripRow.holds Tryf.pinned (OpenSpec.ofChange fnDecodeLeaveRequestRoundTripSpec)

/-- ITS FALSE NEIGHBOUR: 'it returns false'. Refute it at one input. -/
def fnDecodeLeaveRequestRoundTripWrong : ChangeSpec := { name := "fnDecodeLeaveRequestRoundTrip", vars := ["example.com/backroute/backroute/wire.ErrMalformed"], fn := fun _ => fun
  | [d1, d2, d3, g1] => { results := [.lit (.bool false)], args := [d1, d2, d3], vars := [g1] }
  | _ => none }
def FnDecodeLeaveRequestRoundTripWrongFormAsk : Prop := fnDecodeLeaveRequestRoundTripRow.holds Tryf.pinned (OpenSpec.ofChange fnDecodeLeaveRequestRoundTripWrong)

end Rows
end Go.Proofs.Qxb6606217aFmt
