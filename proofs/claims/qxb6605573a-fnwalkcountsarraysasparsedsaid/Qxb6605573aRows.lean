/-
  No cell of these rows narrows 'for every input' (looked for: loops, veiled, ifaces, maps, wideKeys, modest, calm, conditions, laid).
  DERIVED. THE GIVEN ROWS OF THIS SEAT. 4 by the template 'for every input the law returns true; each argument reads behind the call as it read before'; 0 by the template 'total and deterministic' (their statements: Qxb6605573aTotals.lean).
  GIVEN WITH THE SEED: the statements are not yours to turn. If you find one false, say at which input.
  Laid BY PROGRAM, IN A SANDBOX (cutbox-rows.mjs): the forced cells as the released guide's own fill.sh prints them over the translation 77ed9c859880801e… (all of the seat's roots in one cut). By AI agents, Wed Nov 11 2026. No macro, syntax, notation, axiom, sorry.
-/
import Derived.Test.Qxb6605573aChecked
import GoSem.Claim
import GoSem.ClaimJoined
import GoSem.ClaimMapViews
import Derived.JoinedTies
import Derived.KernelRfl
namespace Go.Proofs.Qxb6605573a
/- THE CELL 'sum', in the pinned program and in every row, IS THE sha256 OF THE DUMP (.gsa) THAT Qxb6605573aProg.lean LOADS. Nothing in Lean hashes anything: it is a label: what it is worth is what the hold of that sum in a sandbox is worth. -/
noncomputable def Try.pinned : Pinned := { name := "qxb6605573a", sum := "77ed9c859880801ec8dcfdc052b482eaece4f415eee4947b088ae28b73716bd9", checked := Try.checked }
namespace Rows
def none {H : Type} : Left H := { results := [], args := [] }

/-- 'zzlaws_internal_strictjson_b1.FnCheckNumberIsNumberAutomaton': WHATEVER THE INPUT: true; the input reads as it did. -/
def fnCheckNumberIsNumberAutomatonSpec : ChangeSpec := { name := "fnCheckNumberIsNumberAutomaton", fn := fun _ => fun
  | [d1, d2] => { results := [.lit (.bool true)], args := [d1, d2] }
  | _ => none }
def fnCheckNumberIsNumberAutomatonRow : OpenClaim := { program := "qxb6605573a", sum := "77ed9c859880801ec8dcfdc052b482eaece4f415eee4947b088ae28b73716bd9", func := "example.com/gawain/gawain/zzlaws_internal_strictjson_b1.FnCheckNumberIsNumberAutomaton", spec := "fnCheckNumberIsNumberAutomaton", apart := false }
def FnCheckNumberIsNumberAutomatonSaid : Prop := fnCheckNumberIsNumberAutomatonRow.holds Try.pinned (OpenSpec.ofChange fnCheckNumberIsNumberAutomatonSpec)

/-- ITS FALSE NEIGHBOUR: 'it returns false'. Refute it at one input. -/
def fnCheckNumberIsNumberAutomatonWrong : ChangeSpec := { name := "fnCheckNumberIsNumberAutomaton", fn := fun _ => fun
  | [d1, d2] => { results := [.lit (.bool false)], args := [d1, d2] }
  | _ => none }
def FnCheckNumberIsNumberAutomatonWrongFalsely : Prop := fnCheckNumberIsNumberAutomatonRow.holds Try.pinned (OpenSpec.ofChange fnCheckNumberIsNumberAutomatonWrong)

/-- 'zzlaws_internal_strictjson_b1.FnEndIsEndOfValue': WHATEVER THE INPUT: true; the input reads as it did. -/
def fnEndIsEndOfValueSpec : ChangeSpec := { name := "fnEndIsEndOfValue", fn := fun _ => fun
  | [d1, d2, d3, d4, d5] => { results := [.lit (.bool true)], args := [d1, d2, d3, d4, d5] }
  | _ => none }
def fnEndIsEndOfValueRow : OpenClaim := { program := "qxb6605573a", sum := "77ed9c859880801ec8dcfdc052b482eaece4f415eee4947b088ae28b73716bd9", func := "example.com/gawain/gawain/zzlaws_internal_strictjson_b1.FnEndIsEndOfValue", spec := "fnEndIsEndOfValue", inPlace := ["internal/bytealg.IndexByte"], recurses := true, apart := false }
def FnEndIsEndOfValueSaid : Prop := fnEndIsEndOfValueRow.holds Try.pinned (OpenSpec.ofChange fnEndIsEndOfValueSpec)

/-- ITS FALSE NEIGHBOUR: 'it returns false'. Refute it at one input. -/
def fnEndIsEndOfValueWrong : ChangeSpec := { name := "fnEndIsEndOfValue", fn := fun _ => fun
  | [d1, d2, d3, d4, d5] => { results := [.lit (.bool false)], args := [d1, d2, d3, d4, d5] }
  | _ => none }
def FnEndIsEndOfValueWrongFalsely : Prop := fnEndIsEndOfValueRow.holds Try.pinned (OpenSpec.ofChange fnEndIsEndOfValueWrong)

/-- 'zzlaws_internal_strictjson_b1.FnWalkCountsArraysAsParsed': WHATEVER THE INPUT: true; the input reads as it did. -/
def fnWalkCountsArraysAsParsedSpec : ChangeSpec := { name := "fnWalkCountsArraysAsParsed", fn := fun _ => fun
  | [d1, d2, d3, d4, d5, d6] => { results := [.lit (.bool true)], args := [d1, d2, d3, d4, d5, d6] }
  | _ => none }
def fnWalkCountsArraysAsParsedRow : OpenClaim := { program := "qxb6605573a", sum := "77ed9c859880801ec8dcfdc052b482eaece4f415eee4947b088ae28b73716bd9", func := "example.com/gawain/gawain/zzlaws_internal_strictjson_b1.FnWalkCountsArraysAsParsed", spec := "fnWalkCountsArraysAsParsed", recurses := true, apart := false }
def FnWalkCountsArraysAsParsedSaid : Prop := fnWalkCountsArraysAsParsedRow.holds Try.pinned (OpenSpec.ofChange fnWalkCountsArraysAsParsedSpec)

/-- ITS FALSE NEIGHBOUR: 'it returns false'. Refute it at one input. -/
def fnWalkCountsArraysAsParsedWrong : ChangeSpec := { name := "fnWalkCountsArraysAsParsed", fn := fun _ => fun
  | [d1, d2, d3, d4, d5, d6] => { results := [.lit (.bool false)], args := [d1, d2, d3, d4, d5, d6] }
  | _ => none }
def FnWalkCountsArraysAsParsedWrongFalsely : Prop := fnWalkCountsArraysAsParsedRow.holds Try.pinned (OpenSpec.ofChange fnWalkCountsArraysAsParsedWrong)

/-- 'zzlaws_internal_strictjson_b1.FnEndStepsMatchWalkCount': WHATEVER THE INPUT: true; the input reads as it did. -/
def fnEndStepsMatchWalkCountSpec : ChangeSpec := { name := "fnEndStepsMatchWalkCount", fn := fun _ => fun
  | [d1, d2, d3, d4, d5] => { results := [.lit (.bool true)], args := [d1, d2, d3, d4, d5] }
  | _ => none }
def fnEndStepsMatchWalkCountRow : OpenClaim := { program := "qxb6605573a", sum := "77ed9c859880801ec8dcfdc052b482eaece4f415eee4947b088ae28b73716bd9", func := "example.com/gawain/gawain/zzlaws_internal_strictjson_b1.FnEndStepsMatchWalkCount", spec := "fnEndStepsMatchWalkCount", inPlace := ["internal/bytealg.IndexByte"], recurses := true, apart := false }
def FnEndStepsMatchWalkCountSaid : Prop := fnEndStepsMatchWalkCountRow.holds Try.pinned (OpenSpec.ofChange fnEndStepsMatchWalkCountSpec)

/-- ITS FALSE NEIGHBOUR: 'it returns false'. Refute it at one input. -/
def fnEndStepsMatchWalkCountWrong : ChangeSpec := { name := "fnEndStepsMatchWalkCount", fn := fun _ => fun
  | [d1, d2, d3, d4, d5] => { results := [.lit (.bool false)], args := [d1, d2, d3, d4, d5] }
  | _ => none }
def FnEndStepsMatchWalkCountWrongFalsely : Prop := fnEndStepsMatchWalkCountRow.holds Try.pinned (OpenSpec.ofChange fnEndStepsMatchWalkCountWrong)

end Rows
end Go.Proofs.Qxb6605573a
