/-
  No cell of these rows narrows 'for every input' (looked for: loops, veiled, ifaces, maps, wideKeys, modest, calm, conditions, laid).
  DERIVED. THE GIVEN ROWS OF THIS SEAT. 3 by the template 'for every input the law returns true; each argument reads behind the call as it read before'; 0 by the template 'total and deterministic' (their statements: Qxb6606378aTotals.lean).
  GIVEN WITH THE SEED: the statements are not yours to turn. If you find one false, say at which input.
  Laid BY PROGRAM, IN A SANDBOX (cutbox-rows.mjs): the forced cells as the released guide's own fill.sh prints them over the translation 54cc360261ca32d5… (all of the seat's roots in one cut). By AI agents, Wed Nov 11 2026. No macro, syntax, notation, axiom, sorry.
-/
import Derived.Test.Qxb6606378aChecked
import GoSem.Claim
import GoSem.ClaimJoined
import GoSem.ClaimMapViews
import Derived.JoinedTies
import Derived.KernelRfl
namespace Go.Proofs.Qxb6606378a
/- THE CELL 'sum', in the pinned program and in every row, IS THE sha256 OF THE DUMP (.gsa) THAT Qxb6606378aProg.lean LOADS. Nothing in Lean hashes anything: it is a label: what it is worth is what the hold of that sum in a sandbox is worth. -/
noncomputable def Try.pinned : Pinned := { name := "qxb6606378a", sum := "54cc360261ca32d55b5b3f02ef82870340ff8fe597d63fba360d12cdff5284a0", checked := Try.checked }
namespace Rows
def none {H : Type} : Left H := { results := [], args := [] }

/-- 'zzlaws_internal_selector_b1.FnTokenizeRenderedTokensReadBackAlike': WHATEVER THE INPUT: true; the input reads as it did. -/
def fnTokenizeRenderedTokensReadBackAlikeSpec : ChangeSpec := { name := "fnTokenizeRenderedTokensReadBackAlike", fn := fun _ => fun
  | [d] => { results := [.lit (.bool true)], args := [d] }
  | _ => none }
def fnTokenizeRenderedTokensReadBackAlikeRow : OpenClaim := { program := "qxb6606378a", sum := "54cc360261ca32d55b5b3f02ef82870340ff8fe597d63fba360d12cdff5284a0", func := "example.com/consistent-list-watch/consistent-list-watch/zzlaws_internal_selector_b1.FnTokenizeRenderedTokensReadBackAlike", spec := "fnTokenizeRenderedTokensReadBackAlike", inPlace := ["internal/bytealg.IndexByteString"], apart := false }
def FnTokenizeRenderedTokensReadBackAlikeSaid : Prop := fnTokenizeRenderedTokensReadBackAlikeRow.holds Try.pinned (OpenSpec.ofChange fnTokenizeRenderedTokensReadBackAlikeSpec)

/-- ITS FALSE NEIGHBOUR: 'it returns false'. Refute it at one input. -/
def fnTokenizeRenderedTokensReadBackAlikeWrong : ChangeSpec := { name := "fnTokenizeRenderedTokensReadBackAlike", fn := fun _ => fun
  | [d] => { results := [.lit (.bool false)], args := [d] }
  | _ => none }
def FnTokenizeRenderedTokensReadBackAlikeWrongFalsely : Prop := fnTokenizeRenderedTokensReadBackAlikeRow.holds Try.pinned (OpenSpec.ofChange fnTokenizeRenderedTokensReadBackAlikeWrong)

/-- 'zzlaws_internal_selector_b1.FnMatchesOpsComeInComplementaryPairs': WHATEVER THE INPUT: true; the input reads as it did. -/
def fnMatchesOpsComeInComplementaryPairsSpec : ChangeSpec := { name := "fnMatchesOpsComeInComplementaryPairs", fn := fun _ => fun
  | [d1, d2, d3, d4] => { results := [.lit (.bool true)], args := [d1, d2, d3, d4] }
  | _ => none }
def fnMatchesOpsComeInComplementaryPairsRow : OpenClaim := { program := "qxb6606378a", sum := "54cc360261ca32d55b5b3f02ef82870340ff8fe597d63fba360d12cdff5284a0", func := "example.com/consistent-list-watch/consistent-list-watch/zzlaws_internal_selector_b1.FnMatchesOpsComeInComplementaryPairs", spec := "fnMatchesOpsComeInComplementaryPairs", apart := false }
def FnMatchesOpsComeInComplementaryPairsSaid : Prop := fnMatchesOpsComeInComplementaryPairsRow.holds Try.pinned (OpenSpec.ofChange fnMatchesOpsComeInComplementaryPairsSpec)

/-- ITS FALSE NEIGHBOUR: 'it returns false'. Refute it at one input. -/
def fnMatchesOpsComeInComplementaryPairsWrong : ChangeSpec := { name := "fnMatchesOpsComeInComplementaryPairs", fn := fun _ => fun
  | [d1, d2, d3, d4] => { results := [.lit (.bool false)], args := [d1, d2, d3, d4] }
  | _ => none }
def FnMatchesOpsComeInComplementaryPairsWrongFalsely : Prop := fnMatchesOpsComeInComplementaryPairsRow.holds Try.pinned (OpenSpec.ofChange fnMatchesOpsComeInComplementaryPairsWrong)

/-- 'zzlaws_internal_selector_b1.FnMatchesInGrowsByExactlyTheAddedValue': WHATEVER THE INPUT: true; the input reads as it did. -/
def fnMatchesInGrowsByExactlyTheAddedValueSpec : ChangeSpec := { name := "fnMatchesInGrowsByExactlyTheAddedValue", fn := fun _ => fun
  | [d1, d2, d3, d4, d5] => { results := [.lit (.bool true)], args := [d1, d2, d3, d4, d5] }
  | _ => none }
def fnMatchesInGrowsByExactlyTheAddedValueRow : OpenClaim := { program := "qxb6606378a", sum := "54cc360261ca32d55b5b3f02ef82870340ff8fe597d63fba360d12cdff5284a0", func := "example.com/consistent-list-watch/consistent-list-watch/zzlaws_internal_selector_b1.FnMatchesInGrowsByExactlyTheAddedValue", spec := "fnMatchesInGrowsByExactlyTheAddedValue", apart := false }
def FnMatchesInGrowsByExactlyTheAddedValueSaid : Prop := fnMatchesInGrowsByExactlyTheAddedValueRow.holds Try.pinned (OpenSpec.ofChange fnMatchesInGrowsByExactlyTheAddedValueSpec)

/-- ITS FALSE NEIGHBOUR: 'it returns false'. Refute it at one input. -/
def fnMatchesInGrowsByExactlyTheAddedValueWrong : ChangeSpec := { name := "fnMatchesInGrowsByExactlyTheAddedValue", fn := fun _ => fun
  | [d1, d2, d3, d4, d5] => { results := [.lit (.bool false)], args := [d1, d2, d3, d4, d5] }
  | _ => none }
def FnMatchesInGrowsByExactlyTheAddedValueWrongFalsely : Prop := fnMatchesInGrowsByExactlyTheAddedValueRow.holds Try.pinned (OpenSpec.ofChange fnMatchesInGrowsByExactlyTheAddedValueWrong)

end Rows
end Go.Proofs.Qxb6606378a
