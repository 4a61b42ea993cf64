/-
  No cell of these rows narrows 'for every input' (looked for: loops, veiled, ifaces, maps, wideKeys, modest, calm, conditions, laid).
  DERIVED. THE GIVEN ROWS OF THIS SEAT. 5 by the template 'for every input the law returns true; each argument reads behind the call as it read before'; 0 by the template 'total and deterministic' (their statements: Qxb6621684aTotals.lean).
  GIVEN WITH THE SEED: the statements are not yours to turn. If you find one false, say at which input.
  Laid BY PROGRAM, IN A SANDBOX (cutbox-rows.mjs): the forced cells as the released guide's own fill.sh prints them over the translation 581976d841076810… (all of the seat's roots in one cut). By AI agents, Wed Nov 11 2026. No macro, syntax, notation, axiom, sorry.
-/
import Derived.Test.Qxb6621684aChecked
import GoSem.Claim
import GoSem.ClaimJoined
import GoSem.ClaimMapViews
import Derived.JoinedTies
import Derived.KernelRfl
namespace Go.Proofs.Qxb6621684a
/- THE CELL 'sum', in the pinned program and in every row, IS THE sha256 OF THE DUMP (.gsa) THAT Qxb6621684aProg.lean LOADS. Nothing in Lean hashes anything: it is a label: what it is worth is what the hold of that sum in a sandbox is worth. -/
noncomputable def Try.pinned : Pinned := { name := "qxb6621684a", sum := "581976d84107681085094153d8f27d07ef31692c61d3f06b608e9843b8501e94", checked := Try.checked }
namespace Rows
def none {H : Type} : Left H := { results := [], args := [] }

/-- 'zzlaws_detect_b1.FnAmountLayoutByPlaceFromTheRight': WHATEVER THE INPUT: true; the input reads as it did. -/
def fnAmountLayoutByPlaceFromTheRightSpec : ChangeSpec := { name := "fnAmountLayoutByPlaceFromTheRight", fn := fun _ => fun
  | [d] => { results := [.lit (.bool true)], args := [d] }
  | _ => none }
def fnAmountLayoutByPlaceFromTheRightRow : OpenClaim := { program := "qxb6621684a", sum := "581976d84107681085094153d8f27d07ef31692c61d3f06b608e9843b8501e94", func := "example.com/veilgate/veilgate/zzlaws_detect_b1.FnAmountLayoutByPlaceFromTheRight", spec := "fnAmountLayoutByPlaceFromTheRight", apart := false }
def FnAmountLayoutByPlaceFromTheRightSaid : Prop := fnAmountLayoutByPlaceFromTheRightRow.holds Try.pinned (OpenSpec.ofChange fnAmountLayoutByPlaceFromTheRightSpec)

/-- ITS FALSE NEIGHBOUR: 'it returns false'. Refute it at one input. -/
def fnAmountLayoutByPlaceFromTheRightWrong : ChangeSpec := { name := "fnAmountLayoutByPlaceFromTheRight", fn := fun _ => fun
  | [d] => { results := [.lit (.bool false)], args := [d] }
  | _ => none }
def FnAmountLayoutByPlaceFromTheRightWrongFalsely : Prop := fnAmountLayoutByPlaceFromTheRightRow.holds Try.pinned (OpenSpec.ofChange fnAmountLayoutByPlaceFromTheRightWrong)

/-- 'zzlaws_detect_b1.FnIbanCheckReadsTheRearrangedCode': WHATEVER THE INPUT: true; the input reads as it did. -/
def fnIbanCheckReadsTheRearrangedCodeSpec : ChangeSpec := { name := "fnIbanCheckReadsTheRearrangedCode", fn := fun _ => fun
  | [d] => { results := [.lit (.bool true)], args := [d] }
  | _ => none }
def fnIbanCheckReadsTheRearrangedCodeRow : OpenClaim := { program := "qxb6621684a", sum := "581976d84107681085094153d8f27d07ef31692c61d3f06b608e9843b8501e94", func := "example.com/veilgate/veilgate/zzlaws_detect_b1.FnIbanCheckReadsTheRearrangedCode", spec := "fnIbanCheckReadsTheRearrangedCode", apart := false }
def FnIbanCheckReadsTheRearrangedCodeSaid : Prop := fnIbanCheckReadsTheRearrangedCodeRow.holds Try.pinned (OpenSpec.ofChange fnIbanCheckReadsTheRearrangedCodeSpec)

/-- ITS FALSE NEIGHBOUR: 'it returns false'. Refute it at one input. -/
def fnIbanCheckReadsTheRearrangedCodeWrong : ChangeSpec := { name := "fnIbanCheckReadsTheRearrangedCode", fn := fun _ => fun
  | [d] => { results := [.lit (.bool false)], args := [d] }
  | _ => none }
def FnIbanCheckReadsTheRearrangedCodeWrongFalsely : Prop := fnIbanCheckReadsTheRearrangedCodeRow.holds Try.pinned (OpenSpec.ofChange fnIbanCheckReadsTheRearrangedCodeWrong)

/-- 'zzlaws_detect_b1.FnIbanCheckIgnoresLetterCase': WHATEVER THE INPUT: true; the input reads as it did. -/
def fnIbanCheckIgnoresLetterCaseSpec : ChangeSpec := { name := "fnIbanCheckIgnoresLetterCase", fn := fun _ => fun
  | [d] => { results := [.lit (.bool true)], args := [d] }
  | _ => none }
def fnIbanCheckIgnoresLetterCaseRow : OpenClaim := { program := "qxb6621684a", sum := "581976d84107681085094153d8f27d07ef31692c61d3f06b608e9843b8501e94", func := "example.com/veilgate/veilgate/zzlaws_detect_b1.FnIbanCheckIgnoresLetterCase", spec := "fnIbanCheckIgnoresLetterCase", apart := false }
def FnIbanCheckIgnoresLetterCaseSaid : Prop := fnIbanCheckIgnoresLetterCaseRow.holds Try.pinned (OpenSpec.ofChange fnIbanCheckIgnoresLetterCaseSpec)

/-- ITS FALSE NEIGHBOUR: 'it returns false'. Refute it at one input. -/
def fnIbanCheckIgnoresLetterCaseWrong : ChangeSpec := { name := "fnIbanCheckIgnoresLetterCase", fn := fun _ => fun
  | [d] => { results := [.lit (.bool false)], args := [d] }
  | _ => none }
def FnIbanCheckIgnoresLetterCaseWrongFalsely : Prop := fnIbanCheckIgnoresLetterCaseRow.holds Try.pinned (OpenSpec.ofChange fnIbanCheckIgnoresLetterCaseWrong)

/-- 'zzlaws_detect_b1.FnMergeOverlapsJoinsEachChain': WHATEVER THE INPUT: true; the input reads as it did. -/
def fnMergeOverlapsJoinsEachChainSpec : ChangeSpec := { name := "fnMergeOverlapsJoinsEachChain", fn := fun _ => fun
  | [d] => { results := [.lit (.bool true)], args := [d] }
  | _ => none }
def fnMergeOverlapsJoinsEachChainRow : OpenClaim := { program := "qxb6621684a", sum := "581976d84107681085094153d8f27d07ef31692c61d3f06b608e9843b8501e94", func := "example.com/veilgate/veilgate/zzlaws_detect_b1.FnMergeOverlapsJoinsEachChain", spec := "fnMergeOverlapsJoinsEachChain", apart := false }
def FnMergeOverlapsJoinsEachChainSaid : Prop := fnMergeOverlapsJoinsEachChainRow.holds Try.pinned (OpenSpec.ofChange fnMergeOverlapsJoinsEachChainSpec)

/-- ITS FALSE NEIGHBOUR: 'it returns false'. Refute it at one input. -/
def fnMergeOverlapsJoinsEachChainWrong : ChangeSpec := { name := "fnMergeOverlapsJoinsEachChain", fn := fun _ => fun
  | [d] => { results := [.lit (.bool false)], args := [d] }
  | _ => none }
def FnMergeOverlapsJoinsEachChainWrongFalsely : Prop := fnMergeOverlapsJoinsEachChainRow.holds Try.pinned (OpenSpec.ofChange fnMergeOverlapsJoinsEachChainWrong)

/-- 'zzlaws_detect_b1.FnMergeOverlapsFoldsAtAnyCut': WHATEVER THE INPUT: true; the input reads as it did. -/
def fnMergeOverlapsFoldsAtAnyCutSpec : ChangeSpec := { name := "fnMergeOverlapsFoldsAtAnyCut", fn := fun _ => fun
  | [d1, d2] => { results := [.lit (.bool true)], args := [d1, d2] }
  | _ => none }
def fnMergeOverlapsFoldsAtAnyCutRow : OpenClaim := { program := "qxb6621684a", sum := "581976d84107681085094153d8f27d07ef31692c61d3f06b608e9843b8501e94", func := "example.com/veilgate/veilgate/zzlaws_detect_b1.FnMergeOverlapsFoldsAtAnyCut", spec := "fnMergeOverlapsFoldsAtAnyCut", apart := false }
def FnMergeOverlapsFoldsAtAnyCutSaid : Prop := fnMergeOverlapsFoldsAtAnyCutRow.holds Try.pinned (OpenSpec.ofChange fnMergeOverlapsFoldsAtAnyCutSpec)

/-- ITS FALSE NEIGHBOUR: 'it returns false'. Refute it at one input. -/
def fnMergeOverlapsFoldsAtAnyCutWrong : ChangeSpec := { name := "fnMergeOverlapsFoldsAtAnyCut", fn := fun _ => fun
  | [d1, d2] => { results := [.lit (.bool false)], args := [d1, d2] }
  | _ => none }
def FnMergeOverlapsFoldsAtAnyCutWrongFalsely : Prop := fnMergeOverlapsFoldsAtAnyCutRow.holds Try.pinned (OpenSpec.ofChange fnMergeOverlapsFoldsAtAnyCutWrong)

end Rows
end Go.Proofs.Qxb6621684a
