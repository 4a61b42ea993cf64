/-
  No cell of these rows narrows 'for every input' (looked for: loops, veiled, ifaces, maps, wideKeys, modest, calm, conditions, laid).
  DERIVED. THE GIVEN ROWS OF THIS SEAT. 3 by the template 'for every input the law returns true; each argument reads behind the call as it read before'; 0 by the template 'total and deterministic' (their statements: Qxb6619538aTotals.lean).
  GIVEN WITH THE SEED: the statements are not yours to turn. If you find one false, say at which input.
  Laid BY PROGRAM, IN A SANDBOX (cutbox-rows.mjs): the forced cells as the released guide's own fill.sh prints them over the translation b617856c077e0885… (all of the seat's roots in one cut). By AI agents, Wed Nov 11 2026. No macro, syntax, notation, axiom, sorry.
-/
import Derived.Test.Qxb6619538aChecked
import GoSem.Claim
import GoSem.ClaimJoined
import GoSem.ClaimMapViews
import Derived.JoinedTies
import Derived.KernelRfl
namespace Go.Proofs.Qxb6619538a
/- THE CELL 'sum', in the pinned program and in every row, IS THE sha256 OF THE DUMP (.gsa) THAT Qxb6619538aProg.lean LOADS. Nothing in Lean hashes anything: it is a label: what it is worth is what the hold of that sum in a sandbox is worth. -/
noncomputable def Try.pinned : Pinned := { name := "qxb6619538a", sum := "b617856c077e088548dc48b2ac5af2132899983cbed056dc35685f740c4f0219", checked := Try.checked }
namespace Rows
def none {H : Type} : Left H := { results := [], args := [] }

/-- 'zzlaws_root_b1.FnSubtractRoundTrip': WHATEVER THE INPUT: true; the input reads as it did. -/
def fnSubtractRoundTripSpec : ChangeSpec := { name := "fnSubtractRoundTrip", fn := fun _ => fun
  | [d1, d2] => { results := [.lit (.bool true)], args := [d1, d2] }
  | _ => none }
def fnSubtractRoundTripRow : OpenClaim := { program := "qxb6619538a", sum := "b617856c077e088548dc48b2ac5af2132899983cbed056dc35685f740c4f0219", func := "example.com/latchwork/latchwork/zzlaws_root_b1.FnSubtractRoundTrip", spec := "fnSubtractRoundTrip", apart := false }
def FnSubtractRoundTripSaid : Prop := fnSubtractRoundTripRow.holds Try.pinned (OpenSpec.ofChange fnSubtractRoundTripSpec)

/-- ITS FALSE NEIGHBOUR: 'it returns false'. Refute it at one input. -/
def fnSubtractRoundTripWrong : ChangeSpec := { name := "fnSubtractRoundTrip", fn := fun _ => fun
  | [d1, d2] => { results := [.lit (.bool false)], args := [d1, d2] }
  | _ => none }
def FnSubtractRoundTripWrongFalsely : Prop := fnSubtractRoundTripRow.holds Try.pinned (OpenSpec.ofChange fnSubtractRoundTripWrong)

/-- 'zzlaws_root_b1.FnSubtractTwiceTakesTheSum': WHATEVER THE INPUT: true; the input reads as it did. -/
def fnSubtractTwiceTakesTheSumSpec : ChangeSpec := { name := "fnSubtractTwiceTakesTheSum", fn := fun _ => fun
  | [d1, d2, d3] => { results := [.lit (.bool true)], args := [d1, d2, d3] }
  | _ => none }
def fnSubtractTwiceTakesTheSumRow : OpenClaim := { program := "qxb6619538a", sum := "b617856c077e088548dc48b2ac5af2132899983cbed056dc35685f740c4f0219", func := "example.com/latchwork/latchwork/zzlaws_root_b1.FnSubtractTwiceTakesTheSum", spec := "fnSubtractTwiceTakesTheSum", apart := false }
def FnSubtractTwiceTakesTheSumSaid : Prop := fnSubtractTwiceTakesTheSumRow.holds Try.pinned (OpenSpec.ofChange fnSubtractTwiceTakesTheSumSpec)

/-- ITS FALSE NEIGHBOUR: 'it returns false'. Refute it at one input. -/
def fnSubtractTwiceTakesTheSumWrong : ChangeSpec := { name := "fnSubtractTwiceTakesTheSum", fn := fun _ => fun
  | [d1, d2, d3] => { results := [.lit (.bool false)], args := [d1, d2, d3] }
  | _ => none }
def FnSubtractTwiceTakesTheSumWrongFalsely : Prop := fnSubtractTwiceTakesTheSumRow.holds Try.pinned (OpenSpec.ofChange fnSubtractTwiceTakesTheSumWrong)

/-- 'zzlaws_root_b1.FnSubtractSelfEmpties': WHATEVER THE INPUT: true; the input reads as it did. -/
def fnSubtractSelfEmptiesSpec : ChangeSpec := { name := "fnSubtractSelfEmpties", fn := fun _ => fun
  | [d] => { results := [.lit (.bool true)], args := [d] }
  | _ => none }
def fnSubtractSelfEmptiesRow : OpenClaim := { program := "qxb6619538a", sum := "b617856c077e088548dc48b2ac5af2132899983cbed056dc35685f740c4f0219", func := "example.com/latchwork/latchwork/zzlaws_root_b1.FnSubtractSelfEmpties", spec := "fnSubtractSelfEmpties", apart := false }
def FnSubtractSelfEmptiesSaid : Prop := fnSubtractSelfEmptiesRow.holds Try.pinned (OpenSpec.ofChange fnSubtractSelfEmptiesSpec)

/-- ITS FALSE NEIGHBOUR: 'it returns false'. Refute it at one input. -/
def fnSubtractSelfEmptiesWrong : ChangeSpec := { name := "fnSubtractSelfEmpties", fn := fun _ => fun
  | [d] => { results := [.lit (.bool false)], args := [d] }
  | _ => none }
def FnSubtractSelfEmptiesWrongFalsely : Prop := fnSubtractSelfEmptiesRow.holds Try.pinned (OpenSpec.ofChange fnSubtractSelfEmptiesWrong)

end Rows
end Go.Proofs.Qxb6619538a
