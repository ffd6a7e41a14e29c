/-
  No cell of these rows narrows 'for every input' (looked for: loops, veiled, ifaces, maps, wideKeys, modest, calm, conditions, laid).
  DERIVED. THE GIVEN ROWS OF THIS SEAT. 6 by the template 'for every input the law returns true; each argument reads behind the call as it read before'; 0 by the template 'total and deterministic' (their statements: Qxb6602422aTotals.lean).
  GIVEN WITH THE SEED: the statements are not yours to turn. If you find one false, say at which input.
  Laid BY PROGRAM, IN A SANDBOX (cutbox-rows.mjs): the forced cells as the released guide's own fill.sh prints them over the translation efde989dc9aa4b6f… (all of the seat's roots in one cut). By AI agents, Wed Nov 11 2026. No macro, syntax, notation, axiom, sorry.
-/
import Derived.Test.Qxb6602422aChecked
import GoSem.Claim
import GoSem.ClaimJoined
import GoSem.ClaimMapViews
import Derived.JoinedTies
import Derived.KernelRfl
namespace Go.Proofs.Qxb6602422a
/- THE CELL 'sum', in the pinned program and in every row, IS THE sha256 OF THE DUMP (.gsa) THAT Qxb6602422aProg.lean LOADS. Nothing in Lean hashes anything: it is a label: what it is worth is what the hold of that sum in a sandbox is worth. -/
noncomputable def Try.pinned : Pinned := { name := "qxb6602422a", sum := "efde989dc9aa4b6fbfdc4af5c1b6fb7dfb66cbf792fb5e1baf234f976d7eb86d", checked := Try.checked }
namespace Rows
def none {H : Type} : Left H := { results := [], args := [] }

/-- 'zzlaws_field_b1.FnInterpolateEvaluatesBack': WHATEVER THE INPUT: true; the input reads as it did. -/
def fnInterpolateEvaluatesBackSpec : ChangeSpec := { name := "fnInterpolateEvaluatesBack", fn := fun _ => fun
  | [d] => { results := [.lit (.bool true)], args := [d] }
  | _ => none }
def fnInterpolateEvaluatesBackRow : OpenClaim := { program := "qxb6602422a", sum := "efde989dc9aa4b6fbfdc4af5c1b6fb7dfb66cbf792fb5e1baf234f976d7eb86d", func := "example.com/ringweave/ringweave/zzlaws_field_b1.FnInterpolateEvaluatesBack", spec := "fnInterpolateEvaluatesBack", apart := false }
def FnInterpolateEvaluatesBackSaid : Prop := fnInterpolateEvaluatesBackRow.holds Try.pinned (OpenSpec.ofChange fnInterpolateEvaluatesBackSpec)

/-- ITS FALSE NEIGHBOUR: 'it returns false'. Refute it at one input. -/
def fnInterpolateEvaluatesBackWrong : ChangeSpec := { name := "fnInterpolateEvaluatesBack", fn := fun _ => fun
  | [d] => { results := [.lit (.bool false)], args := [d] }
  | _ => none }
def FnInterpolateEvaluatesBackWrongFalsely : Prop := fnInterpolateEvaluatesBackRow.holds Try.pinned (OpenSpec.ofChange fnInterpolateEvaluatesBackWrong)

/-- 'zzlaws_field_b1.FnInterpolateRoundTripsCoefficients': WHATEVER THE INPUT: true; the input reads as it did. -/
def fnInterpolateRoundTripsCoefficientsSpec : ChangeSpec := { name := "fnInterpolateRoundTripsCoefficients", fn := fun _ => fun
  | [d] => { results := [.lit (.bool true)], args := [d] }
  | _ => none }
def fnInterpolateRoundTripsCoefficientsRow : OpenClaim := { program := "qxb6602422a", sum := "efde989dc9aa4b6fbfdc4af5c1b6fb7dfb66cbf792fb5e1baf234f976d7eb86d", func := "example.com/ringweave/ringweave/zzlaws_field_b1.FnInterpolateRoundTripsCoefficients", spec := "fnInterpolateRoundTripsCoefficients", apart := false }
def FnInterpolateRoundTripsCoefficientsSaid : Prop := fnInterpolateRoundTripsCoefficientsRow.holds Try.pinned (OpenSpec.ofChange fnInterpolateRoundTripsCoefficientsSpec)

/-- ITS FALSE NEIGHBOUR: 'it returns false'. Refute it at one input. -/
def fnInterpolateRoundTripsCoefficientsWrong : ChangeSpec := { name := "fnInterpolateRoundTripsCoefficients", fn := fun _ => fun
  | [d] => { results := [.lit (.bool false)], args := [d] }
  | _ => none }
def FnInterpolateRoundTripsCoefficientsWrongFalsely : Prop := fnInterpolateRoundTripsCoefficientsRow.holds Try.pinned (OpenSpec.ofChange fnInterpolateRoundTripsCoefficientsWrong)

/-- 'zzlaws_field_b1.FnInterpolateIsLinear': WHATEVER THE INPUT: true; the input reads as it did. -/
def fnInterpolateIsLinearSpec : ChangeSpec := { name := "fnInterpolateIsLinear", fn := fun _ => fun
  | [d1, d2] => { results := [.lit (.bool true)], args := [d1, d2] }
  | _ => none }
def fnInterpolateIsLinearRow : OpenClaim := { program := "qxb6602422a", sum := "efde989dc9aa4b6fbfdc4af5c1b6fb7dfb66cbf792fb5e1baf234f976d7eb86d", func := "example.com/ringweave/ringweave/zzlaws_field_b1.FnInterpolateIsLinear", spec := "fnInterpolateIsLinear", apart := false }
def FnInterpolateIsLinearSaid : Prop := fnInterpolateIsLinearRow.holds Try.pinned (OpenSpec.ofChange fnInterpolateIsLinearSpec)

/-- ITS FALSE NEIGHBOUR: 'it returns false'. Refute it at one input. -/
def fnInterpolateIsLinearWrong : ChangeSpec := { name := "fnInterpolateIsLinear", fn := fun _ => fun
  | [d1, d2] => { results := [.lit (.bool false)], args := [d1, d2] }
  | _ => none }
def FnInterpolateIsLinearWrongFalsely : Prop := fnInterpolateIsLinearRow.holds Try.pinned (OpenSpec.ofChange fnInterpolateIsLinearWrong)

/-- 'zzlaws_field_b1.FnInvMatchesExtendedEuclid': WHATEVER THE INPUT: true; the input reads as it did. -/
def fnInvMatchesExtendedEuclidSpec : ChangeSpec := { name := "fnInvMatchesExtendedEuclid", fn := fun _ => fun
  | [d] => { results := [.lit (.bool true)], args := [d] }
  | _ => none }
def fnInvMatchesExtendedEuclidRow : OpenClaim := { program := "qxb6602422a", sum := "efde989dc9aa4b6fbfdc4af5c1b6fb7dfb66cbf792fb5e1baf234f976d7eb86d", func := "example.com/ringweave/ringweave/zzlaws_field_b1.FnInvMatchesExtendedEuclid", spec := "fnInvMatchesExtendedEuclid", apart := false }
def FnInvMatchesExtendedEuclidSaid : Prop := fnInvMatchesExtendedEuclidRow.holds Try.pinned (OpenSpec.ofChange fnInvMatchesExtendedEuclidSpec)

/-- ITS FALSE NEIGHBOUR: 'it returns false'. Refute it at one input. -/
def fnInvMatchesExtendedEuclidWrong : ChangeSpec := { name := "fnInvMatchesExtendedEuclid", fn := fun _ => fun
  | [d] => { results := [.lit (.bool false)], args := [d] }
  | _ => none }
def FnInvMatchesExtendedEuclidWrongFalsely : Prop := fnInvMatchesExtendedEuclidRow.holds Try.pinned (OpenSpec.ofChange fnInvMatchesExtendedEuclidWrong)

/-- 'zzlaws_field_b1.FnInvIsInvolution': WHATEVER THE INPUT: true; the input reads as it did. -/
def fnInvIsInvolutionSpec : ChangeSpec := { name := "fnInvIsInvolution", fn := fun _ => fun
  | [d] => { results := [.lit (.bool true)], args := [d] }
  | _ => none }
def fnInvIsInvolutionRow : OpenClaim := { program := "qxb6602422a", sum := "efde989dc9aa4b6fbfdc4af5c1b6fb7dfb66cbf792fb5e1baf234f976d7eb86d", func := "example.com/ringweave/ringweave/zzlaws_field_b1.FnInvIsInvolution", spec := "fnInvIsInvolution", apart := false }
def FnInvIsInvolutionSaid : Prop := fnInvIsInvolutionRow.holds Try.pinned (OpenSpec.ofChange fnInvIsInvolutionSpec)

/-- ITS FALSE NEIGHBOUR: 'it returns false'. Refute it at one input. -/
def fnInvIsInvolutionWrong : ChangeSpec := { name := "fnInvIsInvolution", fn := fun _ => fun
  | [d] => { results := [.lit (.bool false)], args := [d] }
  | _ => none }
def FnInvIsInvolutionWrongFalsely : Prop := fnInvIsInvolutionRow.holds Try.pinned (OpenSpec.ofChange fnInvIsInvolutionWrong)

/-- 'zzlaws_field_b1.FnInvIsMultiplicative': WHATEVER THE INPUT: true; the input reads as it did. -/
def fnInvIsMultiplicativeSpec : ChangeSpec := { name := "fnInvIsMultiplicative", fn := fun _ => fun
  | [d1, d2] => { results := [.lit (.bool true)], args := [d1, d2] }
  | _ => none }
def fnInvIsMultiplicativeRow : OpenClaim := { program := "qxb6602422a", sum := "efde989dc9aa4b6fbfdc4af5c1b6fb7dfb66cbf792fb5e1baf234f976d7eb86d", func := "example.com/ringweave/ringweave/zzlaws_field_b1.FnInvIsMultiplicative", spec := "fnInvIsMultiplicative", apart := false }
def FnInvIsMultiplicativeSaid : Prop := fnInvIsMultiplicativeRow.holds Try.pinned (OpenSpec.ofChange fnInvIsMultiplicativeSpec)

/-- ITS FALSE NEIGHBOUR: 'it returns false'. Refute it at one input. -/
def fnInvIsMultiplicativeWrong : ChangeSpec := { name := "fnInvIsMultiplicative", fn := fun _ => fun
  | [d1, d2] => { results := [.lit (.bool false)], args := [d1, d2] }
  | _ => none }
def FnInvIsMultiplicativeWrongFalsely : Prop := fnInvIsMultiplicativeRow.holds Try.pinned (OpenSpec.ofChange fnInvIsMultiplicativeWrong)

end Rows
end Go.Proofs.Qxb6602422a
