/-
  No cell of these rows narrows 'for every input' (looked for: loops, veiled, ifaces, maps, wideKeys, modest, calm, conditions, laid).
  DERIVED. THE GIVEN ROWS OF THIS SEAT. 3 by the template 'for every input the law returns true; each argument reads behind the call as it read before'; 0 by the template 'total and deterministic' (their statements: Qxb6600853aTotals.lean).
  GIVEN WITH THE SEED: the statements are not yours to turn. If you find one false, say at which input.
  Laid BY PROGRAM, IN A SANDBOX (cutbox-rows.mjs): the forced cells as the released guide's own fill.sh prints them over the translation 02e6705b255025dd… (all of the seat's roots in one cut). By AI agents, Wed Nov 11 2026. No macro, syntax, notation, axiom, sorry.
-/
import Derived.Test.Qxb6600853aChecked
import GoSem.Claim
import GoSem.ClaimJoined
import GoSem.ClaimMapViews
import Derived.JoinedTies
import Derived.KernelRfl
namespace Go.Proofs.Qxb6600853a
/- THE CELL 'sum', in the pinned program and in every row, IS THE sha256 OF THE DUMP (.gsa) THAT Qxb6600853aProg.lean LOADS. Nothing in Lean hashes anything: it is a label: what it is worth is what the hold of that sum in a sandbox is worth. -/
noncomputable def Try.pinned : Pinned := { name := "qxb6600853a", sum := "02e6705b255025dd3f515921ced18b382c11b9d6b4a19a7fd030bb124a3f5abc", checked := Try.checked }
namespace Rows
def none {H : Type} : Left H := { results := [], args := [] }

/-- 'zzlaws_chain_b1.FnNewSilenceCertificateIsRankOrder': WHATEVER THE INPUT: true; the input reads as it did. -/
def fnNewSilenceCertificateIsRankOrderSpec : ChangeSpec := { name := "fnNewSilenceCertificateIsRankOrder", fn := fun _ => fun
  | [d1, d2, d3, d4] => { results := [.lit (.bool true)], args := [d1, d2, d3, d4] }
  | _ => none }
def fnNewSilenceCertificateIsRankOrderRow : OpenClaim := { program := "qxb6600853a", sum := "02e6705b255025dd3f515921ced18b382c11b9d6b4a19a7fd030bb124a3f5abc", func := "example.com/tidebound/tidebound/zzlaws_chain_b1.FnNewSilenceCertificateIsRankOrder", spec := "fnNewSilenceCertificateIsRankOrder", unfollowed := true, recurses := true, apart := false }
def FnNewSilenceCertificateIsRankOrderSaid : Prop := fnNewSilenceCertificateIsRankOrderRow.holds Try.pinned (OpenSpec.ofChange fnNewSilenceCertificateIsRankOrderSpec)

/-- ITS FALSE NEIGHBOUR: 'it returns false'. Refute it at one input. -/
def fnNewSilenceCertificateIsRankOrderWrong : ChangeSpec := { name := "fnNewSilenceCertificateIsRankOrder", fn := fun _ => fun
  | [d1, d2, d3, d4] => { results := [.lit (.bool false)], args := [d1, d2, d3, d4] }
  | _ => none }
def FnNewSilenceCertificateIsRankOrderWrongFalsely : Prop := fnNewSilenceCertificateIsRankOrderRow.holds Try.pinned (OpenSpec.ofChange fnNewSilenceCertificateIsRankOrderWrong)

/-- 'zzlaws_chain_b1.FnNewSilenceCertificateIgnoresInputOrder': WHATEVER THE INPUT: true; the input reads as it did. -/
def fnNewSilenceCertificateIgnoresInputOrderSpec : ChangeSpec := { name := "fnNewSilenceCertificateIgnoresInputOrder", fn := fun _ => fun
  | [d1, d2, d3, d4] => { results := [.lit (.bool true)], args := [d1, d2, d3, d4] }
  | _ => none }
def fnNewSilenceCertificateIgnoresInputOrderRow : OpenClaim := { program := "qxb6600853a", sum := "02e6705b255025dd3f515921ced18b382c11b9d6b4a19a7fd030bb124a3f5abc", func := "example.com/tidebound/tidebound/zzlaws_chain_b1.FnNewSilenceCertificateIgnoresInputOrder", spec := "fnNewSilenceCertificateIgnoresInputOrder", unfollowed := true, recurses := true, apart := false }
def FnNewSilenceCertificateIgnoresInputOrderSaid : Prop := fnNewSilenceCertificateIgnoresInputOrderRow.holds Try.pinned (OpenSpec.ofChange fnNewSilenceCertificateIgnoresInputOrderSpec)

/-- ITS FALSE NEIGHBOUR: 'it returns false'. Refute it at one input. -/
def fnNewSilenceCertificateIgnoresInputOrderWrong : ChangeSpec := { name := "fnNewSilenceCertificateIgnoresInputOrder", fn := fun _ => fun
  | [d1, d2, d3, d4] => { results := [.lit (.bool false)], args := [d1, d2, d3, d4] }
  | _ => none }
def FnNewSilenceCertificateIgnoresInputOrderWrongFalsely : Prop := fnNewSilenceCertificateIgnoresInputOrderRow.holds Try.pinned (OpenSpec.ofChange fnNewSilenceCertificateIgnoresInputOrderWrong)

/-- 'zzlaws_chain_b1.FnNewSilenceCertificateSortedPermutation': WHATEVER THE INPUT: true; the input reads as it did. -/
def fnNewSilenceCertificateSortedPermutationSpec : ChangeSpec := { name := "fnNewSilenceCertificateSortedPermutation", fn := fun _ => fun
  | [d1, d2, d3, d4] => { results := [.lit (.bool true)], args := [d1, d2, d3, d4] }
  | _ => none }
def fnNewSilenceCertificateSortedPermutationRow : OpenClaim := { program := "qxb6600853a", sum := "02e6705b255025dd3f515921ced18b382c11b9d6b4a19a7fd030bb124a3f5abc", func := "example.com/tidebound/tidebound/zzlaws_chain_b1.FnNewSilenceCertificateSortedPermutation", spec := "fnNewSilenceCertificateSortedPermutation", unfollowed := true, recurses := true, apart := false }
def FnNewSilenceCertificateSortedPermutationSaid : Prop := fnNewSilenceCertificateSortedPermutationRow.holds Try.pinned (OpenSpec.ofChange fnNewSilenceCertificateSortedPermutationSpec)

/-- ITS FALSE NEIGHBOUR: 'it returns false'. Refute it at one input. -/
def fnNewSilenceCertificateSortedPermutationWrong : ChangeSpec := { name := "fnNewSilenceCertificateSortedPermutation", fn := fun _ => fun
  | [d1, d2, d3, d4] => { results := [.lit (.bool false)], args := [d1, d2, d3, d4] }
  | _ => none }
def FnNewSilenceCertificateSortedPermutationWrongFalsely : Prop := fnNewSilenceCertificateSortedPermutationRow.holds Try.pinned (OpenSpec.ofChange fnNewSilenceCertificateSortedPermutationWrong)

end Rows
end Go.Proofs.Qxb6600853a
