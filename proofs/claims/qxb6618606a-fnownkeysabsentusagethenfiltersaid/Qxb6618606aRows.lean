/-
  No cell of these rows narrows 'for every input' (looked for: loops, veiled, ifaces, maps, wideKeys, modest, calm, conditions, laid).
  DERIVED. THE GIVEN ROWS OF THIS SEAT. 6 by the template 'for every input the law returns true; each argument reads behind the call as it read before'; 0 by the template 'total and deterministic' (their statements: Qxb6618606aTotals.lean).
  GIVEN WITH THE SEED: the statements are not yours to turn. If you find one false, say at which input.
  Laid BY PROGRAM, IN A SANDBOX (cutbox-rows.mjs): the forced cells as the released guide's own fill.sh prints them over the translation aad3d06910e931ec… (all of the seat's roots in one cut). By AI agents, Wed Nov 11 2026. No macro, syntax, notation, axiom, sorry.
-/
import Derived.Test.Qxb6618606aChecked
import GoSem.Claim
import GoSem.ClaimJoined
import GoSem.ClaimMapViews
import Derived.JoinedTies
import Derived.KernelRfl
namespace Go.Proofs.Qxb6618606a
/- THE CELL 'sum', in the pinned program and in every row, IS THE sha256 OF THE DUMP (.gsa) THAT Qxb6618606aProg.lean LOADS. Nothing in Lean hashes anything: it is a label: what it is worth is what the hold of that sum in a sandbox is worth. -/
noncomputable def Try.pinned : Pinned := { name := "qxb6618606a", sum := "aad3d06910e931ec852a25acbe94dd3633e8a0b8f85e4ce161c92c51123e610a", checked := Try.checked }
namespace Rows
def none {H : Type} : Left H := { results := [], args := [] }

/-- 'zzlaws_root_b1.FnDigestInfoParsesBack': WHATEVER THE INPUT: true; the input reads as it did. -/
def fnDigestInfoParsesBackSpec : ChangeSpec := { name := "fnDigestInfoParsesBack", fn := fun _ => fun
  | [d1, d2, d3] => { results := [.lit (.bool true)], args := [d1, d2, d3] }
  | _ => none }
def fnDigestInfoParsesBackRow : OpenClaim := { program := "qxb6618606a", sum := "aad3d06910e931ec852a25acbe94dd3633e8a0b8f85e4ce161c92c51123e610a", func := "example.com/certwright/certwright/zzlaws_root_b1.FnDigestInfoParsesBack", spec := "fnDigestInfoParsesBack", plainKeys := false, apart := false }
def FnDigestInfoParsesBackSaid : Prop := fnDigestInfoParsesBackRow.holds Try.pinned (OpenSpec.ofChange fnDigestInfoParsesBackSpec)

/-- ITS FALSE NEIGHBOUR: 'it returns false'. Refute it at one input. -/
def fnDigestInfoParsesBackWrong : ChangeSpec := { name := "fnDigestInfoParsesBack", fn := fun _ => fun
  | [d1, d2, d3] => { results := [.lit (.bool false)], args := [d1, d2, d3] }
  | _ => none }
def FnDigestInfoParsesBackWrongFalsely : Prop := fnDigestInfoParsesBackRow.holds Try.pinned (OpenSpec.ofChange fnDigestInfoParsesBackWrong)

/-- 'zzlaws_root_b1.FnDigestInfoInjectivePrefixFree': WHATEVER THE INPUT: true; the input reads as it did. -/
def fnDigestInfoInjectivePrefixFreeSpec : ChangeSpec := { name := "fnDigestInfoInjectivePrefixFree", fn := fun _ => fun
  | [d1, d2, d3, d4] => { results := [.lit (.bool true)], args := [d1, d2, d3, d4] }
  | _ => none }
def fnDigestInfoInjectivePrefixFreeRow : OpenClaim := { program := "qxb6618606a", sum := "aad3d06910e931ec852a25acbe94dd3633e8a0b8f85e4ce161c92c51123e610a", func := "example.com/certwright/certwright/zzlaws_root_b1.FnDigestInfoInjectivePrefixFree", spec := "fnDigestInfoInjectivePrefixFree", plainKeys := false, apart := false }
def FnDigestInfoInjectivePrefixFreeSaid : Prop := fnDigestInfoInjectivePrefixFreeRow.holds Try.pinned (OpenSpec.ofChange fnDigestInfoInjectivePrefixFreeSpec)

/-- ITS FALSE NEIGHBOUR: 'it returns false'. Refute it at one input. -/
def fnDigestInfoInjectivePrefixFreeWrong : ChangeSpec := { name := "fnDigestInfoInjectivePrefixFree", fn := fun _ => fun
  | [d1, d2, d3, d4] => { results := [.lit (.bool false)], args := [d1, d2, d3, d4] }
  | _ => none }
def FnDigestInfoInjectivePrefixFreeWrongFalsely : Prop := fnDigestInfoInjectivePrefixFreeRow.holds Try.pinned (OpenSpec.ofChange fnDigestInfoInjectivePrefixFreeWrong)

/-- 'zzlaws_root_b1.FnOwnKeysAbsentUsageThenFilter': WHATEVER THE INPUT: true; the input reads as it did. -/
def fnOwnKeysAbsentUsageThenFilterSpec : ChangeSpec := { name := "fnOwnKeysAbsentUsageThenFilter", fn := fun _ => fun
  | [d1, d2, d3, d4, d5, d6] => { results := [.lit (.bool true)], args := [d1, d2, d3, d4, d5, d6] }
  | _ => none }
def fnOwnKeysAbsentUsageThenFilterRow : OpenClaim := { program := "qxb6618606a", sum := "aad3d06910e931ec852a25acbe94dd3633e8a0b8f85e4ce161c92c51123e610a", func := "example.com/certwright/certwright/zzlaws_root_b1.FnOwnKeysAbsentUsageThenFilter", spec := "fnOwnKeysAbsentUsageThenFilter", plainKeys := false, apart := false }
def FnOwnKeysAbsentUsageThenFilterSaid : Prop := fnOwnKeysAbsentUsageThenFilterRow.holds Try.pinned (OpenSpec.ofChange fnOwnKeysAbsentUsageThenFilterSpec)

/-- ITS FALSE NEIGHBOUR: 'it returns false'. Refute it at one input. -/
def fnOwnKeysAbsentUsageThenFilterWrong : ChangeSpec := { name := "fnOwnKeysAbsentUsageThenFilter", fn := fun _ => fun
  | [d1, d2, d3, d4, d5, d6] => { results := [.lit (.bool false)], args := [d1, d2, d3, d4, d5, d6] }
  | _ => none }
def FnOwnKeysAbsentUsageThenFilterWrongFalsely : Prop := fnOwnKeysAbsentUsageThenFilterRow.holds Try.pinned (OpenSpec.ofChange fnOwnKeysAbsentUsageThenFilterWrong)

/-- 'zzlaws_root_b1.FnOwnKeysDelegationAddsOwnKeyLast': WHATEVER THE INPUT: true; the input reads as it did. -/
def fnOwnKeysDelegationAddsOwnKeyLastSpec : ChangeSpec := { name := "fnOwnKeysDelegationAddsOwnKeyLast", fn := fun _ => fun
  | [d1, d2, d3, d4, d5] => { results := [.lit (.bool true)], args := [d1, d2, d3, d4, d5] }
  | _ => none }
def fnOwnKeysDelegationAddsOwnKeyLastRow : OpenClaim := { program := "qxb6618606a", sum := "aad3d06910e931ec852a25acbe94dd3633e8a0b8f85e4ce161c92c51123e610a", func := "example.com/certwright/certwright/zzlaws_root_b1.FnOwnKeysDelegationAddsOwnKeyLast", spec := "fnOwnKeysDelegationAddsOwnKeyLast", plainKeys := false, apart := false }
def FnOwnKeysDelegationAddsOwnKeyLastSaid : Prop := fnOwnKeysDelegationAddsOwnKeyLastRow.holds Try.pinned (OpenSpec.ofChange fnOwnKeysDelegationAddsOwnKeyLastSpec)

/-- ITS FALSE NEIGHBOUR: 'it returns false'. Refute it at one input. -/
def fnOwnKeysDelegationAddsOwnKeyLastWrong : ChangeSpec := { name := "fnOwnKeysDelegationAddsOwnKeyLast", fn := fun _ => fun
  | [d1, d2, d3, d4, d5] => { results := [.lit (.bool false)], args := [d1, d2, d3, d4, d5] }
  | _ => none }
def FnOwnKeysDelegationAddsOwnKeyLastWrongFalsely : Prop := fnOwnKeysDelegationAddsOwnKeyLastRow.holds Try.pinned (OpenSpec.ofChange fnOwnKeysDelegationAddsOwnKeyLastWrong)

/-- 'zzlaws_root_b1.FnCheckBudgetAllowsExactlyN': WHATEVER THE INPUT: true; the input reads as it did. -/
def fnCheckBudgetAllowsExactlyNSpec : ChangeSpec := { name := "fnCheckBudgetAllowsExactlyN", fn := fun _ => fun
  | [d1, d2] => { results := [.lit (.bool true)], args := [d1, d2] }
  | _ => none }
def fnCheckBudgetAllowsExactlyNRow : OpenClaim := { program := "qxb6618606a", sum := "aad3d06910e931ec852a25acbe94dd3633e8a0b8f85e4ce161c92c51123e610a", func := "example.com/certwright/certwright/zzlaws_root_b1.FnCheckBudgetAllowsExactlyN", spec := "fnCheckBudgetAllowsExactlyN", plainKeys := false, apart := false }
def FnCheckBudgetAllowsExactlyNSaid : Prop := fnCheckBudgetAllowsExactlyNRow.holds Try.pinned (OpenSpec.ofChange fnCheckBudgetAllowsExactlyNSpec)

/-- ITS FALSE NEIGHBOUR: 'it returns false'. Refute it at one input. -/
def fnCheckBudgetAllowsExactlyNWrong : ChangeSpec := { name := "fnCheckBudgetAllowsExactlyN", fn := fun _ => fun
  | [d1, d2] => { results := [.lit (.bool false)], args := [d1, d2] }
  | _ => none }
def FnCheckBudgetAllowsExactlyNWrongFalsely : Prop := fnCheckBudgetAllowsExactlyNRow.holds Try.pinned (OpenSpec.ofChange fnCheckBudgetAllowsExactlyNWrong)

/-- 'zzlaws_root_b1.FnCheckResumes': WHATEVER THE INPUT: true; the input reads as it did. -/
def fnCheckResumesSpec : ChangeSpec := { name := "fnCheckResumes", fn := fun _ => fun
  | [d1, d2, d3] => { results := [.lit (.bool true)], args := [d1, d2, d3] }
  | _ => none }
def fnCheckResumesRow : OpenClaim := { program := "qxb6618606a", sum := "aad3d06910e931ec852a25acbe94dd3633e8a0b8f85e4ce161c92c51123e610a", func := "example.com/certwright/certwright/zzlaws_root_b1.FnCheckResumes", spec := "fnCheckResumes", plainKeys := false, apart := false }
def FnCheckResumesSaid : Prop := fnCheckResumesRow.holds Try.pinned (OpenSpec.ofChange fnCheckResumesSpec)

/-- ITS FALSE NEIGHBOUR: 'it returns false'. Refute it at one input. -/
def fnCheckResumesWrong : ChangeSpec := { name := "fnCheckResumes", fn := fun _ => fun
  | [d1, d2, d3] => { results := [.lit (.bool false)], args := [d1, d2, d3] }
  | _ => none }
def FnCheckResumesWrongFalsely : Prop := fnCheckResumesRow.holds Try.pinned (OpenSpec.ofChange fnCheckResumesWrong)

end Rows
end Go.Proofs.Qxb6618606a
