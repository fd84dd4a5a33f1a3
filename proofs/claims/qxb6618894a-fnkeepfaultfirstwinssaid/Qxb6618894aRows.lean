/-
  No cell of these rows narrows 'for every input' (looked for: loops, veiled, ifaces, maps, wideKeys, modest, calm, conditions, laid).
  DERIVED. THE GIVEN ROWS OF THIS SEAT. 5 by the template 'for every input the law returns true; each argument reads behind the call as it read before'; 0 by the template 'total and deterministic' (their statements: Qxb6618894aTotals.lean).
  GIVEN WITH THE SEED: the statements are not yours to turn. If you find one false, say at which input.
  Laid BY PROGRAM, IN A SANDBOX (cutbox-rows.mjs): the forced cells as the released guide's own fill.sh prints them over the translation c5c1e997174322d0… (all of the seat's roots in one cut). By AI agents, Wed Nov 11 2026. No macro, syntax, notation, axiom, sorry.
-/
import Derived.Test.Qxb6618894aChecked
import GoSem.Claim
import GoSem.ClaimJoined
import GoSem.ClaimMapViews
import Derived.JoinedTies
import Derived.KernelRfl
namespace Go.Proofs.Qxb6618894a
/- THE CELL 'sum', in the pinned program and in every row, IS THE sha256 OF THE DUMP (.gsa) THAT Qxb6618894aProg.lean LOADS. Nothing in Lean hashes anything: it is a label: what it is worth is what the hold of that sum in a sandbox is worth. -/
noncomputable def Try.pinned : Pinned := { name := "qxb6618894a", sum := "c5c1e997174322d0ad6833e549c285c54d821628fbc0833b9374790402721a0c", checked := Try.checked }
namespace Rows
def none {H : Type} : Left H := { results := [], args := [] }

/-- 'zzlaws_internal_audit_b1.FnKeepFaultFirstWins': WHATEVER THE INPUT: true; the input reads as it did. -/
def fnKeepFaultFirstWinsSpec : ChangeSpec := { name := "fnKeepFaultFirstWins", fn := fun _ => fun
  | [d] => { results := [.lit (.bool true)], args := [d] }
  | _ => none }
def fnKeepFaultFirstWinsRow : OpenClaim := { program := "qxb6618894a", sum := "c5c1e997174322d0ad6833e549c285c54d821628fbc0833b9374790402721a0c", func := "example.com/killdeer/killdeer/zzlaws_internal_audit_b1.FnKeepFaultFirstWins", spec := "fnKeepFaultFirstWins", apart := false }
def FnKeepFaultFirstWinsSaid : Prop := fnKeepFaultFirstWinsRow.holds Try.pinned (OpenSpec.ofChange fnKeepFaultFirstWinsSpec)

/-- ITS FALSE NEIGHBOUR: 'it returns false'. Refute it at one input. -/
def fnKeepFaultFirstWinsWrong : ChangeSpec := { name := "fnKeepFaultFirstWins", fn := fun _ => fun
  | [d] => { results := [.lit (.bool false)], args := [d] }
  | _ => none }
def FnKeepFaultFirstWinsWrongFalsely : Prop := fnKeepFaultFirstWinsRow.holds Try.pinned (OpenSpec.ofChange fnKeepFaultFirstWinsWrong)

/-- 'zzlaws_internal_audit_b1.FnSpaceSkipsInsertedBlanks': WHATEVER THE INPUT: true; the input reads as it did. -/
def fnSpaceSkipsInsertedBlanksSpec : ChangeSpec := { name := "fnSpaceSkipsInsertedBlanks", fn := fun _ => fun
  | [d1, d2, d3] => { results := [.lit (.bool true)], args := [d1, d2, d3] }
  | _ => none }
def fnSpaceSkipsInsertedBlanksRow : OpenClaim := { program := "qxb6618894a", sum := "c5c1e997174322d0ad6833e549c285c54d821628fbc0833b9374790402721a0c", func := "example.com/killdeer/killdeer/zzlaws_internal_audit_b1.FnSpaceSkipsInsertedBlanks", spec := "fnSpaceSkipsInsertedBlanks", apart := false }
def FnSpaceSkipsInsertedBlanksSaid : Prop := fnSpaceSkipsInsertedBlanksRow.holds Try.pinned (OpenSpec.ofChange fnSpaceSkipsInsertedBlanksSpec)

/-- ITS FALSE NEIGHBOUR: 'it returns false'. Refute it at one input. -/
def fnSpaceSkipsInsertedBlanksWrong : ChangeSpec := { name := "fnSpaceSkipsInsertedBlanks", fn := fun _ => fun
  | [d1, d2, d3] => { results := [.lit (.bool false)], args := [d1, d2, d3] }
  | _ => none }
def FnSpaceSkipsInsertedBlanksWrongFalsely : Prop := fnSpaceSkipsInsertedBlanksRow.holds Try.pinned (OpenSpec.ofChange fnSpaceSkipsInsertedBlanksWrong)

/-- 'zzlaws_internal_audit_b1.FnSpaceAcrossCut': WHATEVER THE INPUT: true; the input reads as it did. -/
def fnSpaceAcrossCutSpec : ChangeSpec := { name := "fnSpaceAcrossCut", fn := fun _ => fun
  | [d1, d2, d3] => { results := [.lit (.bool true)], args := [d1, d2, d3] }
  | _ => none }
def fnSpaceAcrossCutRow : OpenClaim := { program := "qxb6618894a", sum := "c5c1e997174322d0ad6833e549c285c54d821628fbc0833b9374790402721a0c", func := "example.com/killdeer/killdeer/zzlaws_internal_audit_b1.FnSpaceAcrossCut", spec := "fnSpaceAcrossCut", apart := false }
def FnSpaceAcrossCutSaid : Prop := fnSpaceAcrossCutRow.holds Try.pinned (OpenSpec.ofChange fnSpaceAcrossCutSpec)

/-- ITS FALSE NEIGHBOUR: 'it returns false'. Refute it at one input. -/
def fnSpaceAcrossCutWrong : ChangeSpec := { name := "fnSpaceAcrossCut", fn := fun _ => fun
  | [d1, d2, d3] => { results := [.lit (.bool false)], args := [d1, d2, d3] }
  | _ => none }
def FnSpaceAcrossCutWrongFalsely : Prop := fnSpaceAcrossCutRow.holds Try.pinned (OpenSpec.ofChange fnSpaceAcrossCutWrong)

/-- 'zzlaws_internal_audit_b1.FnNewReaderReadsBackLog': WHATEVER THE INPUT: true; the input reads as it did. -/
def fnNewReaderReadsBackLogSpec : ChangeSpec := { name := "fnNewReaderReadsBackLog", fn := fun _ => fun
  | [d] => { results := [.lit (.bool true)], args := [d] }
  | _ => none }
def fnNewReaderReadsBackLogRow : OpenClaim := { program := "qxb6618894a", sum := "c5c1e997174322d0ad6833e549c285c54d821628fbc0833b9374790402721a0c", func := "example.com/killdeer/killdeer/zzlaws_internal_audit_b1.FnNewReaderReadsBackLog", spec := "fnNewReaderReadsBackLog", unfollowed := true, recurses := true, apart := false }
def FnNewReaderReadsBackLogSaid : Prop := fnNewReaderReadsBackLogRow.holds Try.pinned (OpenSpec.ofChange fnNewReaderReadsBackLogSpec)

/-- ITS FALSE NEIGHBOUR: 'it returns false'. Refute it at one input. -/
def fnNewReaderReadsBackLogWrong : ChangeSpec := { name := "fnNewReaderReadsBackLog", fn := fun _ => fun
  | [d] => { results := [.lit (.bool false)], args := [d] }
  | _ => none }
def FnNewReaderReadsBackLogWrongFalsely : Prop := fnNewReaderReadsBackLogRow.holds Try.pinned (OpenSpec.ofChange fnNewReaderReadsBackLogWrong)

/-- 'zzlaws_internal_audit_b1.FnNewReaderLazyFirstWindow': WHATEVER THE INPUT: true; the input reads as it did. -/
def fnNewReaderLazyFirstWindowSpec : ChangeSpec := { name := "fnNewReaderLazyFirstWindow", fn := fun _ => fun
  | [d] => { results := [.lit (.bool true)], args := [d] }
  | _ => none }
def fnNewReaderLazyFirstWindowRow : OpenClaim := { program := "qxb6618894a", sum := "c5c1e997174322d0ad6833e549c285c54d821628fbc0833b9374790402721a0c", func := "example.com/killdeer/killdeer/zzlaws_internal_audit_b1.FnNewReaderLazyFirstWindow", spec := "fnNewReaderLazyFirstWindow", unfollowed := true, recurses := true, apart := false }
def FnNewReaderLazyFirstWindowSaid : Prop := fnNewReaderLazyFirstWindowRow.holds Try.pinned (OpenSpec.ofChange fnNewReaderLazyFirstWindowSpec)

/-- ITS FALSE NEIGHBOUR: 'it returns false'. Refute it at one input. -/
def fnNewReaderLazyFirstWindowWrong : ChangeSpec := { name := "fnNewReaderLazyFirstWindow", fn := fun _ => fun
  | [d] => { results := [.lit (.bool false)], args := [d] }
  | _ => none }
def FnNewReaderLazyFirstWindowWrongFalsely : Prop := fnNewReaderLazyFirstWindowRow.holds Try.pinned (OpenSpec.ofChange fnNewReaderLazyFirstWindowWrong)

end Rows
end Go.Proofs.Qxb6618894a
