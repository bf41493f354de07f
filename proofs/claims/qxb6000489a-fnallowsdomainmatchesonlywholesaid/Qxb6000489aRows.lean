/-
  No cell of these rows narrows 'for every input' (looked for: loops, veiled, ifaces, maps, wideKeys, modest, calm, conditions, laid).
  DERIVED. THE GIVEN ROWS OF THIS SEAT. 6 by the template 'for every input the law returns true; each argument reads behind the call as it read before'; 0 by the template 'total and deterministic' (their statements: Qxb6000489aTotals.lean).
  GIVEN WITH THE SEED: the statements are not yours to turn. If you find one false, say at which input.
  Laid BY PROGRAM, IN A SANDBOX (cutbox-rows.mjs): the forced cells as the released guide's own fill.sh prints them over the translation f4e28894b7275885… (all of the seat's roots in one cut). By AI agents, Wed Nov 11 2026. No macro, syntax, notation, axiom, sorry.
-/
import Derived.Test.Qxb6000489aChecked
import GoSem.Claim
import GoSem.ClaimJoined
import GoSem.ClaimMapViews
import Derived.JoinedTies
import Derived.KernelRfl
namespace Go.Proofs.Qxb6000489a
/- THE CELL 'sum', in the pinned program and in every row, IS THE sha256 OF THE DUMP (.gsa) THAT Qxb6000489aProg.lean LOADS. Nothing in Lean hashes anything: it is a label: what it is worth is what the hold of that sum in a sandbox is worth. -/
noncomputable def Try.pinned : Pinned := { name := "qxb6000489a", sum := "f4e28894b7275885fd0ae5f8e1a4616d1f5a801111d16fb5fe33384583367994", checked := Try.checked }
namespace Rows
def none {H : Type} : Left H := { results := [], args := [] }

/-- 'zzlaws_internal_server_b1.FnLowerASCIIIdempotent': WHATEVER THE INPUT: true; the input reads as it did. -/
def fnLowerASCIIIdempotentSpec : ChangeSpec := { name := "fnLowerASCIIIdempotent", fn := fun _ => fun
  | [d] => { results := [.lit (.bool true)], args := [d] }
  | _ => none }
def fnLowerASCIIIdempotentRow : OpenClaim := { program := "qxb6000489a", sum := "f4e28894b7275885fd0ae5f8e1a4616d1f5a801111d16fb5fe33384583367994", func := "example.com/aldgate/aldgate/zzlaws_internal_server_b1.FnLowerASCIIIdempotent", spec := "fnLowerASCIIIdempotent", apart := false }
def FnLowerASCIIIdempotentSaid : Prop := fnLowerASCIIIdempotentRow.holds Try.pinned (OpenSpec.ofChange fnLowerASCIIIdempotentSpec)

/-- ITS FALSE NEIGHBOUR: 'it returns false'. Refute it at one input. -/
def fnLowerASCIIIdempotentWrong : ChangeSpec := { name := "fnLowerASCIIIdempotent", fn := fun _ => fun
  | [d] => { results := [.lit (.bool false)], args := [d] }
  | _ => none }
def FnLowerASCIIIdempotentWrongFalsely : Prop := fnLowerASCIIIdempotentRow.holds Try.pinned (OpenSpec.ofChange fnLowerASCIIIdempotentWrong)

/-- 'zzlaws_internal_server_b1.FnLowerASCIIEqualExactlyWhenFoldEqual': WHATEVER THE INPUT: true; the input reads as it did. -/
def fnLowerASCIIEqualExactlyWhenFoldEqualSpec : ChangeSpec := { name := "fnLowerASCIIEqualExactlyWhenFoldEqual", fn := fun _ => fun
  | [d1, d2] => { results := [.lit (.bool true)], args := [d1, d2] }
  | _ => none }
def fnLowerASCIIEqualExactlyWhenFoldEqualRow : OpenClaim := { program := "qxb6000489a", sum := "f4e28894b7275885fd0ae5f8e1a4616d1f5a801111d16fb5fe33384583367994", func := "example.com/aldgate/aldgate/zzlaws_internal_server_b1.FnLowerASCIIEqualExactlyWhenFoldEqual", spec := "fnLowerASCIIEqualExactlyWhenFoldEqual", apart := false }
def FnLowerASCIIEqualExactlyWhenFoldEqualSaid : Prop := fnLowerASCIIEqualExactlyWhenFoldEqualRow.holds Try.pinned (OpenSpec.ofChange fnLowerASCIIEqualExactlyWhenFoldEqualSpec)

/-- ITS FALSE NEIGHBOUR: 'it returns false'. Refute it at one input. -/
def fnLowerASCIIEqualExactlyWhenFoldEqualWrong : ChangeSpec := { name := "fnLowerASCIIEqualExactlyWhenFoldEqual", fn := fun _ => fun
  | [d1, d2] => { results := [.lit (.bool false)], args := [d1, d2] }
  | _ => none }
def FnLowerASCIIEqualExactlyWhenFoldEqualWrongFalsely : Prop := fnLowerASCIIEqualExactlyWhenFoldEqualRow.holds Try.pinned (OpenSpec.ofChange fnLowerASCIIEqualExactlyWhenFoldEqualWrong)

/-- 'zzlaws_internal_server_b1.FnLowerASCIIFoldsLettersAndKeepsTheRest': WHATEVER THE INPUT: true; the input reads as it did. -/
def fnLowerASCIIFoldsLettersAndKeepsTheRestSpec : ChangeSpec := { name := "fnLowerASCIIFoldsLettersAndKeepsTheRest", fn := fun _ => fun
  | [d] => { results := [.lit (.bool true)], args := [d] }
  | _ => none }
def fnLowerASCIIFoldsLettersAndKeepsTheRestRow : OpenClaim := { program := "qxb6000489a", sum := "f4e28894b7275885fd0ae5f8e1a4616d1f5a801111d16fb5fe33384583367994", func := "example.com/aldgate/aldgate/zzlaws_internal_server_b1.FnLowerASCIIFoldsLettersAndKeepsTheRest", spec := "fnLowerASCIIFoldsLettersAndKeepsTheRest", apart := false }
def FnLowerASCIIFoldsLettersAndKeepsTheRestSaid : Prop := fnLowerASCIIFoldsLettersAndKeepsTheRestRow.holds Try.pinned (OpenSpec.ofChange fnLowerASCIIFoldsLettersAndKeepsTheRestSpec)

/-- ITS FALSE NEIGHBOUR: 'it returns false'. Refute it at one input. -/
def fnLowerASCIIFoldsLettersAndKeepsTheRestWrong : ChangeSpec := { name := "fnLowerASCIIFoldsLettersAndKeepsTheRest", fn := fun _ => fun
  | [d] => { results := [.lit (.bool false)], args := [d] }
  | _ => none }
def FnLowerASCIIFoldsLettersAndKeepsTheRestWrongFalsely : Prop := fnLowerASCIIFoldsLettersAndKeepsTheRestRow.holds Try.pinned (OpenSpec.ofChange fnLowerASCIIFoldsLettersAndKeepsTheRestWrong)

/-- 'zzlaws_internal_server_b1.FnAllowsIgnoresEmailCase': WHATEVER THE INPUT: true; the input reads as it did. -/
def fnAllowsIgnoresEmailCaseSpec : ChangeSpec := { name := "fnAllowsIgnoresEmailCase", fn := fun _ => fun
  | [d1, d2, d3, d4, d5, d6, d7] => { results := [.lit (.bool true)], args := [d1, d2, d3, d4, d5, d6, d7] }
  | _ => none }
def fnAllowsIgnoresEmailCaseRow : OpenClaim := { program := "qxb6000489a", sum := "f4e28894b7275885fd0ae5f8e1a4616d1f5a801111d16fb5fe33384583367994", func := "example.com/aldgate/aldgate/zzlaws_internal_server_b1.FnAllowsIgnoresEmailCase", spec := "fnAllowsIgnoresEmailCase", unfollowed := true, recurses := true, apart := false }
def FnAllowsIgnoresEmailCaseSaid : Prop := fnAllowsIgnoresEmailCaseRow.holds Try.pinned (OpenSpec.ofChange fnAllowsIgnoresEmailCaseSpec)

/-- ITS FALSE NEIGHBOUR: 'it returns false'. Refute it at one input. -/
def fnAllowsIgnoresEmailCaseWrong : ChangeSpec := { name := "fnAllowsIgnoresEmailCase", fn := fun _ => fun
  | [d1, d2, d3, d4, d5, d6, d7] => { results := [.lit (.bool false)], args := [d1, d2, d3, d4, d5, d6, d7] }
  | _ => none }
def FnAllowsIgnoresEmailCaseWrongFalsely : Prop := fnAllowsIgnoresEmailCaseRow.holds Try.pinned (OpenSpec.ofChange fnAllowsIgnoresEmailCaseWrong)

/-- 'zzlaws_internal_server_b1.FnAllowsNeverRevokedByLongerLists': WHATEVER THE INPUT: true; the input reads as it did. -/
def fnAllowsNeverRevokedByLongerListsSpec : ChangeSpec := { name := "fnAllowsNeverRevokedByLongerLists", fn := fun _ => fun
  | [d1, d2, d3, d4, d5, d6, d7, d8, d9, d10] => { results := [.lit (.bool true)], args := [d1, d2, d3, d4, d5, d6, d7, d8, d9, d10] }
  | _ => none }
def fnAllowsNeverRevokedByLongerListsRow : OpenClaim := { program := "qxb6000489a", sum := "f4e28894b7275885fd0ae5f8e1a4616d1f5a801111d16fb5fe33384583367994", func := "example.com/aldgate/aldgate/zzlaws_internal_server_b1.FnAllowsNeverRevokedByLongerLists", spec := "fnAllowsNeverRevokedByLongerLists", unfollowed := true, recurses := true, apart := false }
def FnAllowsNeverRevokedByLongerListsSaid : Prop := fnAllowsNeverRevokedByLongerListsRow.holds Try.pinned (OpenSpec.ofChange fnAllowsNeverRevokedByLongerListsSpec)

/-- ITS FALSE NEIGHBOUR: 'it returns false'. Refute it at one input. -/
def fnAllowsNeverRevokedByLongerListsWrong : ChangeSpec := { name := "fnAllowsNeverRevokedByLongerLists", fn := fun _ => fun
  | [d1, d2, d3, d4, d5, d6, d7, d8, d9, d10] => { results := [.lit (.bool false)], args := [d1, d2, d3, d4, d5, d6, d7, d8, d9, d10] }
  | _ => none }
def FnAllowsNeverRevokedByLongerListsWrongFalsely : Prop := fnAllowsNeverRevokedByLongerListsRow.holds Try.pinned (OpenSpec.ofChange fnAllowsNeverRevokedByLongerListsWrong)

/-- 'zzlaws_internal_server_b1.FnAllowsDomainMatchesOnlyWhole': WHATEVER THE INPUT: true; the input reads as it did. -/
def fnAllowsDomainMatchesOnlyWholeSpec : ChangeSpec := { name := "fnAllowsDomainMatchesOnlyWhole", fn := fun _ => fun
  | [d1, d2] => { results := [.lit (.bool true)], args := [d1, d2] }
  | _ => none }
def fnAllowsDomainMatchesOnlyWholeRow : OpenClaim := { program := "qxb6000489a", sum := "f4e28894b7275885fd0ae5f8e1a4616d1f5a801111d16fb5fe33384583367994", func := "example.com/aldgate/aldgate/zzlaws_internal_server_b1.FnAllowsDomainMatchesOnlyWhole", spec := "fnAllowsDomainMatchesOnlyWhole", unfollowed := true, recurses := true, apart := false }
def FnAllowsDomainMatchesOnlyWholeSaid : Prop := fnAllowsDomainMatchesOnlyWholeRow.holds Try.pinned (OpenSpec.ofChange fnAllowsDomainMatchesOnlyWholeSpec)

/-- ITS FALSE NEIGHBOUR: 'it returns false'. Refute it at one input. -/
def fnAllowsDomainMatchesOnlyWholeWrong : ChangeSpec := { name := "fnAllowsDomainMatchesOnlyWhole", fn := fun _ => fun
  | [d1, d2] => { results := [.lit (.bool false)], args := [d1, d2] }
  | _ => none }
def FnAllowsDomainMatchesOnlyWholeWrongFalsely : Prop := fnAllowsDomainMatchesOnlyWholeRow.holds Try.pinned (OpenSpec.ofChange fnAllowsDomainMatchesOnlyWholeWrong)

end Rows
end Go.Proofs.Qxb6000489a
