/-
  No cell of these rows narrows 'for every input' (looked for: loops, veiled, ifaces, maps, wideKeys, modest, calm, conditions, laid).
  DERIVED. THE GIVEN ROWS OF THIS SEAT. 4 by the template 'for every input the law returns true; each argument reads behind the call as it read before'; 0 by the template 'total and deterministic' (their statements: Qxb6605467aTotals.lean).
  GIVEN WITH THE SEED: the statements are not yours to turn. If you find one false, say at which input.
  Laid BY PROGRAM, IN A SANDBOX (cutbox-rows.mjs): the forced cells as the released guide's own fill.sh prints them over the translation 3551eb1dd1d238bc… (all of the seat's roots in one cut). By AI agents, Wed Nov 11 2026. No macro, syntax, notation, axiom, sorry.
-/
import Derived.Test.Qxb6605467aChecked
import GoSem.Claim
import GoSem.ClaimJoined
import GoSem.ClaimMapViews
import Derived.JoinedTies
import Derived.KernelRfl
namespace Go.Proofs.Qxb6605467a
/- THE CELL 'sum', in the pinned program and in every row, IS THE sha256 OF THE DUMP (.gsa) THAT Qxb6605467aProg.lean LOADS. Nothing in Lean hashes anything: it is a label: what it is worth is what the hold of that sum in a sandbox is worth. -/
noncomputable def Try.pinned : Pinned := { name := "qxb6605467a", sum := "3551eb1dd1d238bcb8dc36d8e783ae4eb763222faedcf1023468bf3269de2d6c", checked := Try.checked }
namespace Rows
def none {H : Type} : Left H := { results := [], args := [] }

/-- 'zzlaws_dpkg_b1.FnNodeNameIsSlashAndUnskippedRest': WHATEVER THE INPUT: true; the input reads as it did. -/
def fnNodeNameIsSlashAndUnskippedRestSpec : ChangeSpec := { name := "fnNodeNameIsSlashAndUnskippedRest", fn := fun _ => fun
  | [d] => { results := [.lit (.bool true)], args := [d] }
  | _ => none }
def fnNodeNameIsSlashAndUnskippedRestRow : OpenClaim := { program := "qxb6605467a", sum := "3551eb1dd1d238bcb8dc36d8e783ae4eb763222faedcf1023468bf3269de2d6c", func := "example.com/rollcall/rollcall/zzlaws_dpkg_b1.FnNodeNameIsSlashAndUnskippedRest", spec := "fnNodeNameIsSlashAndUnskippedRest", apart := false }
def FnNodeNameIsSlashAndUnskippedRestSaid : Prop := fnNodeNameIsSlashAndUnskippedRestRow.holds Try.pinned (OpenSpec.ofChange fnNodeNameIsSlashAndUnskippedRestSpec)

/-- ITS FALSE NEIGHBOUR: 'it returns false'. Refute it at one input. -/
def fnNodeNameIsSlashAndUnskippedRestWrong : ChangeSpec := { name := "fnNodeNameIsSlashAndUnskippedRest", fn := fun _ => fun
  | [d] => { results := [.lit (.bool false)], args := [d] }
  | _ => none }
def FnNodeNameIsSlashAndUnskippedRestWrongFalsely : Prop := fnNodeNameIsSlashAndUnskippedRestRow.holds Try.pinned (OpenSpec.ofChange fnNodeNameIsSlashAndUnskippedRestWrong)

/-- 'zzlaws_dpkg_b1.FnNodeNameIdempotentAndPrefixBlind': WHATEVER THE INPUT: true; the input reads as it did. -/
def fnNodeNameIdempotentAndPrefixBlindSpec : ChangeSpec := { name := "fnNodeNameIdempotentAndPrefixBlind", fn := fun _ => fun
  | [d] => { results := [.lit (.bool true)], args := [d] }
  | _ => none }
def fnNodeNameIdempotentAndPrefixBlindRow : OpenClaim := { program := "qxb6605467a", sum := "3551eb1dd1d238bcb8dc36d8e783ae4eb763222faedcf1023468bf3269de2d6c", func := "example.com/rollcall/rollcall/zzlaws_dpkg_b1.FnNodeNameIdempotentAndPrefixBlind", spec := "fnNodeNameIdempotentAndPrefixBlind", apart := false }
def FnNodeNameIdempotentAndPrefixBlindSaid : Prop := fnNodeNameIdempotentAndPrefixBlindRow.holds Try.pinned (OpenSpec.ofChange fnNodeNameIdempotentAndPrefixBlindSpec)

/-- ITS FALSE NEIGHBOUR: 'it returns false'. Refute it at one input. -/
def fnNodeNameIdempotentAndPrefixBlindWrong : ChangeSpec := { name := "fnNodeNameIdempotentAndPrefixBlind", fn := fun _ => fun
  | [d] => { results := [.lit (.bool false)], args := [d] }
  | _ => none }
def FnNodeNameIdempotentAndPrefixBlindWrongFalsely : Prop := fnNodeNameIdempotentAndPrefixBlindRow.holds Try.pinned (OpenSpec.ofChange fnNodeNameIdempotentAndPrefixBlindWrong)

/-- 'zzlaws_dpkg_b1.FnPutReplacesTheArchitecturesPackage': WHATEVER THE INPUT: true; the input reads as it did. -/
def fnPutReplacesTheArchitecturesPackageSpec : ChangeSpec := { name := "fnPutReplacesTheArchitecturesPackage", fn := fun _ => fun
  | [d1, d2, d3] => { results := [.lit (.bool true)], args := [d1, d2, d3] }
  | _ => none }
def fnPutReplacesTheArchitecturesPackageRow : OpenClaim := { program := "qxb6605467a", sum := "3551eb1dd1d238bcb8dc36d8e783ae4eb763222faedcf1023468bf3269de2d6c", func := "example.com/rollcall/rollcall/zzlaws_dpkg_b1.FnPutReplacesTheArchitecturesPackage", spec := "fnPutReplacesTheArchitecturesPackage", unfollowed := true, recurses := true, apart := false }
def FnPutReplacesTheArchitecturesPackageSaid : Prop := fnPutReplacesTheArchitecturesPackageRow.holds Try.pinned (OpenSpec.ofChange fnPutReplacesTheArchitecturesPackageSpec)

/-- ITS FALSE NEIGHBOUR: 'it returns false'. Refute it at one input. -/
def fnPutReplacesTheArchitecturesPackageWrong : ChangeSpec := { name := "fnPutReplacesTheArchitecturesPackage", fn := fun _ => fun
  | [d1, d2, d3] => { results := [.lit (.bool false)], args := [d1, d2, d3] }
  | _ => none }
def FnPutReplacesTheArchitecturesPackageWrongFalsely : Prop := fnPutReplacesTheArchitecturesPackageRow.holds Try.pinned (OpenSpec.ofChange fnPutReplacesTheArchitecturesPackageWrong)

/-- 'zzlaws_dpkg_b1.FnPutScriptKeepsLastPutOfEachArchitecture': WHATEVER THE INPUT: true; the input reads as it did. -/
def fnPutScriptKeepsLastPutOfEachArchitectureSpec : ChangeSpec := { name := "fnPutScriptKeepsLastPutOfEachArchitecture", fn := fun _ => fun
  | [d] => { results := [.lit (.bool true)], args := [d] }
  | _ => none }
def fnPutScriptKeepsLastPutOfEachArchitectureRow : OpenClaim := { program := "qxb6605467a", sum := "3551eb1dd1d238bcb8dc36d8e783ae4eb763222faedcf1023468bf3269de2d6c", func := "example.com/rollcall/rollcall/zzlaws_dpkg_b1.FnPutScriptKeepsLastPutOfEachArchitecture", spec := "fnPutScriptKeepsLastPutOfEachArchitecture", unfollowed := true, recurses := true, apart := false }
def FnPutScriptKeepsLastPutOfEachArchitectureSaid : Prop := fnPutScriptKeepsLastPutOfEachArchitectureRow.holds Try.pinned (OpenSpec.ofChange fnPutScriptKeepsLastPutOfEachArchitectureSpec)

/-- ITS FALSE NEIGHBOUR: 'it returns false'. Refute it at one input. -/
def fnPutScriptKeepsLastPutOfEachArchitectureWrong : ChangeSpec := { name := "fnPutScriptKeepsLastPutOfEachArchitecture", fn := fun _ => fun
  | [d] => { results := [.lit (.bool false)], args := [d] }
  | _ => none }
def FnPutScriptKeepsLastPutOfEachArchitectureWrongFalsely : Prop := fnPutScriptKeepsLastPutOfEachArchitectureRow.holds Try.pinned (OpenSpec.ofChange fnPutScriptKeepsLastPutOfEachArchitectureWrong)

end Rows
end Go.Proofs.Qxb6605467a
