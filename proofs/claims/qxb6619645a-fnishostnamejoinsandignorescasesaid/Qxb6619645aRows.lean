/-
  No cell of these rows narrows 'for every input' (looked for: loops, veiled, ifaces, maps, wideKeys, modest, calm, conditions, laid).
  DERIVED. THE GIVEN ROWS OF THIS SEAT. 3 by the template 'for every input the law returns true; each argument reads behind the call as it read before'; 0 by the template 'total and deterministic' (their statements: Qxb6619645aTotals.lean).
  GIVEN WITH THE SEED: the statements are not yours to turn. If you find one false, say at which input.
  Laid BY PROGRAM, IN A SANDBOX (cutbox-rows.mjs): the forced cells as the released guide's own fill.sh prints them over the translation 2c2f6724213e33f1… (all of the seat's roots in one cut). By AI agents, Wed Nov 11 2026. No macro, syntax, notation, axiom, sorry.
-/
import Derived.Test.Qxb6619645aChecked
import GoSem.Claim
import GoSem.ClaimJoined
import GoSem.ClaimMapViews
import Derived.JoinedTies
import Derived.KernelRfl
namespace Go.Proofs.Qxb6619645a
/- THE CELL 'sum', in the pinned program and in every row, IS THE sha256 OF THE DUMP (.gsa) THAT Qxb6619645aProg.lean LOADS. Nothing in Lean hashes anything: it is a label: what it is worth is what the hold of that sum in a sandbox is worth. -/
noncomputable def Try.pinned : Pinned := { name := "qxb6619645a", sum := "2c2f6724213e33f136e20698c8edcd9995cc7300bc00adfafdfca6dc097d7bb8", checked := Try.checked }
namespace Rows
def none {H : Type} : Left H := { results := [], args := [] }

/-- 'zzlaws_root_b1.FnAsciiLowerCutIdempotentAndFolds': WHATEVER THE INPUT: true; the input reads as it did. -/
def fnAsciiLowerCutIdempotentAndFoldsSpec : ChangeSpec := { name := "fnAsciiLowerCutIdempotentAndFolds", fn := fun _ => fun
  | [d1, d2] => { results := [.lit (.bool true)], args := [d1, d2] }
  | _ => none }
def fnAsciiLowerCutIdempotentAndFoldsRow : OpenClaim := { program := "qxb6619645a", sum := "2c2f6724213e33f136e20698c8edcd9995cc7300bc00adfafdfca6dc097d7bb8", func := "example.com/moorings/moorings/zzlaws_root_b1.FnAsciiLowerCutIdempotentAndFolds", spec := "fnAsciiLowerCutIdempotentAndFolds", apart := false }
def FnAsciiLowerCutIdempotentAndFoldsSaid : Prop := fnAsciiLowerCutIdempotentAndFoldsRow.holds Try.pinned (OpenSpec.ofChange fnAsciiLowerCutIdempotentAndFoldsSpec)

/-- ITS FALSE NEIGHBOUR: 'it returns false'. Refute it at one input. -/
def fnAsciiLowerCutIdempotentAndFoldsWrong : ChangeSpec := { name := "fnAsciiLowerCutIdempotentAndFolds", fn := fun _ => fun
  | [d1, d2] => { results := [.lit (.bool false)], args := [d1, d2] }
  | _ => none }
def FnAsciiLowerCutIdempotentAndFoldsWrongFalsely : Prop := fnAsciiLowerCutIdempotentAndFoldsRow.holds Try.pinned (OpenSpec.ofChange fnAsciiLowerCutIdempotentAndFoldsWrong)

/-- 'zzlaws_root_b1.FnAsciiLowerEqualExactlyWhenEqualIgnoringCase': WHATEVER THE INPUT: true; the input reads as it did. -/
def fnAsciiLowerEqualExactlyWhenEqualIgnoringCaseSpec : ChangeSpec := { name := "fnAsciiLowerEqualExactlyWhenEqualIgnoringCase", fn := fun _ => fun
  | [d1, d2] => { results := [.lit (.bool true)], args := [d1, d2] }
  | _ => none }
def fnAsciiLowerEqualExactlyWhenEqualIgnoringCaseRow : OpenClaim := { program := "qxb6619645a", sum := "2c2f6724213e33f136e20698c8edcd9995cc7300bc00adfafdfca6dc097d7bb8", func := "example.com/moorings/moorings/zzlaws_root_b1.FnAsciiLowerEqualExactlyWhenEqualIgnoringCase", spec := "fnAsciiLowerEqualExactlyWhenEqualIgnoringCase", apart := false }
def FnAsciiLowerEqualExactlyWhenEqualIgnoringCaseSaid : Prop := fnAsciiLowerEqualExactlyWhenEqualIgnoringCaseRow.holds Try.pinned (OpenSpec.ofChange fnAsciiLowerEqualExactlyWhenEqualIgnoringCaseSpec)

/-- ITS FALSE NEIGHBOUR: 'it returns false'. Refute it at one input. -/
def fnAsciiLowerEqualExactlyWhenEqualIgnoringCaseWrong : ChangeSpec := { name := "fnAsciiLowerEqualExactlyWhenEqualIgnoringCase", fn := fun _ => fun
  | [d1, d2] => { results := [.lit (.bool false)], args := [d1, d2] }
  | _ => none }
def FnAsciiLowerEqualExactlyWhenEqualIgnoringCaseWrongFalsely : Prop := fnAsciiLowerEqualExactlyWhenEqualIgnoringCaseRow.holds Try.pinned (OpenSpec.ofChange fnAsciiLowerEqualExactlyWhenEqualIgnoringCaseWrong)

/-- 'zzlaws_root_b1.FnIsHostNameJoinsAndIgnoresCase': WHATEVER THE INPUT: true; the input reads as it did. -/
def fnIsHostNameJoinsAndIgnoresCaseSpec : ChangeSpec := { name := "fnIsHostNameJoinsAndIgnoresCase", fn := fun _ => fun
  | [d1, d2] => { results := [.lit (.bool true)], args := [d1, d2] }
  | _ => none }
def fnIsHostNameJoinsAndIgnoresCaseRow : OpenClaim := { program := "qxb6619645a", sum := "2c2f6724213e33f136e20698c8edcd9995cc7300bc00adfafdfca6dc097d7bb8", func := "example.com/moorings/moorings/zzlaws_root_b1.FnIsHostNameJoinsAndIgnoresCase", spec := "fnIsHostNameJoinsAndIgnoresCase", apart := false }
def FnIsHostNameJoinsAndIgnoresCaseSaid : Prop := fnIsHostNameJoinsAndIgnoresCaseRow.holds Try.pinned (OpenSpec.ofChange fnIsHostNameJoinsAndIgnoresCaseSpec)

/-- ITS FALSE NEIGHBOUR: 'it returns false'. Refute it at one input. -/
def fnIsHostNameJoinsAndIgnoresCaseWrong : ChangeSpec := { name := "fnIsHostNameJoinsAndIgnoresCase", fn := fun _ => fun
  | [d1, d2] => { results := [.lit (.bool false)], args := [d1, d2] }
  | _ => none }
def FnIsHostNameJoinsAndIgnoresCaseWrongFalsely : Prop := fnIsHostNameJoinsAndIgnoresCaseRow.holds Try.pinned (OpenSpec.ofChange fnIsHostNameJoinsAndIgnoresCaseWrong)

end Rows
end Go.Proofs.Qxb6619645a
