/-
  DERIVED. GIVEN WITH THE SEED: THE CARDS: each row of Qxb6619860aDoorRows.lean that lists a variable, with what it lists TIED to the program's text (the seventh form; the later family's looks); each row that meets fmt, with fmt's text TOLD by the authors' own Lean function (tested against real Go, not proved from fmt's source: count such statements apart). THE CARD IS WHAT COUNTS. Prove the row's statement (the work); the ties are given (Qxb6619860aDoorTie.lean); close each card by the builder's one call (the guide's Derived/Test/ToyasCard.lean, 'card_holds'). Laid BY PROGRAM, IN A SANDBOX (cutbox-door.mjs). By AI agents, Wed Nov 11 2026. No macro, syntax, notation, axiom, sorry.
-/
import Derived.Test.Qxb6619860aDoorRows
import GoSem.ClaimSeven
namespace Go.Proofs.Qxb6619860aDoor
namespace Rows

/-- THE TIED CARD OF 'zzlaws_internal_bencode_b1.FnAppendIntKeepsPrefixAndWritesCanonicalToken'. -/
def fnAppendIntKeepsPrefixAndWritesCanonicalTokenCard : Claim7 := { stood := { row := fnAppendIntKeepsPrefixAndWritesCanonicalTokenRow, standIns := [], harness := (true, "74fefadfa8239243b75facdc0747a0af562392e62547c256f7b73a29510bf80b"), looks := false }, kinds := [], alts := [], laidByText := true, laidKinds := [.data, .data, .data], laidTests := true, laidLooks := .later }
def FnAppendIntKeepsPrefixAndWritesCanonicalTokenCardSaid : Prop := Claim7.holds Tryd.pinned (.plain (OpenSpec.ofChange fnAppendIntKeepsPrefixAndWritesCanonicalTokenSpec)) fnAppendIntKeepsPrefixAndWritesCanonicalTokenCard

/-- THE TIED CARD OF 'zzlaws_internal_bencode_b1.FnAppendIntTokensAreSelfDelimiting'. -/
def fnAppendIntTokensAreSelfDelimitingCard : Claim7 := { stood := { row := fnAppendIntTokensAreSelfDelimitingRow, standIns := [], harness := (true, "74fefadfa8239243b75facdc0747a0af562392e62547c256f7b73a29510bf80b"), looks := false }, kinds := [], alts := [], laidByText := true, laidKinds := [.data, .data, .data], laidTests := true, laidLooks := .later }
def FnAppendIntTokensAreSelfDelimitingCardSaid : Prop := Claim7.holds Tryd.pinned (.plain (OpenSpec.ofChange fnAppendIntTokensAreSelfDelimitingSpec)) fnAppendIntTokensAreSelfDelimitingCard

/-- THE TIED CARD OF 'zzlaws_internal_bencode_b1.FnAppendStringHeaderKeepsPrefixAndWritesCanonicalHeader'. -/
def fnAppendStringHeaderKeepsPrefixAndWritesCanonicalHeaderCard : Claim7 := { stood := { row := fnAppendStringHeaderKeepsPrefixAndWritesCanonicalHeaderRow, standIns := [], harness := (true, "74fefadfa8239243b75facdc0747a0af562392e62547c256f7b73a29510bf80b"), looks := false }, kinds := [], alts := [], laidByText := true, laidKinds := [.data, .data, .data], laidTests := true, laidLooks := .later }
def FnAppendStringHeaderKeepsPrefixAndWritesCanonicalHeaderCardSaid : Prop := Claim7.holds Tryd.pinned (.plain (OpenSpec.ofChange fnAppendStringHeaderKeepsPrefixAndWritesCanonicalHeaderSpec)) fnAppendStringHeaderKeepsPrefixAndWritesCanonicalHeaderCard

/-- THE TIED CARD OF 'zzlaws_internal_bencode_b1.FnAppendIntAndHeaderShareDigits'. -/
def fnAppendIntAndHeaderShareDigitsCard : Claim7 := { stood := { row := fnAppendIntAndHeaderShareDigitsRow, standIns := [], harness := (true, "74fefadfa8239243b75facdc0747a0af562392e62547c256f7b73a29510bf80b"), looks := false }, kinds := [], alts := [], laidByText := true, laidKinds := [.data, .data, .data], laidTests := true, laidLooks := .later }
def FnAppendIntAndHeaderShareDigitsCardSaid : Prop := Claim7.holds Tryd.pinned (.plain (OpenSpec.ofChange fnAppendIntAndHeaderShareDigitsSpec)) fnAppendIntAndHeaderShareDigitsCard
end Rows
end Go.Proofs.Qxb6619860aDoor
