/-
  DERIVED. GIVEN WITH THE SEED: THE CARDS: each row of Qxb6615196aDoorRows.lean that lists a variable, with what it lists TIED to the program's text (the seventh form; the later family's looks); each row that meets fmt, with fmt's text TOLD by the authors' own Lean function (tested against real Go, not proved from fmt's source: count such statements apart). THE CARD IS WHAT COUNTS. Prove the row's statement (the work); the ties are given (Qxb6615196aDoorTie.lean); close each card by the builder's one call (the guide's Derived/Test/ToyasCard.lean, 'card_holds'). Laid BY PROGRAM, IN A SANDBOX (cutbox-door.mjs). By AI agents, Wed Nov 11 2026. No macro, syntax, notation, axiom, sorry.
-/
import Derived.Test.Qxb6615196aDoorRows
import GoSem.ClaimSeven
namespace Go.Proofs.Qxb6615196aDoor
namespace Rows

/-- THE TIED CARD OF 'zzlaws_pkg_jsondoc_b1.FnEditReplaceScriptKeepsOrderAndText'. -/
def fnEditReplaceScriptKeepsOrderAndTextCard : Claim7 := { stood := { row := fnEditReplaceScriptKeepsOrderAndTextRow, standIns := [], harness := (true, "a1f01d4a1ab0516dd28eb18f4486042fc98051b9e96571fa76ca9eaad6125e7a"), looks := false }, kinds := [], alts := [], laidByText := true, laidKinds := [.data, .data, .data], laidTests := true, laidLooks := .later }
def FnEditReplaceScriptKeepsOrderAndTextCardSaid : Prop := Claim7.holds Tryd.pinned (.plain (OpenSpec.ofChange fnEditReplaceScriptKeepsOrderAndTextSpec)) fnEditReplaceScriptKeepsOrderAndTextCard

/-- THE TIED CARD OF 'zzlaws_pkg_jsondoc_b1.FnIntAppendKeepsPrefixAndReadsBack'. -/
def fnIntAppendKeepsPrefixAndReadsBackCard : Claim7 := { stood := { row := fnIntAppendKeepsPrefixAndReadsBackRow, standIns := [], harness := (true, "a1f01d4a1ab0516dd28eb18f4486042fc98051b9e96571fa76ca9eaad6125e7a"), looks := false }, kinds := [], alts := [], laidByText := true, laidKinds := [.data, .data, .data], laidTests := true, laidLooks := .later }
def FnIntAppendKeepsPrefixAndReadsBackCardSaid : Prop := Claim7.holds Tryd.pinned (.plain (OpenSpec.ofChange fnIntAppendKeepsPrefixAndReadsBackSpec)) fnIntAppendKeepsPrefixAndReadsBackCard

/-- THE TIED CARD OF 'zzlaws_pkg_jsondoc_b1.FnIntNegationMirrorsSign'. -/
def fnIntNegationMirrorsSignCard : Claim7 := { stood := { row := fnIntNegationMirrorsSignRow, standIns := [], harness := (true, "a1f01d4a1ab0516dd28eb18f4486042fc98051b9e96571fa76ca9eaad6125e7a"), looks := false }, kinds := [], alts := [], laidByText := true, laidKinds := [.data, .data, .data], laidTests := true, laidLooks := .later }
def FnIntNegationMirrorsSignCardSaid : Prop := Claim7.holds Tryd.pinned (.plain (OpenSpec.ofChange fnIntNegationMirrorsSignSpec)) fnIntNegationMirrorsSignCard
end Rows
end Go.Proofs.Qxb6615196aDoor
