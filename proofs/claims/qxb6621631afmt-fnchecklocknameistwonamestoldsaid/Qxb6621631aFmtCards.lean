/-
  DERIVED. GIVEN WITH THE SEED: THE CARDS: each row of Qxb6621631aFmtRows.lean that lists a variable, with what it lists TIED to the program's text (the seventh form; the later family's looks); each row that meets fmt, with fmt's text TOLD by the authors' own Lean function (tested against real Go, not proved from fmt's source: count such statements apart). THE CARD IS WHAT COUNTS. Prove the row's statement (the work); the ties are given (Qxb6621631aFmtTie.lean); close each card by the builder's one call (the guide's Derived/Test/ToyasCard.lean, 'card_holds'). Laid BY PROGRAM, IN A SANDBOX (cutbox-door.mjs). By AI agents, Wed Nov 11 2026. No macro, syntax, notation, axiom, sorry.
-/
import Derived.Test.Qxb6621631aFmtRows
import GoSem.ClaimSeven
namespace Go.Proofs.Qxb6621631aFmt
namespace Rows

/-- THE TOLD CARD OF 'zzlaws_internal_names_e1.FnCheckWordLeastMax'. -/
def fnCheckWordLeastMaxCard : Claim7 := { stood := { row := fnCheckWordLeastMaxRow, standIns := [], harness := (true, "2ba5fb358edb7d603bf87bc3267b221f618c97d02e1eb84dccd5d49c97479a97"), looks := false }, told := true, goes := false }
def FnCheckWordLeastMaxToldSaid : Prop := Claim7.holds Tryf.pinned (.plain (OpenSpec.ofChange fnCheckWordLeastMaxSpec)) fnCheckWordLeastMaxCard
/-- ITS FALSE NEIGHBOUR. Refute it at one input. -/
def FnCheckWordLeastMaxToldWrongFalsely : Prop := Claim7.holds Tryf.pinned (.plain (OpenSpec.ofChange fnCheckWordLeastMaxWrong)) fnCheckWordLeastMaxCard

/-- THE TOLD CARD OF 'zzlaws_internal_names_e1.FnCheckWordCutAnywhere'. -/
def fnCheckWordCutAnywhereCard : Claim7 := { stood := { row := fnCheckWordCutAnywhereRow, standIns := [], harness := (true, "2ba5fb358edb7d603bf87bc3267b221f618c97d02e1eb84dccd5d49c97479a97"), looks := false }, told := true, goes := false }
def FnCheckWordCutAnywhereToldSaid : Prop := Claim7.holds Tryf.pinned (.plain (OpenSpec.ofChange fnCheckWordCutAnywhereSpec)) fnCheckWordCutAnywhereCard
/-- ITS FALSE NEIGHBOUR. Refute it at one input. -/
def FnCheckWordCutAnywhereToldWrongFalsely : Prop := Claim7.holds Tryf.pinned (.plain (OpenSpec.ofChange fnCheckWordCutAnywhereWrong)) fnCheckWordCutAnywhereCard

/-- THE TOLD CARD OF 'zzlaws_internal_names_e1.FnCheckNameIsWordOfAtMost64'. -/
def fnCheckNameIsWordOfAtMost64Card : Claim7 := { stood := { row := fnCheckNameIsWordOfAtMost64Row, standIns := [], harness := (true, "2ba5fb358edb7d603bf87bc3267b221f618c97d02e1eb84dccd5d49c97479a97"), looks := false }, told := true, goes := false }
def FnCheckNameIsWordOfAtMost64ToldSaid : Prop := Claim7.holds Tryf.pinned (.plain (OpenSpec.ofChange fnCheckNameIsWordOfAtMost64Spec)) fnCheckNameIsWordOfAtMost64Card
/-- ITS FALSE NEIGHBOUR. Refute it at one input. -/
def FnCheckNameIsWordOfAtMost64ToldWrongFalsely : Prop := Claim7.holds Tryf.pinned (.plain (OpenSpec.ofChange fnCheckNameIsWordOfAtMost64Wrong)) fnCheckNameIsWordOfAtMost64Card

/-- THE TOLD CARD OF 'zzlaws_internal_names_e1.FnCheckNameCutAnywhere'. -/
def fnCheckNameCutAnywhereCard : Claim7 := { stood := { row := fnCheckNameCutAnywhereRow, standIns := [], harness := (true, "2ba5fb358edb7d603bf87bc3267b221f618c97d02e1eb84dccd5d49c97479a97"), looks := false }, told := true, goes := false }
def FnCheckNameCutAnywhereToldSaid : Prop := Claim7.holds Tryf.pinned (.plain (OpenSpec.ofChange fnCheckNameCutAnywhereSpec)) fnCheckNameCutAnywhereCard
/-- ITS FALSE NEIGHBOUR. Refute it at one input. -/
def FnCheckNameCutAnywhereToldWrongFalsely : Prop := Claim7.holds Tryf.pinned (.plain (OpenSpec.ofChange fnCheckNameCutAnywhereWrong)) fnCheckNameCutAnywhereCard

/-- THE TOLD CARD OF 'zzlaws_internal_names_e1.FnCheckLockNameIsTwoNames'. -/
def fnCheckLockNameIsTwoNamesCard : Claim7 := { stood := { row := fnCheckLockNameIsTwoNamesRow, standIns := [], harness := (true, "2ba5fb358edb7d603bf87bc3267b221f618c97d02e1eb84dccd5d49c97479a97"), looks := false }, told := true, goes := false }
def FnCheckLockNameIsTwoNamesToldSaid : Prop := Claim7.holds Tryf.pinned (.plain (OpenSpec.ofChange fnCheckLockNameIsTwoNamesSpec)) fnCheckLockNameIsTwoNamesCard
/-- ITS FALSE NEIGHBOUR. Refute it at one input. -/
def FnCheckLockNameIsTwoNamesToldWrongFalsely : Prop := Claim7.holds Tryf.pinned (.plain (OpenSpec.ofChange fnCheckLockNameIsTwoNamesWrong)) fnCheckLockNameIsTwoNamesCard
end Rows
end Go.Proofs.Qxb6621631aFmt
