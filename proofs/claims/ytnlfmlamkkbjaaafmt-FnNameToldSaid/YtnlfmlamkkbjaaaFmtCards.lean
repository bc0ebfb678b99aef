/-
  DERIVED. GIVEN WITH THE SEED: THE CARDS: each row of YtnlfmlamkkbjaaaFmtRows.lean that lists a variable, with what it lists TIED to the program's text (the seventh form; the later family's looks); each row that meets fmt, with fmt's text TOLD by the authors' own Lean function (tested against real Go, not proved from fmt's source: count such statements apart). THE CARD IS WHAT COUNTS. Prove the row's statement (the work); the ties are given (YtnlfmlamkkbjaaaFmtTie.lean); close each card by the builder's one call (the guide's Derived/Test/ToyasCard.lean, 'card_holds'). Laid BY PROGRAM, IN A SANDBOX (cutbox-door.mjs). By AI agents, Wed Nov 11 2026. No macro, syntax, notation, axiom, sorry.
-/
import Derived.Test.YtnlfmlamkkbjaaaFmtRows
import GoSem.ClaimSeven
namespace Go.Proofs.YtnlfmlamkkbjaaaFmt
namespace Rows

/-- THE TOLD CARD OF 'laws.FnName'. -/
def fnNameCard : Claim7 := { stood := { row := fnNameRow, standIns := [], harness := (true, "4ea690e9d923d95c8400875c50743a61331ca70b1bf205c075af0c7fb00fe0b3"), looks := false }, told := true, goes := false }
def FnNameToldSaid : Prop := Claim7.holds Tryf.pinned (.plain (OpenSpec.ofChange fnNameSpec)) fnNameCard
/-- ITS FALSE NEIGHBOUR. Refute it at one input. -/
def FnNameToldWrongFalsely : Prop := Claim7.holds Tryf.pinned (.plain (OpenSpec.ofChange fnNameWrong)) fnNameCard

/-- THE TOLD CARD OF 'laws.FnNameKept'. -/
def fnNameKeptCard : Claim7 := { stood := { row := fnNameKeptRow, standIns := [], harness := (true, "4ea690e9d923d95c8400875c50743a61331ca70b1bf205c075af0c7fb00fe0b3"), looks := false }, told := true, goes := false }
def FnNameKeptToldSaid : Prop := Claim7.holds Tryf.pinned (.plain (OpenSpec.ofChange fnNameKeptSpec)) fnNameKeptCard
/-- ITS FALSE NEIGHBOUR. Refute it at one input. -/
def FnNameKeptToldWrongFalsely : Prop := Claim7.holds Tryf.pinned (.plain (OpenSpec.ofChange fnNameKeptWrong)) fnNameKeptCard
end Rows
end Go.Proofs.YtnlfmlamkkbjaaaFmt
