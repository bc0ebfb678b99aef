/-
  No cell of these rows narrows 'for every input' (looked for: loops, veiled, ifaces, maps, wideKeys, modest, calm, conditions, laid).
  DERIVED. THE GIVEN ROWS OF THIS SEAT. 2 by the template 'for every input the law returns true; each argument reads behind the call as it read before'; 0 by the template 'total and deterministic' (their statements: YtnlfmlamkkbjaaaFmtTotals.lean).
  GIVEN WITH THE SEED: the statements are not yours to turn. If you find one false, say at which input.
  Laid BY PROGRAM, IN A SANDBOX (cutbox-rows.mjs): the forced cells as the released guide's own fill.sh prints them over the translation 6ac13626a5a25013… (all of the seat's roots in one cut). By AI agents, Wed Nov 11 2026. No macro, syntax, notation, axiom, sorry.
-/
import Derived.Test.YtnlfmlamkkbjaaaFmtChecked
import GoSem.Claim
import GoSem.ClaimJoined
import GoSem.ClaimMapViews
import Derived.JoinedTies
import Derived.KernelRfl
namespace Go.Proofs.YtnlfmlamkkbjaaaFmt
/- THE CELL 'sum', in the pinned program and in every row, IS THE sha256 OF THE DUMP (.gsa) THAT YtnlfmlamkkbjaaaFmtProg.lean LOADS. Nothing in Lean hashes anything: it is a label: what it is worth is what the hold of that sum in a sandbox is worth. -/
noncomputable def Tryf.pinned : Pinned := { name := "ytnlfmlamkkbjaaafmt", sum := "6ac13626a5a25013635d77f2fc6bba42b9b8544dd86f56f28e644729f0706600", checked := Tryf.checked }
namespace Rows
def none {H : Type} : Left H := { results := [], args := [] }

/-- 'laws.FnName': WHATEVER THE INPUT: true; the input reads as it did. -/
def fnNameSpec : ChangeSpec := { name := "fnName", fn := fun _ => fun
  | [d1, d2] => { results := [.lit (.bool true)], args := [d1, d2] }
  | _ => none }
def fnNameRow : OpenClaim := { program := "ytnlfmlamkkbjaaafmt", sum := "6ac13626a5a25013635d77f2fc6bba42b9b8544dd86f56f28e644729f0706600", func := "inkroller/laws.FnName", spec := "fnName", stops := ["fmt.Sprintf"], inPlace := ["fmt.Sprintf"], apart := false }
/-- NO THEOREM (fmt's text is open here; it may be false): for the released tool's asking of the row's closed facts alone. THE STATEMENT IS 'FnNameToldSaid' (YtnlfmlamkkbjaaaFmtCards.lean). -/
def FnNameFormAsk : Prop := fnNameRow.holds Tryf.pinned (OpenSpec.ofChange fnNameSpec)

/-- ITS FALSE NEIGHBOUR: 'it returns false'. Refute it at one input. -/
def fnNameWrong : ChangeSpec := { name := "fnName", fn := fun _ => fun
  | [d1, d2] => { results := [.lit (.bool false)], args := [d1, d2] }
  | _ => none }
def FnNameWrongFormAsk : Prop := fnNameRow.holds Tryf.pinned (OpenSpec.ofChange fnNameWrong)

/-- 'laws.FnNameKept': WHATEVER THE INPUT: true; the input reads as it did. -/
def fnNameKeptSpec : ChangeSpec := { name := "fnNameKept", fn := fun _ => fun
  | [d1, d2] => { results := [.lit (.bool true)], args := [d1, d2] }
  | _ => none }
def fnNameKeptRow : OpenClaim := { program := "ytnlfmlamkkbjaaafmt", sum := "6ac13626a5a25013635d77f2fc6bba42b9b8544dd86f56f28e644729f0706600", func := "inkroller/laws.FnNameKept", spec := "fnNameKept", stops := ["fmt.Sprintf"], inPlace := ["fmt.Sprintf"], apart := false }
/-- NO THEOREM (fmt's text is open here; it may be false): for the released tool's asking of the row's closed facts alone. THE STATEMENT IS 'FnNameKeptToldSaid' (YtnlfmlamkkbjaaaFmtCards.lean). -/
def FnNameKeptFormAsk : Prop := fnNameKeptRow.holds Tryf.pinned (OpenSpec.ofChange fnNameKeptSpec)

/-- ITS FALSE NEIGHBOUR: 'it returns false'. Refute it at one input. -/
def fnNameKeptWrong : ChangeSpec := { name := "fnNameKept", fn := fun _ => fun
  | [d1, d2] => { results := [.lit (.bool false)], args := [d1, d2] }
  | _ => none }
def FnNameKeptWrongFormAsk : Prop := fnNameKeptRow.holds Tryf.pinned (OpenSpec.ofChange fnNameKeptWrong)

end Rows
end Go.Proofs.YtnlfmlamkkbjaaaFmt
