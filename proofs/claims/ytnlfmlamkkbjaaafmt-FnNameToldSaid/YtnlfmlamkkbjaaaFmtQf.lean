/-
  The closed facts for fmt.Sprintf's one call in QuoteIdentifier, and its text; condition: a code point of at most 10FFFF.
-/
import Derived.Test.YtnlfmlamkkbjaaaFmtProg
import Derived.Test.YtnlfmlamkkbjaaaFmtU
import Derived.WalkArith
import Derived.Stop.CallBack
import Derived.Stop.IfaceNil
import Derived.Stop.Texts
import Derived.Stop.JoinedTold
import Derived.Stop.FmtTextBases
import GoSem.ClaimData
namespace Go.Proofs
open Go.Extern.Stop Go.Stop Go.Extern

@[go_sem] theorem Tryf.call18 (args : Array Value) (w : World) : (callFunc 18 args).run Tryf.prog w = ((FmtStop.sprintf #[9, 75] #[9] args).run Tryf.prog w).andThen fun v w' => .ok (.value v) w' :=
  run_callFunc_extern Tryf.func18 (by kernel_rfl) (by kernel_rfl) (by kernel_rfl) (by kernel_rfl) args w
@[go_sem] theorem Tryf.guard (name : String) (w : World) : (FmtStop.guard name).run Tryf.prog w = .ok () w := by kernel_rfl
@[go_sem] theorem Tryf.fmt1 : FmtStop.printed? ⟨#[92, 117, 123, 37, 88, 125]⟩ 1 = some [(0, 88, false)] := by kernel_rfl
@[go_sem] theorem Tryf.fmt1r (w : World) : (FmtDoors.printed ⟨#[92, 117, 123, 37, 88, 125]⟩ 1).run Tryf.prog w = .ok [(0, 88, false)] w := by kernel_rfl
def Tryf.shape21 : List UInt8 := FmtStop.intCode .i32 :: FmtStop.pack [105, 110, 116, 51, 50]
@[go_sem] theorem Tryf.op21_88 (name : String) (x : Int) (w : World) : (FmtStop.operand name false 88 false (.iface 21 (.int .i32 x))).run Tryf.prog w = .ok (Tryf.shape21, Go.Extern.Stop.digits 8 (x % 2 ^ 64).toNat) w := by kernel_rfl

namespace YtnlfmlamkkbjaaaFmt
/-- What fmt is asked at a code point. -/
def reading (c : Int) : List (List UInt8) := [[92, 117, 123, 37, 88, 125], Tryf.shape21, digits 8 (c % 18446744073709551616).toNat]
theorem parsed : (FmtText.parse [92, 117, 123, 37, 88, 125]).map FmtText.glue = some [.lit [92, 117, 123], .verb {} 88, .lit [125]] := by rfl
theorem text_point (p : Nat) (h : p ≤ 1114111) : FmtText.text "fmt.Sprintf" (reading p) = some ([92, 117, 123] ++ FmtText.numeral 16 true p ++ [125]) := by
  have hw : (Lit.int .i32 (p : Int)).wf = true := WalkArith.wf_i32 (by omega)
  have hi := FmtText.operand_int_at (sh := Tryf.shape21) (k := .i32) rfl rfl (p : Int) hw
  rw [reading, FmtText.text_sprintf_glued parsed (FmtText.operands_cons hi FmtText.operands_nil)]
  simp [FmtText.render, FmtText.printArg_X _ _ hw, FmtText.inBase]
end YtnlfmlamkkbjaaaFmt
end Go.Proofs
