/-
  The law FnNameKept, walked: it answers true at every two texts.
-/
import Derived.Test.YtnlfmlamkkbjaaaFmtKc
namespace Go.Proofs.YtnlfmlamkkbjaaaFmt
open Go.RowKit

def Yes (w : World) (e : Ending) (w' : World) : Prop := e = .returned (.bool true) ∧ Below w.heap.size w w'

theorem both_eq (f s : ByteArray) : both f s = f ++ s := by
  apply ByteArray.ext
  unfold both
  simp

set_option maxRecDepth 100000 in
set_option maxHeartbeats 1000000 in
theorem kept_any (f s : ByteArray) (w : World) (hf : f.size ≤ 140737488351232) (hs : s.size ≤ 140737488351232) :
    Calls Tryf.prog 4 #[.string f, .string s] w fun e w' => Yes w e w' := by
  by_cases h1 : f.size ≤ 2147483647
  · by_cases h2 : s.size ≤ 2147483647
    · by_cases h3 : AName s
      · have H3 := Lib.hid h3
        clear h3
        go_enter Tryf.func4, Tryf.ntmps4
        go_wp2_with (first
          | (go_at_call 10; refine (isASCIIName_any s _ h2).mono ?_; rintro e w' ⟨rfl, rfl⟩; rw [anameB_true H3.out])
          | (go_at_call 6; refine (quoteName_ascii f s _ H3.out h2 h1).mono ?_; rintro e w' ⟨rfl, hb⟩; have HB := Lib.hid hb; clear hb; rw [both_eq]))
        go_ret
        exact ⟨rfl, HB.out⟩
      · have H3 := Lib.hid h3
        clear h3
        go_enter Tryf.func4, Tryf.ntmps4
        go_wp2_with (go_at_call 10; refine (isASCIIName_any s _ h2).mono ?_; rintro e w' ⟨rfl, rfl⟩; rw [anameB_false H3.out])
        go_ret
        exact ⟨rfl, Below.refl _ _⟩
    · go_enter Tryf.func4, Tryf.ntmps4
      go_wp2
      go_ret
      exact ⟨rfl, Below.refl _ _⟩
  · go_enter Tryf.func4, Tryf.ntmps4
    go_wp2
    go_ret
    exact ⟨rfl, Below.refl _ _⟩
end Go.Proofs.YtnlfmlamkkbjaaaFmt
