/-
  The pieces of the reader's loop: isNamed, Point and isSurrogate where it calls them; units appended to units.
-/
import Derived.Test.YtnlfmlamkkbjaaaFmtRb
import Derived.Deep.AppendLies
import Derived.Deep.RegionHeld3
import Derived.Deep.LoopGhost
namespace Go.Proofs.YtnlfmlamkkbjaaaFmt
open Go.RowKit Go.Proofs.YtnlfmlamkkbjaaaFmtW.PrintWords PFnName

/-- A letter, a digit, _ or $. -/
def WordP (c : Int) : Prop := (97 ≤ c ∧ c ≤ 122) ∨ (65 ≤ c ∧ c ≤ 90) ∨ (48 ≤ c ∧ c ≤ 57) ∨ c = 95 ∨ c = 36

theorem bool_true {b : Bool} (h : b = true) : Ending.returned (.bool b) = .returned (.bool true) := by rw [h]

set_option maxRecDepth 100000 in
set_option maxHeartbeats 400000 in
theorem isNamed_yes (c : Int) (w : World) (h : WordP c ∨ c = 92) : Calls Tryf.prog 19 #[.int .u8 c] w fun e w' => e = .returned (.bool true) ∧ w = w' := by
  have h0 : 0 ≤ c := by unfold WordP at h; omega
  have h1 : c ≤ 255 := by unfold WordP at h; omega
  have H := Lib.hid h
  clear h
  go_enter Tryf.func19, Tryf.ntmps19
  go_wp2
  all_goals (go_ret; refine ⟨bool_true ?_, rfl⟩; have h := H.out; unfold WordP at h; first | rfl | (simp; omega))

set_option maxRecDepth 100000 in
set_option maxHeartbeats 400000 in
theorem point_ascii (s : ByteArray) (w : World) (hs : 0 < s.size) (c : Int) (hc : ((s[0]'hs).toNat : Int) = c) (h : c < 128) :
    Calls Tryf.prog 22 #[.string s] w fun e w' => e = .returned (.tuple #[.int .i64 c, .int .i64 1]) ∧ w = w' := by
  have h0 : 0 ≤ c := by omega
  have hne := ne_empty hs
  go_enter Tryf.func22, Tryf.ntmps22
  go_wp2
  go_ret2
  exact ⟨rfl, rfl⟩

theorem low_surrogate (c : Int) (w : World) (h0 : 0 ≤ c) (h : c < 128) : Calls Tryf.prog 23 #[.int .i64 c] w fun e w' => e = .returned (.bool false) ∧ w = w' := by
  have h1 : ¬ (55296 : Int) ≤ c := by omega
  go_enter Tryf.func23, Tryf.ntmps23
  go_wp2
  go_ret
  exact ⟨by simp, rfl⟩

theorem info39 : (Tryf.prog.info? 39).map (fun i => (i.zero, i.size, i.bytes)) = some (some (.int .u16 0), 1, 2) := by kernel_rfl

section
variable {W W' : World} {B B' : Nat} {v vl : Value} {o l : List Int}
theorem Own16.below (h : Own16 W B v o) (hb : Below W.heap.size W W') : Own16 W' B v o := by
  refine World.ownsRow.kept (row := none) h ⟨hb.os, hb.tape, hb.output, hb.size, fun k hk _ => hb.block k hk⟩ ?_
  cases hv : v.ownBlock with
  | none => exact .inl rfl
  | some k => exact .inr (by simp)
theorem Own16.drew (h : Own16 W B v o) : Own16 W.drew B v o := h
theorem Own16.block (h : Own16 W B v o) : ∀ k, v.ownBlock = some k → B ≤ k ∧ k < W.heap.size := World.ownsRow.lt h
theorem Own16.store (h : Own16 W B v o) {g j : Nat} (hg : g < B) (u : Value) : Own16 (W.setCell ⟨g, j, none⟩ u) B v o := ownsRow_setCell_below h hg u

/-- Units appended to units, as a step of a region that draws its order. -/
theorem step_append16 {ops : Array Oper} {op : Oper} {a : Act} {K : Act → World → Prop} {Q : Exit → Act → World → Prop} {E : Prop} (hgd : op.guard = none) (sl x : Operand)
    (hop : op.op = .call { callee := .builtin .append, args := #[sl, x], argTypes := #[24, 24] })
    (hv : a.eval sl = v) (hx : a.eval x = vl) (ho : Own16 W B v o) (hl : Own16 W B' vl l) (hne : l ≠ []) (hB : B ≤ W.heap.size) (hlen : (o.length + l.length) * 2 ≤ 140737488355328)
    (hk : ∀ v' w', Own16 w' B v' (o ++ l) → W.grownBy w' v.ownBlock → K (a.put op.dst v') w') :
    if Region.wanted op (yielded ops a.tmps) = true then Oper.wp Tryf.prog op a W K Q else E := by
  obtain ⟨i0, hi, hz0, hz1, hz2⟩ := info_parts info39
  have hpos : 0 < l.length := List.length_pos_iff.2 hne
  obtain ⟨g, cap, rfl, _, hlt⟩ := World.ownsRow.form hl hpos
  refine step_append_lies W hgd sl x 24 hop B 39 i0 (.int .u16 0) 1 2 Tryf.underlying24 hi hz0 hz1 hz2 rfl (by omega) v o.length (o.map (Value.int .u16)) hv ho
    ⟨g, 0, none⟩ l.length cap (l.map (Value.int .u16)) hx (by simp) (World.ownsRow.cells hl rfl) (fun u hu => ?_) hpos (by unfold maxLen; omega) hlen hB _ rfl (fun g' cap' w' h2 h3 _ _ => ?_)
  · obtain ⟨y, _, rfl⟩ := List.mem_map.1 hu
    rfl
  · refine hk _ w' ?_ h3
    unfold Own16
    rw [List.length_append, List.map_append]
    exact h2
end
end Go.Proofs.YtnlfmlamkkbjaaaFmt
