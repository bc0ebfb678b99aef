/-
  ReadName over what QuoteIdentifier writes of a name: the name's units, and true; conditions: the name is not empty, and has at most 2^31 code points.
-/
import Derived.Test.YtnlfmlamkkbjaaaFmtRd
import Derived.Test.YtnlfmlamkkbjaaaFmtPFnNamex7
namespace Go.Proofs.YtnlfmlamkkbjaaaFmt
open Go.RowKit Go.Proofs.YtnlfmlamkkbjaaaFmtW.PrintWords PFnName

def REnd (w : World) (ps : List Nat) (e : Ending) (W : World) : Prop := ∃ v, e = .returned (.tuple #[v, .bool true]) ∧ Own16 W w.heap.size v (units16 ps) ∧ Below w.heap.size w W

theorem Own16.base {W : World} {B B' : Nat} {v : Value} {o : List Int} (h : Own16 W B v o) (hb : B' ≤ B) : Own16 W B' v o := by
  refine ⟨h.1, ?_⟩
  rcases h.2 with hn | ⟨g, cap, cur, hv, hbg, rest⟩
  · exact .inl hn
  · exact .inr ⟨g, cap, cur, hv, Nat.le_trans hb hbg, rest⟩

set_option maxRecDepth 100000 in
set_option maxHeartbeats 2000000 in
theorem readName_any (w : World) (ps : List Nat) (K : Nat) (hn : ∀ p ∈ ps, NameP p) (hu : ∀ p ∈ ps, ∃ K, spec_units.f K (p : Int) = some (u16P p)) (hm : ps.length ≤ 2147483647)
    (hpos : 0 < (txt ps).size) (hlow : spec_IsLow.f K (txt ps) = some true) :
    Calls Tryf.prog 7 #[.string (txt ps)] w fun e w' => REnd w ps e w' := by
  have HN := Lib.hid hn
  have HU := Lib.hid hu
  have HM := Lib.hid hm
  have HLOW := Lib.hid hlow
  have hne := ne_empty hpos
  have hem : (txt []).toList.isEmpty = true := by
    have := len_toList (txt [])
    rw [txt_size] at this
    rw [List.isEmpty_iff]; exact List.eq_nil_of_length_eq_zero (by rw [this]; rfl)
  clear hn hu hm hlow hpos
  obtain ⟨t, ht⟩ : ∃ t, txt ps = t := ⟨_, rfl⟩
  rw [ht] at hne HLOW ⊢
  have HT := Lib.hid ht
  clear ht
  have hcall := name_any w.heap.size w.heap.size (w.alloc (.cells #[.string t, .bool false] 37)) ps (Nat.le_refl _) (by simp) (by rw [HT.out]; exact heap_alloc_new w _) HN.out HU.out HM.out
  have HCALL := Lib.hid hcall
  clear hcall
  go_enter Tryf.func7, Tryf.ntmps7
  go_wp2_with (first
    | (go_at_call 14; refine HCALL.out.mono ?_; rintro e w1 ⟨v, rfl, hov, hcv, hbv⟩; have hc0 : w1.cell? ⟨w.heap.size, 0, none⟩ = some (.string (txt [])) := (by rw [cell_of_row w1 _ 0 _ _ _ hcv]; rfl); have hc1 : w1.cell? ⟨w.heap.size, 1, none⟩ = some (.bool false) := (by rw [cell_of_row w1 _ 1 _ _ _ hcv]; rfl); have HOV := Lib.hid hov; have HBV := Lib.hid hbv; clear hov hcv hbv)
    | (go_at_call 15; refine (spec_IsLow.calls K t true _ HLOW.out).mono ?_; rintro e w' ⟨rfl, ⟨n, rfl⟩⟩))
  go_ret2
  have hb1 : Below w.heap.size w w1 := ((Below.refl _ w).alloc (Nat.le_refl _) _).trans HBV.out
  have hb2 : Below w1.heap.size w1 (w1.drewN n) := Drawn0.below ⟨⟨n, rfl⟩⟩
  exact ⟨v, rfl, Own16.base (Own16.below HOV.out hb2) (by simp), hb1.trans (hb2.mono hb1.size)⟩
#print axioms readName_any
end Go.Proofs.YtnlfmlamkkbjaaaFmt
