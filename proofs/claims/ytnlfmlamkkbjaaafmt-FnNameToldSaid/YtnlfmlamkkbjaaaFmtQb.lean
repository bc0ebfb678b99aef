/-
  QuoteName at every name in UTF-8: what stood there, and the quoted name behind it; conditions: both shorter than 2^31, fmt's answers as the tape has them.
-/
import Derived.Test.YtnlfmlamkkbjaaaFmtQa
import Derived.Laws.IdiomStrings
namespace Go.Proofs.YtnlfmlamkkbjaaaFmt
open Go.RowKit Go.Kit Go.Extern.Stop Go.Stop Go.Extern

theorem qbuf_text {P : Program} {w : World} {base e src dst : TypeId} {v : Value} {l : List UInt8} (h : Buf w base e v (cells l)) (hs : P.underlying src = some (.slice e)) (he : P.underlying e = some (.int .u8)) (hd : P.underlying dst = some .string) :
    (convert src dst v).run P w = .ok (.string ⟨l.toArray⟩) w := by
  have h' := h
  obtain ⟨g, cap, cur, fz, rfl, _⟩ := h
  rw [cells_length]
  refine run_convert_bytes_back w src dst e ⟨g, 0, none⟩ cap l hs he hd (fun j hj => ?_)
  have hadd : ((⟨g, 0, none⟩ : Addr).add j) = ⟨g, j, none⟩ := by unfold Addr.add; split <;> simp_all
  rw [hadd]
  exact h'.cell rfl j _ (by unfold cells; rw [List.getElem?_map, List.getElem?_eq_getElem hj]; rfl)

/-- What fmt's texts are at code points. -/
def Told (F : Interp) : Prop := ∀ p : Nat, 65535 < p → p ≤ 1114111 → (FmtStop.textOf (F "fmt.Sprintf" (reading (p : Int)) 0)).data.toList = [92, 117, 123] ++ FmtText.numeral 16 true p ++ [125]
theorem told_told (F : Interp) : Told F.told := by
  intro p h1 h2
  have hl := FmtText.numeral_length_le 16 true p
  have ht := told_string F (text_point p h2) (by simp; omega)
  rw [textOf_list, ht]
/-- Front and quoted name. -/
def qtext (f : ByteArray) (ps : List Nat) : ByteArray := ⟨(f.data.toList ++ quoted ps).toArray⟩
def QName (w : World) (f : ByteArray) (ps : List Nat) (e : Ending) (w' : World) : Prop := e = .returned (.string (qtext f ps)) ∧ Below w.heap.size w w'

set_option maxRecDepth 100000 in
set_option maxHeartbeats 1000000 in
theorem quoteName_any (F : Interp) (f s : ByteArray) (ps : List Nat) (w : World) (hF : F.answers w.tape) (hT : Told F) (hn : Name s ps) (hf : f.size ≤ 2147483647) :
    Calls Tryf.prog 6 #[.string f, .string s] w fun e w' => QName w f ps e w' := by
  have HN := Lib.hid hn
  have HF := Lib.hid hF
  have HT := Lib.hid hT
  clear hn hF hT
  have hconv := run_bytes_of_string (P := Tryf.prog) w 9 31 5 f Tryf.underlying9 Tryf.underlying31 Tryf.underlying5
  have hbuf := Lib.hid (buf_converted w 5 f w.heap.size (Nat.le_refl _) (by unfold maxLen; omega))
  go_enter Tryf.func6, Tryf.ntmps6
  go_wp2_with fail
  refine (quote_any F w.heap.size _ (by exact HF.out) _ f.data.toList s ps HT.out HN.out hbuf.out (by simp) (by rw [Array.length_toList]; exact hf)).mono ?_
  rintro e w1 ⟨v, rfl, hb, hB⟩
  have hback := qbuf_text (P := Tryf.prog) (dst := 9) (src := 31) hb Tryf.underlying31 Tryf.underlying5 Tryf.underlying9
  clear hb hconv
  have HBB := Lib.hid hB
  clear hB
  go_wp2
  go_ret
  exact ⟨rfl, ((Below.refl _ w).drew.alloc (Nat.le_refl _) _).trans HBB.out⟩
#print axioms quoteName_any
end Go.Proofs.YtnlfmlamkkbjaaaFmt
