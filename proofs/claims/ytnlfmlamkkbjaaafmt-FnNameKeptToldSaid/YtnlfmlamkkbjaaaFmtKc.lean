/-
  QuoteName at a name of ASCII: what stood there, and the name behind it; conditions: both shorter than 2^31.
-/
import Derived.Test.YtnlfmlamkkbjaaaFmtKa
import Derived.Test.YtnlfmlamkkbjaaaFmtKb
namespace Go.Proofs.YtnlfmlamkkbjaaaFmt
open Go.RowKit

theorem aname_byte {s : ByteArray} (h : AName s) : ∀ i (hi : i < s.size), 32 ≤ (s[i]'hi).toNat ∧ (s[i]'hi).toNat ≤ 126 := by
  intro i hi
  have := h.1 i hi
  unfold WordC at this
  omega

/-- A buffer of bytes, turned back into a text. -/
theorem buf_text {P : Program} {w : World} {base e src dst : TypeId} {v : Value} {l : List UInt8} (h : Buf w base e v (l.map fun b => Value.int .u8 b.toNat)) (hs : P.underlying src = some (.slice e)) (he : P.underlying e = some (.int .u8)) (hd : P.underlying dst = some .string) :
    (convert src dst v).run P w = .ok (.string ⟨l.toArray⟩) w := by
  have h' := h
  obtain ⟨g, cap, cur, fz, rfl, _⟩ := h
  rw [List.length_map]
  refine run_convert_bytes_back w src dst e ⟨g, 0, none⟩ cap l hs he hd (fun j hj => ?_)
  have hadd : ((⟨g, 0, none⟩ : Addr).add j) = ⟨g, j, none⟩ := by unfold Addr.add; split <;> simp_all
  rw [hadd]
  exact h'.cell rfl j _ (by rw [List.getElem?_map, List.getElem?_eq_getElem hj]; rfl)
theorem cells_append (f s : ByteArray) : byteCells f ++ byteCells s = (f.data.toList ++ s.data.toList).map fun b => Value.int .u8 b.toNat := by
  unfold byteCells; rw [List.map_append]

/-- Both texts, one behind the other. -/
def both (f s : ByteArray) : ByteArray := ⟨(f.data.toList ++ s.data.toList).toArray⟩
def Both (w : World) (f s : ByteArray) (e : Ending) (w' : World) : Prop := e = .returned (.string (both f s)) ∧ Below w.heap.size w w'

set_option maxRecDepth 100000 in
set_option maxHeartbeats 1000000 in
theorem quoteName_ascii (f s : ByteArray) (w : World) (hs : AName s) (hm : s.size ≤ 2147483647) (hf : f.size ≤ 2147483647) :
    Calls Tryf.prog 6 #[.string f, .string s] w fun e w' => Both w f s e w' := by
  have HS := Lib.hid hs
  clear hs
  have hconv := run_bytes_of_string (P := Tryf.prog) w 9 31 5 f Tryf.underlying9 Tryf.underlying31 Tryf.underlying5
  have hbuf := Lib.hid (buf_converted w 5 f w.heap.size (Nat.le_refl _) (by unfold maxLen; omega))
  go_enter Tryf.func6, Tryf.ntmps6
  go_wp2_with fail
  refine (quote_ascii w.heap.size _ _ _ s hbuf.out (by simp) HS.out.2.2 hm (by rw [byteCells_length]; omega) (aname_byte HS.out)).mono ?_
  rintro e w1 ⟨v, rfl, hb, hB⟩
  rw [cells_append] at hb
  have hback := buf_text (P := Tryf.prog) (dst := 9) (src := 31) hb Tryf.underlying31 Tryf.underlying5 Tryf.underlying9
  clear hb hconv
  have HBB := Lib.hid hB
  clear hB
  go_wp2
  go_ret
  exact ⟨rfl, ((Below.refl _ w).drew.alloc (Nat.le_refl _) _).trans HBB.out⟩
end Go.Proofs.YtnlfmlamkkbjaaaFmt
