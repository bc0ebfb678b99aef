/-
  escape where QuoteIdentifier's output leads it: behind a backslash u and four digits, or u{, digits and }.
-/
import Derived.Test.YtnlfmlamkkbjaaaFmtRa
import Derived.Test.YtnlfmlamkkbjaaaFmtPFnNamex2
import Derived.Test.YtnlfmlamkkbjaaaFmtPFnNamex4
import Derived.WalkLawsBesides
namespace Go.Proofs.YtnlfmlamkkbjaaaFmt
open Go.RowKit Go.Proofs.YtnlfmlamkkbjaaaFmtW.PrintWords PFnName

/-- v owns the units l. -/
def Own16 (W : World) (base : Nat) (v : Value) (l : List Int) : Prop := W.ownsRow base 39 1 v l.length (l.map (Value.int .u16))
theorem own_of_R {W : World} {base : Nat} {ok : Nat → Prop} {v : Value} {xs : List Int} (h : Kd.R (Kd.int .u16) 39 W base ok v xs) : Own16 W base v xs := by
  obtain ⟨_, inner, ho, hr⟩ := h
  have e : inner = xs.map (Value.int .u16) := by
    have hl : inner.length = xs.length := by have := hr.1; simpa [Kd.int, Kd.scalar] using this
    apply List.ext_getElem?
    intro j
    by_cases hj : j < xs.length
    · have h2 := hr.2 j xs[j] (List.getElem?_eq_getElem hj)
      have h3 : (inner.drop (j * 1)).take 1 = [Value.int .u16 xs[j]] := h2
      rw [Nat.mul_one] at h3
      have h4 : inner[j]? = some (Value.int .u16 xs[j]) := by
        have := congrArg (fun l => l[0]?) h3
        simpa [List.getElem?_take, List.getElem?_drop] using this
      rw [h4, List.getElem?_map, List.getElem?_eq_getElem hj]; rfl
    · rw [List.getElem?_eq_none (by omega), List.getElem?_eq_none (by simp; omega)]
  unfold Own16
  rw [← e]
  exact ho

theorem own_new (W : World) (x : Int) : Own16 (W.alloc (.cells #[.int .u16 x] 39)) W.heap.size (.slice (some ⟨W.heap.size, 0, none⟩) 1 1) [x] :=
  ⟨rfl, .inr ⟨W.heap.size, 1, #[.int .u16 x], rfl, Nat.le_refl _, heap_alloc_new W _, Nat.le_refl _, by unfold maxLen; omega, rfl, rfl⟩⟩

def EscEnd (w : World) (l : List Int) (n : Nat) (e : Ending) (w' : World) : Prop := ∃ v, e = .returned (.tuple #[v, .int .i64 (n : Int), .bool true]) ∧ Own16 w' w.heap.size v l ∧ Below w.heap.size w w'

set_option maxRecDepth 100000 in
set_option maxHeartbeats 2000000 in
theorem escape_four (s : ByteArray) (p : Nat) (w : World) (h : UFour s p) (hm : s.size ≤ 140737488355328) :
    Calls Tryf.prog 21 #[.string s] w fun e w' => EscEnd w [(p : Int)] 5 e w' := by
  have H := Lib.hid h
  have h5 := h.size
  have hp := h.le
  have h0 : (((s[0]'(by omega)).toNat : Nat) : Int) = 117 := by
    obtain ⟨rest, hb⟩ := h.bytes
    rw [byte_of hb 0 (by omega) 117 rfl]; rfl
  obtain ⟨b1, hb1⟩ : ∃ b1 : Int, (((s[1]'(by omega)).toNat : Nat) : Int) = b1 := ⟨_, rfl⟩
  have hb1n : b1 ≠ 123 := by
    obtain ⟨rest, hb⟩ := h.bytes
    rw [← hb1, byte_of hb 1 (by omega) (hx (p / 4096)) rfl, hx_nat _ (by omega)]
    split <;> omega
  have hb1f : (b1 == 123) = false := by simpa using hb1n
  have hne := ne_empty (s := s) (by omega)
  clear h hb1n
  go_enter Tryf.func21, Tryf.ntmps21
  go_wp2_with (first
    | (go_at_call 25; refine (single_u _).mono ?_; rintro e w' ⟨rfl, rfl⟩)
    | (go_at_call 27; refine (four_any s p _ H.out hm).mono ?_; rintro e w' ⟨rfl, rfl⟩))
  go_ret3
  exact ⟨_, rfl, own_new w _, (Below.refl _ w).alloc (Nat.le_refl _) _⟩

/-- A text that begins with u{, digits and }. -/
structure UBrace (s : ByteArray) (ds : List Nat) : Prop where
  bytes : ∃ rest, s.data.toList = [117, 123] ++ ds.map hx ++ 125 :: rest
  lt : ∀ d ∈ ds, d < 16
  ne : ds ≠ []
  val : val 0 ds ≤ 1114111
theorem UBrace.size {s : ByteArray} {ds : List Nat} (h : UBrace s ds) : ds.length + 3 ≤ s.size := by
  obtain ⟨rest, hb⟩ := h.bytes
  have := congrArg List.length hb
  rw [Array.length_toList] at this
  have h2 : s.data.size = s.size := rfl
  simp at this; omega
theorem UBrace.digits {s : ByteArray} {ds : List Nat} (h : UBrace s ds) : Digits (s.extract 2 (ds.length + 2)) ds := by
  obtain ⟨rest, hb⟩ := h.bytes
  refine ⟨?_, h.lt, h.ne, h.val⟩
  rw [Lib.extract_data, hb, List.append_assoc]
  have e : ([117, 123] ++ (ds.map hx ++ 125 :: rest) : List UInt8).drop 2 = ds.map hx ++ 125 :: rest := rfl
  rw [e]
  exact List.take_left' (by simp)
theorem UBrace.inner {s : ByteArray} {ds : List Nat} (h : UBrace s ds) (k : Nat) (hk : k < ds.length) (hs : k + 2 < s.size) : ((s[k + 2]'hs).toNat : Int) ≠ 125 := by
  obtain ⟨rest, hb⟩ := h.bytes
  rw [byte_of hb (k + 2) hs (hx ds[k]) (by
    rw [List.append_assoc]
    show (ds.map hx ++ 125 :: rest)[k]? = _
    rw [List.getElem?_append_left (by simpa using hk), List.getElem?_map, List.getElem?_eq_getElem hk]; rfl), hx_nat _ (h.lt _ (List.getElem_mem hk))]
  have := h.lt _ (List.getElem_mem hk)
  split <;> omega
theorem UBrace.close {s : ByteArray} {ds : List Nat} (h : UBrace s ds) (hs : ds.length + 2 < s.size) : ((s[ds.length + 2]'hs).toNat : Int) = 125 := by
  obtain ⟨rest, hb⟩ := h.bytes
  rw [byte_of hb (ds.length + 2) hs 125 (by
    rw [List.append_assoc]
    show (ds.map hx ++ 125 :: rest)[ds.length]? = _
    rw [List.getElem?_append_right (by simp)]; simp)]
  rfl

theorem not_surrogate (p : Nat) (w : World) (h : 57344 ≤ p) : Calls Tryf.prog 23 #[.int .i64 (p : Int)] w fun e w' => e = .returned (.bool false) ∧ w = w' := by
  have h1 : (55296 : Int) ≤ (p : Int) := by omega
  have h2 : ¬ (p : Int) < 57344 := by omega
  go_enter Tryf.func23, Tryf.ntmps23
  go_wp2
  go_ret
  exact ⟨by simp, rfl⟩

set_option maxRecDepth 100000 in
set_option maxHeartbeats 2000000 in
theorem escape_braced (s : ByteArray) (ds : List Nat) (l : List Int) (K : Nat) (w : World) (h : UBrace s ds) (hl : ds.length ≤ 64) (hp : 57344 ≤ val 0 ds) (hu : spec_units.f K (val 0 ds : Int) = some l) (hm : s.size ≤ 140737488355328) :
    Calls Tryf.prog 21 #[.string s] w fun e w' => EscEnd w l (ds.length + 3) e w' := by
  have H := Lib.hid h
  have h5 := h.size
  have hv := h.val
  have h0 : (((s[0]'(by omega)).toNat : Nat) : Int) = 117 := by
    obtain ⟨rest, hb⟩ := h.bytes
    rw [byte_of hb 0 (by omega) 117 rfl]; rfl
  have h1 : (((s[1]'(by omega)).toNat : Nat) : Int) = 123 := by
    obtain ⟨rest, hb⟩ := h.bytes
    rw [byte_of hb 1 (by omega) 123 rfl]; rfl
  have hne := ne_empty (s := s) (by omega)
  have HU := Lib.hid hu
  clear h hu
  obtain ⟨p, hpp⟩ : ∃ p : Nat, val 0 ds = p := ⟨_, rfl⟩
  rw [hpp] at hp hv HU
  have HPP := Lib.hid hpp
  clear hpp
  have hn : ds.length + 3 ≤ s.size := h5
  go_enter Tryf.func21, Tryf.ntmps21
  go_wp2_with (first
    | (go_at_call 25; refine (single_u _).mono ?_; rintro e w' ⟨rfl, rfl⟩))
  go_loop [9] (fun e => ∃ k : Nat, k ≤ ds.length ∧ e = .int .i64 ((k + 2 : Nat) : Int)) (fun e => s.size - (intOf e).toNat)
  case atStart => exact ⟨0, Nat.zero_le _, rfl⟩
  case round =>
    obtain ⟨k, hk, rfl⟩ := hrel
    obtain ⟨m, hm2⟩ : ∃ m : Nat, k + 2 = m := ⟨_, rfl⟩
    by_cases hlt : k < ds.length
    · have hms : m < s.size := by omega
      have hin := H.out.inner k hlt (by omega)
      have hb : ((s[m]'hms).toNat : Int) ≠ 125 := by simpa [hm2] using hin
      obtain ⟨b, hbb⟩ : ∃ b : Int, ((s[m]'hms).toNat : Int) = b := ⟨_, rfl⟩
      rw [hbb] at hb
      have hb1 : (b == 125) = false := by simpa using hb
      have hb2 : (b != 125) = true := by simpa using hb
      rw [hm2]
      have HM2 := Lib.hid hm2
      clear hm2 hin hb
      go_wp2
      go_round
      case rel => exact ⟨k + 1, by omega, by rw [← HM2.out]; go_num⟩
      case measure => simp [intOf]; omega
    · have hms : m < s.size := by omega
      obtain rfl : k = ds.length := by omega
      have hcl := H.out.close (by omega)
      have hb : ((s[m]'hms).toNat : Int) = 125 := by simpa [hm2] using hcl
      have hdg := H.out.digits
      rw [hm2] at hdg ⊢
      have hm0 : 2 ≤ m := by omega
      have HM2 := Lib.hid hm2
      have HDG := Lib.hid hdg
      have hdl : (s.extract 2 m).size ≤ 2147483647 := by rw [hdg.size]; omega
      have HDL := Lib.hid hdl
      clear hm2 hcl hdg hdl
      have hq : ((m : Int) == (s.size : Int)) = false := by simp; omega
      go_wp2_with (first
        | (go_at_call 26; refine (hex_any _ ds _ HDG.out HDL.out).mono ?_; rintro e w' ⟨rfl, rfl⟩; rw [HPP.out])
        | (go_at_call 23; refine (not_surrogate p _ hp).mono ?_; rintro e w' ⟨rfl, rfl⟩)
        | (go_at_call 24; refine (spec_units.calls K _ l _ HU.out).mono ?_; rintro e w' ⟨vu, rfl, hru, hbu⟩; have HRU := Lib.hid hru; have HBU := Lib.hid hbu; clear hru hbu))
      go_ret3
      refine ⟨vu, ?_, own_of_R HRU.out, HBU.out⟩
      have e : (m : Int) + 1 = ((ds.length + 3 : Nat) : Int) := by have := HM2.out; omega
      rw [e]
      rfl
#print axioms escape_four
#print axioms escape_braced
end Go.Proofs.YtnlfmlamkkbjaaaFmt
