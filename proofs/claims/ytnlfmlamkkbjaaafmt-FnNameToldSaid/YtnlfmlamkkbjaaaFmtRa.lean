/-
  hex, four and single where escape calls them: digits in capitals of a number of at most 10FFFF; u and four such digits; the letter u, which is no single escape.
-/
import Derived.Test.YtnlfmlamkkbjaaaFmtProg
import Derived.Test.YtnlfmlamkkbjaaaFmtU
import Derived.WalkKit
import Derived.WalkSpells
import Derived.KernelRfl
import Derived.Lib.Hide
import Derived.LoopN
import Derived.Lib.Strings
namespace Go.Proofs.YtnlfmlamkkbjaaaFmt
open Go.RowKit

theorem val_append (a : Nat) (x y : List Nat) : val a (x ++ y) = val (val a x) y := by simp [val]
theorem val_ge (a : Nat) (ds : List Nat) : a ≤ val a ds := by
  induction ds generalizing a with
  | nil => simp [val]
  | cons d r ih => have := ih (16 * a + d); simp only [val, List.foldl_cons] at this ⊢; omega
theorem val_take_le (ds : List Nat) (k : Nat) : val 0 (ds.take k) ≤ val 0 ds := by
  have h := val_append 0 (ds.take k) (ds.drop k)
  rw [List.take_append_drop] at h
  rw [h]
  exact val_ge _ _
theorem val_take_succ (ds : List Nat) (k : Nat) (h : k < ds.length) : val 0 (ds.take (k + 1)) = 16 * val 0 (ds.take k) + ds[k] := by
  rw [List.take_succ_eq_append_getElem h, val_append]
  simp [val]

/-- A text of digits. -/
structure Digits (s : ByteArray) (ds : List Nat) : Prop where
  bytes : s.data.toList = ds.map hx
  lt : ∀ d ∈ ds, d < 16
  ne : ds ≠ []
  val : val 0 ds ≤ 1114111
theorem Digits.size {s : ByteArray} {ds : List Nat} (h : Digits s ds) : s.size = ds.length := by
  have := congrArg List.length h.bytes
  rw [Array.length_toList, List.length_map] at this
  exact this
theorem Digits.byte {s : ByteArray} {ds : List Nat} (h : Digits s ds) (k : Nat) (hk : k < s.size) (hd : k < ds.length) : ((s[k]'hk).toNat : Int) = if ds[k] < 10 then 48 + (ds[k] : Int) else 55 + (ds[k] : Int) := by
  have e : s[k]'hk = hx ds[k] := by
    have h1 : s.data.toList[k]? = (ds.map hx)[k]? := by rw [h.bytes]
    rw [List.getElem?_map, List.getElem?_eq_getElem hd] at h1
    have h2 : s.data.toList[k]? = some (s[k]'hk) := by
      rw [Array.getElem?_toList]
      exact Array.getElem?_eq_getElem hk
    rw [h2] at h1
    exact Option.some.inj h1
  rw [e, hx_nat _ (h.lt _ (List.getElem_mem hd))]
  split <;> simp

def HexEnd (w : World) (n : Nat) (e : Ending) (w' : World) : Prop := e = .returned (.tuple #[.int .i64 (n : Int), .bool true]) ∧ w = w'

theorem len_toList (s : ByteArray) : s.toList.length = s.size := by
  rw [ByteArray.toList_eq s, Array.length_toList]; rfl
theorem ne_empty {s : ByteArray} (h : 0 < s.size) : s.toList.isEmpty = false := by
  have hl := len_toList s
  cases hq : s.toList with
  | nil => rw [hq] at hl; simp at hl; omega
  | cons a r => rfl

set_option maxRecDepth 100000 in
set_option maxHeartbeats 1000000 in
theorem hex_any (s : ByteArray) (ds : List Nat) (w : World) (h : Digits s ds) (hm : s.size ≤ 2147483647) :
    Calls Tryf.prog 26 #[.string s] w fun e w' => HexEnd w (val 0 ds) e w' := by
  have H := Lib.hid h
  have hsz := h.size
  have hpos : 0 < ds.length := List.length_pos_iff.2 h.ne
  have hne := ne_empty (s := s) (by omega)
  have HSZ := Lib.hid hsz
  clear h hsz
  go_enter Tryf.func26, Tryf.ntmps26
  go_wp2
  go_loop [4, 9] (fun n i => ∃ k : Nat, k ≤ s.size ∧ i = .int .i64 k ∧ n = .int .i64 (val 0 (ds.take k))) (fun _ i => s.size - (intOf i).toNat)
  case atStart => exact ⟨0, Nat.zero_le _, rfl, rfl⟩
  case round =>
    obtain ⟨k, hk, rfl, rfl⟩ := hrel
    by_cases hlt : k < s.size
    · have hkd : k < ds.length := by rw [← HSZ.out]; exact hlt
      have hb := H.out.byte k hlt hkd
      have hd16 := H.out.lt _ (List.getElem_mem hkd)
      have hle := val_take_le ds (k + 1)
      have hv := H.out.val
      have hs := val_take_succ ds k hkd
      obtain ⟨d, hd⟩ : ∃ d : Nat, ds[k] = d := ⟨_, rfl⟩
      rw [hd] at hb hd16 hs
      obtain ⟨x, hx0⟩ : ∃ x : Nat, val 0 (ds.take k) = x := ⟨_, rfl⟩
      rw [hx0] at hs ⊢
      have hle2 : 16 * x + d ≤ 1114111 := by omega
      have HS := Lib.hid hs
      clear hle hv hs hx0 hd
      by_cases h10 : d < 10
      · rw [if_pos h10] at hb
        go_wp2
        go_round
        case rel => exact ⟨k + 1, by omega, by go_num, by rw [HS.out]; go_num⟩
        case measure => simp [intOf]; omega
      · rw [if_neg h10] at hb
        go_wp2
        go_round
        case rel => exact ⟨k + 1, by omega, by go_num, by rw [HS.out]; go_num⟩
        case measure => simp [intOf]; omega
    · obtain rfl : k = s.size := by omega
      have hall : ds.take s.size = ds := List.take_of_length_le (by rw [← HSZ.out]; exact Nat.le_refl _)
      rw [hall]
      clear hall
      go_wp2
      go_ret2
      exact ⟨rfl, rfl⟩

/-- Four digits of a number. -/
def four4 (p : Nat) : List Nat := [p / 4096, p / 256 % 16, p / 16 % 16, p % 16]
theorem four4_val (p : Nat) (h : p ≤ 65535) : val 0 (four4 p) = p := by simp [val, four4]; omega

def FourEnd (w : World) (p : Nat) (e : Ending) (w' : World) : Prop := e = .returned (.tuple #[.int .u16 (p : Int), .int .i64 5, .bool true]) ∧ w = w'
/-- A text that begins with u and four digits of p. -/
structure UFour (s : ByteArray) (p : Nat) : Prop where
  bytes : ∃ rest, s.data.toList = 117 :: ((four4 p).map hx ++ rest)
  le : p ≤ 65535
theorem UFour.size {s : ByteArray} {p : Nat} (h : UFour s p) : 5 ≤ s.size := by
  obtain ⟨rest, hb⟩ := h.bytes
  have := congrArg List.length hb
  rw [Array.length_toList] at this
  have h2 : s.data.size = s.size := rfl
  simp [four4] at this; omega
theorem UFour.digits {s : ByteArray} {p : Nat} (h : UFour s p) : Digits (s.extract 1 5) (four4 p) := by
  obtain ⟨rest, hb⟩ := h.bytes
  have hl := h.le
  refine ⟨?_, ?_, by simp [four4], by rw [four4_val p hl]; omega⟩
  · rw [Lib.extract_data, hb]; simp [four4]
  · intro d hd; simp [four4] at hd; omega
theorem byte_of {s : ByteArray} {l : List UInt8} (h : s.data.toList = l) (k : Nat) (hk : k < s.size) (c : UInt8) (hc : l[k]? = some c) : s[k]'hk = c := by
  have h2 : s.data.toList[k]? = some (s[k]'hk) := by
    rw [Array.getElem?_toList]
    exact Array.getElem?_eq_getElem hk
  rw [h, hc] at h2
  exact (Option.some.inj h2).symm

set_option maxRecDepth 100000 in
set_option maxHeartbeats 1000000 in
theorem four_any (s : ByteArray) (p : Nat) (w : World) (h : UFour s p) (hm : s.size ≤ 140737488355328) :
    Calls Tryf.prog 27 #[.string s] w fun e w' => FourEnd w p e w' := by
  have H := Lib.hid h
  have h5 := h.size
  have hp := h.le
  have h0 : (((s[0]'(by omega)).toNat : Nat) : Int) = 117 := by
    obtain ⟨rest, hb⟩ := h.bytes
    rw [byte_of hb 0 (by omega) 117 rfl]; rfl
  clear h
  have hx4 := four4_val p hp
  have HX := Lib.hid hx4
  clear hx4
  go_enter Tryf.func27, Tryf.ntmps27
  go_wp2_with (go_at_call 26; refine (hex_any _ (four4 p) _ H.out.digits (by simp; omega)).mono ?_; rintro e w' ⟨rfl, rfl⟩; rw [HX.out])
  go_ret3
  exact ⟨rfl, rfl⟩

def SingleEnd (w : World) (e : Ending) (w' : World) : Prop := e = .returned (.tuple #[.int .u16 0, .bool false]) ∧ w = w'
set_option maxRecDepth 100000 in
set_option maxHeartbeats 1000000 in
theorem single_u (w : World) :
    Calls Tryf.prog 25 #[.int .u8 117, .string ⟨#[39, 34, 92, 98, 102, 110, 114, 116, 118]⟩, .string ⟨#[39, 34, 92, 8, 12, 10, 13, 9, 11]⟩] w fun e w' => SingleEnd w e w' := by
  go_enter Tryf.func25, Tryf.ntmps25
  go_wp2
  refine wp_loop_rounds 10 ?_
  rw [rounds_succ]; go_wp2
  rw [rounds_succ]; go_wp2
  rw [rounds_succ]; go_wp2
  rw [rounds_succ]; go_wp2
  rw [rounds_succ]; go_wp2
  rw [rounds_succ]; go_wp2
  rw [rounds_succ]; go_wp2
  rw [rounds_succ]; go_wp2
  rw [rounds_succ]; go_wp2
  rw [rounds_succ]; go_wp2
  go_ret2
  exact ⟨rfl, rfl⟩
end Go.Proofs.YtnlfmlamkkbjaaaFmt
