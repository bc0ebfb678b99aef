/-
  isWord at every byte, IsASCIIName at every text shorter than 2^31: what they answer.
-/
import Derived.Test.YtnlfmlamkkbjaaaFmtProg
import Derived.WalkKit
import Derived.WalkSpells
import Derived.KernelRfl
import Derived.Lib.Hide
namespace Go.Proofs.YtnlfmlamkkbjaaaFmt
open Go.RowKit

/-- A letter, a digit, _ or $. -/
def WordC (c : Int) : Prop := (97 ≤ c ∧ c ≤ 122) ∨ (65 ≤ c ∧ c ≤ 90) ∨ (48 ≤ c ∧ c ≤ 57) ∨ c = 95 ∨ c = 36
def wordB (c : Int) : Bool := decide ((97 ≤ c ∧ c ≤ 122) ∨ (65 ≤ c ∧ c ≤ 90) ∨ (48 ≤ c ∧ c ≤ 57) ∨ c = 95 ∨ c = 36)
theorem wordB_true {c : Int} (h : WordC c) : wordB c = true := decide_eq_true h
theorem wordB_false {c : Int} (h : ¬ WordC c) : wordB c = false := decide_eq_false h
theorem ret_bool {a b : Bool} (h : a = b) : Ending.returned (.bool a) = .returned (.bool b) := by rw [h]

set_option maxRecDepth 100000 in
set_option maxHeartbeats 400000 in
theorem isWord_any (c : Int) (w : World) (h0 : 0 ≤ c) (h1 : c ≤ 255) :
    Calls Tryf.prog 11 #[.int .u8 c] w fun e w' => e = .returned (.bool (wordB c)) ∧ w = w' := by
  go_enter Tryf.func11, Tryf.ntmps11
  go_wp2
  all_goals (go_ret; refine ⟨ret_bool ?_, rfl⟩; rw [Bool.eq_iff_iff]; simp [wordB]; try omega)

theorem isWord_yes (c : Int) (w : World) (h : WordC c) : Calls Tryf.prog 11 #[.int .u8 c] w fun e w' => e = .returned (.bool true) ∧ w = w' := by
  have hc := h
  unfold WordC at hc
  exact (isWord_any c w (by omega) (by omega)).mono fun e w' ⟨he, hw⟩ => ⟨by rw [he, wordB_true h], hw⟩
theorem isWord_no (c : Int) (w : World) (h0 : 0 ≤ c) (h1 : c ≤ 255) (h : ¬ WordC c) : Calls Tryf.prog 11 #[.int .u8 c] w fun e w' => e = .returned (.bool false) ∧ w = w' :=
  (isWord_any c w h0 h1).mono fun e w' ⟨he, hw⟩ => ⟨by rw [he, wordB_false h], hw⟩

/-- A name of ASCII: not empty, letters, digits, _ and $ alone, no digit in front. -/
def AName (s : ByteArray) : Prop := (∀ i (h : i < s.size), WordC ((s[i]'h).toNat : Int)) ∧ (∀ h : 0 < s.size, ¬ (48 ≤ ((s[0]'h).toNat : Int) ∧ ((s[0]'h).toNat : Int) ≤ 57)) ∧ 0 < s.size
open Classical in
noncomputable def anameB (s : ByteArray) : Bool := decide (AName s)
theorem anameB_true {s : ByteArray} (h : AName s) : anameB s = true := by unfold anameB; simp [h]
theorem anameB_false {s : ByteArray} (h : ¬ AName s) : anameB s = false := by unfold anameB; simp [h]
theorem ret_true {b : Bool} (h : b = true) : Ending.returned (.bool true) = .returned (.bool b) := by rw [h]
theorem ret_false {b : Bool} (h : b = false) : Ending.returned (.bool false) = .returned (.bool b) := by rw [h]
/-- What holds of a text of which k bytes have been looked at. -/
def Upto (s : ByteArray) (k : Nat) : Prop := (∀ i (h : i < s.size), i < k → WordC ((s[i]'h).toNat : Int)) ∧ (∀ h : 0 < s.size, 0 < k → ¬ (48 ≤ ((s[0]'h).toNat : Int) ∧ ((s[0]'h).toNat : Int) ≤ 57))

theorem upto_step {s : ByteArray} {k : Nat} (h : Hid (Upto s k)) (hlt : k < s.size) (hw : WordC ((s[k]'hlt).toNat : Int)) (h0 : k = 0 → ¬ (48 ≤ ((s[k]'hlt).toNat : Int) ∧ ((s[k]'hlt).toNat : Int) ≤ 57)) : Hid (Upto s (k + 1)) := by
  refine ⟨fun i hi hik => ?_, fun hs _ => ?_⟩
  · by_cases e : i = k
    · subst e; exact hw
    · exact h.out.1 i hi (by omega)
  · by_cases e : k = 0
    · subst e; exact h0 rfl
    · exact h.out.2 hs (by omega)
theorem toList_len (s : ByteArray) : s.toList.length = s.size := by
  rw [ByteArray.toList_eq s, Array.length_toList]; rfl
theorem toList_empty (s : ByteArray) (h : s.size = 0) : s.toList.isEmpty = true := by
  have := toList_len s
  rw [List.isEmpty_iff]; exact List.eq_nil_of_length_eq_zero (by omega)
theorem toList_some (s : ByteArray) (h : ¬ s.size = 0) : s.toList.isEmpty = false := by
  have hl := toList_len s
  cases hq : s.toList with
  | nil => rw [hq] at hl; simp at hl; omega
  | cons a r => rfl

set_option maxRecDepth 100000 in
set_option maxHeartbeats 1000000 in
theorem isASCIIName_any (s : ByteArray) (w : World) (hm : s.size ≤ 2147483647) :
    Calls Tryf.prog 10 #[.string s] w fun e w' => e = .returned (.bool (anameB s)) ∧ w = w' := by
  go_enter Tryf.func10, Tryf.ntmps10
  go_wp2
  go_loop [6] (fun i => ∃ k : Nat, k ≤ s.size ∧ i = .int .i64 k ∧ Hid (Upto s k)) (fun i => s.size - (intOf i).toNat)
  case atStart => exact ⟨0, Nat.zero_le _, rfl, ⟨fun i _ h => absurd h (Nat.not_lt_zero _), fun _ h => absurd h (Nat.lt_irrefl _)⟩⟩
  case round =>
    obtain ⟨k, hk, rfl, HU⟩ := hrel
    by_cases hlt : k < s.size
    · obtain ⟨c, hc⟩ : ∃ c : Int, ((s[k]'hlt).toNat : Int) = c := ⟨_, rfl⟩
      have h0 : 0 ≤ c := by omega
      have h1 : c ≤ 255 := by have := (s[k]'hlt).toNat_lt; omega
      by_cases hw : WordC c
      · go_wp2_with (go_at_call 11; refine (isWord_yes c _ hw).mono ?_; rintro e w' ⟨rfl, rfl⟩)
        · have hk0 : k = 0 := by assumption
          subst hk0
          have h2 : 48 ≤ ((s[0]'hlt).toNat : Int) := by assumption
          have h3 : ((s[0]'hlt).toNat : Int) ≤ 57 := by assumption
          go_ret
          exact ⟨ret_false (anameB_false fun h => h.2.1 hlt ⟨h2, h3⟩), rfl⟩
        · have hk0 : k = 0 := by assumption
          subst hk0
          have h3 : 57 < ((s[0]'hlt).toNat : Int) := by assumption
          go_round
          case rel => exact ⟨1, by omega, rfl, upto_step HU hlt (by rw [hc]; exact hw) (fun _ => by omega)⟩
          case measure => simp [intOf]; omega
        · have hk0 : k = 0 := by assumption
          subst hk0
          have h3 : ¬ 48 ≤ ((s[0]'hlt).toNat : Int) := by assumption
          go_round
          case rel => exact ⟨1, by omega, rfl, upto_step HU hlt (by rw [hc]; exact hw) (fun _ => by omega)⟩
          case measure => simp [intOf]; omega
        · have hk0 : ¬ k = 0 := by assumption
          go_round
          case rel => exact ⟨k + 1, by omega, by go_num, upto_step HU hlt (by rw [hc]; exact hw) (fun h => by omega)⟩
          case measure => simp [intOf]; omega
      · go_wp2_with (go_at_call 11; refine (isWord_no c _ h0 h1 hw).mono ?_; rintro e w' ⟨rfl, rfl⟩)
        go_ret
        exact ⟨ret_false (anameB_false fun h => hw (by have := h.1 k hlt; rwa [hc] at this)), rfl⟩
    · obtain rfl : k = s.size := by omega
      by_cases he : s.size = 0
      · have h1 := toList_empty s he
        go_wp2
        go_ret
        exact ⟨ret_false (anameB_false fun h => by have := h.2.2; omega), rfl⟩
      · have h1 := toList_some s he
        go_wp2
        go_ret
        exact ⟨ret_true (anameB_true ⟨fun i hi => HU.out.1 i hi hi, fun h => HU.out.2 h h, by omega⟩), rfl⟩
end Go.Proofs.YtnlfmlamkkbjaaaFmt
