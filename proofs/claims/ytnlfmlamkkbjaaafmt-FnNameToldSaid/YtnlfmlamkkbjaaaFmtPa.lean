/-
  What the printed Point answers, at every text: nothing, a number that pairs are made of, or the code point that the text begins with.
-/
import Derived.Test.YtnlfmlamkkbjaaaFmtPFnNamex2
import Derived.Test.YtnlfmlamkkbjaaaFmtU
namespace Go.Proofs.YtnlfmlamkkbjaaaFmt
open Go.RowKit Go.Proofs.YtnlfmlamkkbjaaaFmtW.PrintWords PFnName

theorem w64 {n : Int} (h0 : -9223372036854775808 ≤ n) (h1 : n ≤ 9223372036854775807) : wrap64 n = n := by unfold wrap64; omega
theorem size_list (s : ByteArray) : s.size = s.data.toList.length := by rw [Array.length_toList]; rfl
theorem bt_nat (s : ByteArray) (k : Nat) : bt s (k : Int) = ((s.data.toList.getD k 0).toNat : Int) := by
  unfold bt
  by_cases h : k < s.size
  · rw [dif_pos (by simpa using h)]
    have h2 : s.data.toList[k]? = some (s[k]'h) := by
      rw [Array.getElem?_toList]; exact Array.getElem?_eq_getElem h
    rw [List.getD_eq_getElem?_getD, h2]
    rfl
  · rw [dif_neg (by simpa using h), List.getD_eq_getElem?_getD, List.getElem?_eq_none (by rw [← size_list]; omega)]
    rfl
theorem bt_0 (s : ByteArray) : bt s 0 = ((s.data.toList.getD 0 0).toNat : Int) := bt_nat s 0
theorem bt_1 (s : ByteArray) : bt s 1 = ((s.data.toList.getD 1 0).toNat : Int) := bt_nat s 1
theorem bt_2 (s : ByteArray) : bt s 2 = ((s.data.toList.getD 2 0).toNat : Int) := bt_nat s 2
theorem bt_3 (s : ByteArray) : bt s 3 = ((s.data.toList.getD 3 0).toNat : Int) := bt_nat s 3

theorem l0_step (k : Nat) (s : ByteArray) (x2 x3 x5 : Int) (h : x5 < x3) (h5 : 0 ≤ x5) (h4 : x5 ≤ 4) (hx : 0 ≤ x2) (hx2 : x2 ≤ 100000000) :
    spec_Point.l0 (k + 1) s x2 x3 x5 = if (s.size : Int) ≤ x5 then some (-1, 0) else if 128 ≤ bt s x5 ∧ bt s x5 ≤ 191 then spec_Point.l0 k s (x2 * 64 + (bt s x5 - 128)) x3 (x5 + 1) else some (-1, 0) := by
  have hb := bt_range s x5
  simp only [spec_Point.l0, ge_iff_le, gt_iff_lt]
  rw [if_pos h]
  by_cases c : (s.size : Int) ≤ x5
  · rw [if_pos c, if_pos c]
  · rw [if_neg c, if_neg c, if_pos h5, if_pos (by omega)]
    by_cases c1 : bt s x5 < 128
    · rw [if_pos c1, if_neg (by omega)]
    · rw [if_neg c1]
      by_cases c2 : 191 < bt s x5
      · rw [if_pos c2, if_neg (by omega)]
      · rw [if_neg c2, if_pos (by omega)]
        have e1 : (bt s x5 - 128) % 256 = bt s x5 - 128 := by omega
        rw [e1, w64 (n := x2 * 64) (by omega) (by omega), w64 (n := x2 * 64 + (bt s x5 - 128)) (by omega) (by omega), w64 (n := x5 + 1) (by omega) (by omega)]
theorem l0_end (k : Nat) (s : ByteArray) (x2 x3 x5 : Int) (h : ¬ x5 < x3) :
    spec_Point.l0 (k + 1) s x2 x3 x5 = if x3 = 3 then (if x2 < 2048 then some (-1, 0) else some (x2, x3)) else if x3 = 4 then (if x2 < 65536 then some (-1, 0) else if 1114111 < x2 then some (-1, 0) else some (x2, x3)) else some (x2, x3) := by
  simp only [spec_Point.l0, gt_iff_lt]
  rw [if_neg h]
  by_cases c3 : x3 = 3
  · rw [if_pos c3, if_pos c3]
    by_cases c : x2 < 2048
    · rw [if_pos c, if_pos c]
    · rw [if_neg c, if_neg c, if_neg (by omega)]
  · rw [if_neg c3, if_neg c3]

theorem point_eq (s : ByteArray) (hs : 0 < s.size) : spec_Point.f 10 s = if bt s 0 < 128 then some (bt s 0, 1) else if 194 ≤ bt s 0 ∧ bt s 0 < 224 then spec_Point.l0 8 s (bt s 0 - 192) 2 1
    else if 224 ≤ bt s 0 ∧ bt s 0 < 240 then spec_Point.l0 7 s (bt s 0 - 224) 3 1 else if 240 ≤ bt s 0 ∧ bt s 0 < 245 then spec_Point.l0 7 s (bt s 0 - 240) 4 1 else some (-1, 0) := by
  have hb := bt_range s 0
  have hne : ¬ s.toList = ([] : List UInt8) := by
    intro e
    have := congrArg List.length e
    rw [ByteArray.toList_eq s, ← size_list] at this
    simp only [List.length_nil] at this; omega
  generalize hc : bt s 0 = c at *
  have hz : (0 : Int) < (s.size : Int) := by omega
  unfold spec_Point.f
  rw [if_neg hne, if_pos hz, hc, w64 (n := c) (by omega) (by omega)]
  by_cases c1 : c < 128
  · rw [if_pos c1, if_pos c1]
  rw [if_neg c1, if_neg c1]
  by_cases c2 : c ≥ 194
  · rw [if_pos c2]
    simp only [spec_Point.j0, decide_eq_true_eq]
    by_cases c3 : c < 224
    · rw [if_pos c3, if_pos (show 194 ≤ c ∧ c < 224 from ⟨c2, c3⟩)]
      simp only [spec_Point.j2]
      rw [w64 (n := c - 192) (by omega) (by omega)]
    · rw [if_neg c3, if_neg (show ¬ (194 ≤ c ∧ c < 224) by omega), if_pos (show c ≥ 224 by omega)]
      simp only [spec_Point.j1, decide_eq_true_eq]
      by_cases c4 : c < 240
      · rw [if_pos c4, if_pos (show 224 ≤ c ∧ c < 240 by omega)]
        simp only [spec_Point.j2]
        rw [w64 (n := c - 224) (by omega) (by omega)]
      · rw [if_neg c4, if_neg (show ¬ (224 ≤ c ∧ c < 240) by omega), if_pos (show c ≥ 240 by omega)]
        by_cases c5 : c < 245
        · rw [if_pos c5, if_pos (show 240 ≤ c ∧ c < 245 by omega)]
          simp only [spec_Point.j2]
          rw [w64 (n := c - 240) (by omega) (by omega)]
        · rw [if_neg c5, if_neg (show ¬ (240 ≤ c ∧ c < 245) by omega)]
  · rw [if_neg c2, if_neg (show ¬ (194 ≤ c ∧ c < 224) by omega), if_neg (show ¬ (224 ≤ c ∧ c < 240) by omega), if_neg (show ¬ (240 ≤ c ∧ c < 245) by omega)]
    simp only [spec_Point.j0]
    rw [if_neg (show ¬ (false = true) by simp), if_neg (show ¬ c ≥ 224 by omega)]
    simp only [spec_Point.j1]
    rw [if_neg (show ¬ (false = true) by simp), if_neg (show ¬ c ≥ 240 by omega)]

/-- What Point may answer. -/
def PAns (s : ByteArray) (p n : Int) : Prop := p = -1 ∨ (55296 ≤ p ∧ p < 57344) ∨ ∃ (q : Nat) (rest : List UInt8), OkP q ∧ p = q ∧ n = (encP q).length ∧ s.data.toList = encP q ++ rest

theorem byte_eq {b : UInt8} {n : Nat} (h : b.toNat = n) : UInt8.ofNat n = b := by rw [← h]; exact UInt8.ofNat_toNat
theorem encP_two {q : Nat} (c1 : ¬ q < 128) (c2 : q < 2048) : encP q = [UInt8.ofNat (192 + q / 64), UInt8.ofNat (128 + q % 64)] := by unfold encP; rw [if_neg c1, if_pos c2]
theorem encP_three {q : Nat} (c2 : ¬ q < 2048) (c3 : q < 65536) : encP q = [UInt8.ofNat (224 + q / 4096), UInt8.ofNat (128 + q / 64 % 64), UInt8.ofNat (128 + q % 64)] := by
  unfold encP; rw [if_neg (by omega), if_neg c2, if_pos c3]
theorem encP_four {q : Nat} (c3 : ¬ q < 65536) : encP q = [UInt8.ofNat (240 + q / 262144), UInt8.ofNat (128 + q / 4096 % 64), UInt8.ofNat (128 + q / 64 % 64), UInt8.ofNat (128 + q % 64)] := by
  unfold encP; rw [if_neg (by omega), if_neg (by omega), if_neg c3]

theorem point_f (s : ByteArray) (hs : 0 < s.size) : ∃ p n : Int, spec_Point.f 10 s = some (p, n) ∧ PAns s p n := by
  rw [point_eq s hs]
  have h0 := bt_0 s
  have h1 := bt_1 s
  have h2 := bt_2 s
  have h3 := bt_3 s
  have hsz := size_list s
  generalize bt s 0 = c0 at *
  generalize e1 : bt s 1 = c1 at *
  generalize e2 : bt s 2 = c2 at *
  generalize e3 : bt s 3 = c3 at *
  obtain ⟨l, hl⟩ : ∃ l, s.data.toList = l := ⟨_, rfl⟩
  unfold PAns
  rw [hl] at h0 h1 h2 h3 hsz ⊢
  cases l with
  | nil => simp only [List.length_nil] at hsz; omega
  | cons b0 r =>
    have hb0 : c0 = (b0.toNat : Int) := h0
    have hlt := b0.toNat_lt
    by_cases a1 : c0 < 128
    · rw [if_pos a1]
      exact ⟨_, _, rfl, .inr (.inr ⟨b0.toNat, r, by unfold OkP; omega, hb0, by rw [encP_one (by omega)]; rfl, by rw [encP_one (by omega), byte_eq rfl]; rfl⟩)⟩
    rw [if_neg a1]
    by_cases a2 : 194 ≤ c0 ∧ c0 < 224
    · rw [if_pos a2, l0_step 7 s _ 2 1 (by omega) (by omega) (by omega) (by omega) (by omega), e1]
      by_cases z1 : (s.size : Int) ≤ 1
      · rw [if_pos z1]; exact ⟨_, _, rfl, .inl rfl⟩
      rw [if_neg z1]
      by_cases k1 : 128 ≤ c1 ∧ c1 ≤ 191
      · rw [if_pos k1, show (1 : Int) + 1 = 2 from rfl, l0_end 6 s _ 2 2 (by omega), if_neg (by omega), if_neg (by omega)]
        cases r with
        | nil => simp only [List.length_nil, List.length_cons] at hsz; omega
        | cons b1 r =>
          have hb1 : c1 = (b1.toNat : Int) := h1
          refine ⟨_, _, rfl, .inr (.inr ⟨(b0.toNat - 192) * 64 + (b1.toNat - 128), r, by unfold OkP; omega, by omega, ?_, ?_⟩)⟩
          · rw [encP_two (by omega) (by omega)]; rfl
          · rw [encP_two (by omega) (by omega), byte_eq (b := b0) (by omega), byte_eq (b := b1) (by omega)]; rfl
      · rw [if_neg k1]; exact ⟨_, _, rfl, .inl rfl⟩
    rw [if_neg a2]
    by_cases a3 : 224 ≤ c0 ∧ c0 < 240
    · rw [if_pos a3, l0_step 6 s _ 3 1 (by omega) (by omega) (by omega) (by omega) (by omega), e1]
      by_cases z1 : (s.size : Int) ≤ 1
      · rw [if_pos z1]; exact ⟨_, _, rfl, .inl rfl⟩
      rw [if_neg z1]
      by_cases k1 : 128 ≤ c1 ∧ c1 ≤ 191
      · rw [if_pos k1, show (1 : Int) + 1 = 2 from rfl, l0_step 5 s _ 3 2 (by omega) (by omega) (by omega) (by omega) (by omega), e2]
        by_cases z2 : (s.size : Int) ≤ 2
        · rw [if_pos z2]; exact ⟨_, _, rfl, .inl rfl⟩
        rw [if_neg z2]
        by_cases k2 : 128 ≤ c2 ∧ c2 ≤ 191
        · rw [if_pos k2, show (2 : Int) + 1 = 3 from rfl, l0_end 4 s _ 3 3 (by omega), if_pos rfl]
          by_cases o : ((c0 - 224) * 64 + (c1 - 128)) * 64 + (c2 - 128) < 2048
          · rw [if_pos o]; exact ⟨_, _, rfl, .inl rfl⟩
          rw [if_neg o]
          by_cases su : 55296 ≤ ((c0 - 224) * 64 + (c1 - 128)) * 64 + (c2 - 128) ∧ ((c0 - 224) * 64 + (c1 - 128)) * 64 + (c2 - 128) < 57344
          · exact ⟨_, _, rfl, .inr (.inl su)⟩
          cases r with
          | nil => simp only [List.length_nil, List.length_cons] at hsz; omega
          | cons b1 r =>
            cases r with
            | nil => simp only [List.length_nil, List.length_cons] at hsz; omega
            | cons b2 r =>
              have hb1 : c1 = (b1.toNat : Int) := h1
              have hb2 : c2 = (b2.toNat : Int) := h2
              refine ⟨_, _, rfl, .inr (.inr ⟨((b0.toNat - 224) * 64 + (b1.toNat - 128)) * 64 + (b2.toNat - 128), r, by unfold OkP; omega, by omega, ?_, ?_⟩)⟩
              · rw [encP_three (by omega) (by omega)]; rfl
              · rw [encP_three (by omega) (by omega), byte_eq (b := b0) (by omega), byte_eq (b := b1) (by omega), byte_eq (b := b2) (by omega)]; rfl
        · rw [if_neg k2]; exact ⟨_, _, rfl, .inl rfl⟩
      · rw [if_neg k1]; exact ⟨_, _, rfl, .inl rfl⟩
    rw [if_neg a3]
    by_cases a4 : 240 ≤ c0 ∧ c0 < 245
    · rw [if_pos a4, l0_step 6 s _ 4 1 (by omega) (by omega) (by omega) (by omega) (by omega), e1]
      by_cases z1 : (s.size : Int) ≤ 1
      · rw [if_pos z1]; exact ⟨_, _, rfl, .inl rfl⟩
      rw [if_neg z1]
      by_cases k1 : 128 ≤ c1 ∧ c1 ≤ 191
      · rw [if_pos k1, show (1 : Int) + 1 = 2 from rfl, l0_step 5 s _ 4 2 (by omega) (by omega) (by omega) (by omega) (by omega), e2]
        by_cases z2 : (s.size : Int) ≤ 2
        · rw [if_pos z2]; exact ⟨_, _, rfl, .inl rfl⟩
        rw [if_neg z2]
        by_cases k2 : 128 ≤ c2 ∧ c2 ≤ 191
        · rw [if_pos k2, show (2 : Int) + 1 = 3 from rfl, l0_step 4 s _ 4 3 (by omega) (by omega) (by omega) (by omega) (by omega), e3]
          by_cases z3 : (s.size : Int) ≤ 3
          · rw [if_pos z3]; exact ⟨_, _, rfl, .inl rfl⟩
          rw [if_neg z3]
          by_cases k3 : 128 ≤ c3 ∧ c3 ≤ 191
          · rw [if_pos k3, show (3 : Int) + 1 = 4 from rfl, l0_end 3 s _ 4 4 (by omega), if_neg (by omega), if_pos rfl]
            by_cases o : (((c0 - 240) * 64 + (c1 - 128)) * 64 + (c2 - 128)) * 64 + (c3 - 128) < 65536
            · rw [if_pos o]; exact ⟨_, _, rfl, .inl rfl⟩
            rw [if_neg o]
            by_cases o2 : 1114111 < (((c0 - 240) * 64 + (c1 - 128)) * 64 + (c2 - 128)) * 64 + (c3 - 128)
            · rw [if_pos o2]; exact ⟨_, _, rfl, .inl rfl⟩
            rw [if_neg o2]
            cases r with
            | nil => simp only [List.length_nil, List.length_cons] at hsz; omega
            | cons b1 r =>
              cases r with
              | nil => simp only [List.length_nil, List.length_cons] at hsz; omega
              | cons b2 r =>
                cases r with
                | nil => simp only [List.length_nil, List.length_cons] at hsz; omega
                | cons b3 r =>
                  have hb1 : c1 = (b1.toNat : Int) := h1
                  have hb2 : c2 = (b2.toNat : Int) := h2
                  have hb3 : c3 = (b3.toNat : Int) := h3
                  refine ⟨_, _, rfl, .inr (.inr ⟨(((b0.toNat - 240) * 64 + (b1.toNat - 128)) * 64 + (b2.toNat - 128)) * 64 + (b3.toNat - 128), r, by unfold OkP; omega, by omega, ?_, ?_⟩)⟩
                  · rw [encP_four (by omega)]; rfl
                  · rw [encP_four (by omega), byte_eq (b := b0) (by omega), byte_eq (b := b1) (by omega), byte_eq (b := b2) (by omega), byte_eq (b := b3) (by omega)]; rfl
          · rw [if_neg k3]; exact ⟨_, _, rfl, .inl rfl⟩
        · rw [if_neg k2]; exact ⟨_, _, rfl, .inl rfl⟩
      · rw [if_neg k1]; exact ⟨_, _, rfl, .inl rfl⟩
    rw [if_neg a4]; exact ⟨_, _, rfl, .inl rfl⟩

theorem ofNat_nat {n : Nat} (h : n < 256) : ((UInt8.ofNat n).toNat : Int) = n := by simp; omega

theorem point_enc (s : ByteArray) (q : Nat) (rest : List UInt8) (hq : OkP q) (hl : s.data.toList = encP q ++ rest) : spec_Point.f 10 s = some ((q : Int), ((encP q).length : Int)) := by
  have h0 := bt_0 s
  have h1 := bt_1 s
  have h2 := bt_2 s
  have h3 := bt_3 s
  have hsz := size_list s
  rw [hl] at h0 h1 h2 h3 hsz
  unfold OkP at hq
  by_cases c1 : q < 128
  · rw [encP_one c1] at h0 hsz ⊢
    have g0 : bt s 0 = q := h0.trans (ofNat_nat (by omega))
    rw [point_eq s (by rw [hsz]; simp), if_pos (by omega), g0]; rfl
  by_cases c2 : q < 2048
  · rw [encP_two c1 c2] at h0 h1 hsz ⊢
    have g0 : bt s 0 = ((192 + q / 64 : Nat) : Int) := h0.trans (ofNat_nat (by omega))
    have g1 : bt s 1 = ((128 + q % 64 : Nat) : Int) := h1.trans (ofNat_nat (by omega))
    have z : 2 ≤ s.size := by rw [hsz]; simp
    have e : (((192 + q / 64 : Nat) : Int) - 192) * 64 + (((128 + q % 64 : Nat) : Int) - 128) = (q : Int) := by omega
    rw [point_eq s (by omega), g0, if_neg (show ¬ ((192 + q / 64 : Nat) : Int) < 128 by omega), if_pos (show 194 ≤ ((192 + q / 64 : Nat) : Int) ∧ ((192 + q / 64 : Nat) : Int) < 224 by omega),
      l0_step 7 s _ 2 1 (by omega) (by omega) (by omega) (by omega) (by omega), if_neg (show ¬ (s.size : Int) ≤ 1 by omega), g1, if_pos (show 128 ≤ ((128 + q % 64 : Nat) : Int) ∧ ((128 + q % 64 : Nat) : Int) ≤ 191 by omega),
      show (1 : Int) + 1 = 2 from rfl, l0_end 6 s _ 2 2 (by omega), if_neg (show ¬ (2 : Int) = 3 by omega), if_neg (show ¬ (2 : Int) = 4 by omega), e]
    rfl
  by_cases c3 : q < 65536
  · rw [encP_three c2 c3] at h0 h1 h2 hsz ⊢
    have g0 : bt s 0 = ((224 + q / 4096 : Nat) : Int) := h0.trans (ofNat_nat (by omega))
    have g1 : bt s 1 = ((128 + q / 64 % 64 : Nat) : Int) := h1.trans (ofNat_nat (by omega))
    have g2 : bt s 2 = ((128 + q % 64 : Nat) : Int) := h2.trans (ofNat_nat (by omega))
    have z : 3 ≤ s.size := by rw [hsz]; simp
    have e : ((((224 + q / 4096 : Nat) : Int) - 224) * 64 + (((128 + q / 64 % 64 : Nat) : Int) - 128)) * 64 + (((128 + q % 64 : Nat) : Int) - 128) = (q : Int) := by omega
    rw [point_eq s (by omega), g0, if_neg (show ¬ ((224 + q / 4096 : Nat) : Int) < 128 by omega), if_neg (show ¬ (194 ≤ ((224 + q / 4096 : Nat) : Int) ∧ ((224 + q / 4096 : Nat) : Int) < 224) by omega),
      if_pos (show 224 ≤ ((224 + q / 4096 : Nat) : Int) ∧ ((224 + q / 4096 : Nat) : Int) < 240 by omega),
      l0_step 6 s _ 3 1 (by omega) (by omega) (by omega) (by omega) (by omega), if_neg (show ¬ (s.size : Int) ≤ 1 by omega), g1, if_pos (show 128 ≤ ((128 + q / 64 % 64 : Nat) : Int) ∧ ((128 + q / 64 % 64 : Nat) : Int) ≤ 191 by omega),
      show (1 : Int) + 1 = 2 from rfl, l0_step 5 s _ 3 2 (by omega) (by omega) (by omega) (by omega) (by omega), if_neg (show ¬ (s.size : Int) ≤ 2 by omega), g2, if_pos (show 128 ≤ ((128 + q % 64 : Nat) : Int) ∧ ((128 + q % 64 : Nat) : Int) ≤ 191 by omega),
      show (2 : Int) + 1 = 3 from rfl, l0_end 4 s _ 3 3 (by omega), if_pos rfl, e, if_neg (show ¬ (q : Int) < 2048 by omega)]
    rfl
  · rw [encP_four c3] at h0 h1 h2 h3 hsz ⊢
    have g0 : bt s 0 = ((240 + q / 262144 : Nat) : Int) := h0.trans (ofNat_nat (by omega))
    have g1 : bt s 1 = ((128 + q / 4096 % 64 : Nat) : Int) := h1.trans (ofNat_nat (by omega))
    have g2 : bt s 2 = ((128 + q / 64 % 64 : Nat) : Int) := h2.trans (ofNat_nat (by omega))
    have g3 : bt s 3 = ((128 + q % 64 : Nat) : Int) := h3.trans (ofNat_nat (by omega))
    have z : 4 ≤ s.size := by rw [hsz]; simp
    have e : (((((240 + q / 262144 : Nat) : Int) - 240) * 64 + (((128 + q / 4096 % 64 : Nat) : Int) - 128)) * 64 + (((128 + q / 64 % 64 : Nat) : Int) - 128)) * 64 + (((128 + q % 64 : Nat) : Int) - 128) = (q : Int) := by omega
    rw [point_eq s (by omega), g0, if_neg (show ¬ ((240 + q / 262144 : Nat) : Int) < 128 by omega), if_neg (show ¬ (194 ≤ ((240 + q / 262144 : Nat) : Int) ∧ ((240 + q / 262144 : Nat) : Int) < 224) by omega),
      if_neg (show ¬ (224 ≤ ((240 + q / 262144 : Nat) : Int) ∧ ((240 + q / 262144 : Nat) : Int) < 240) by omega), if_pos (show 240 ≤ ((240 + q / 262144 : Nat) : Int) ∧ ((240 + q / 262144 : Nat) : Int) < 245 by omega),
      l0_step 6 s _ 4 1 (by omega) (by omega) (by omega) (by omega) (by omega), if_neg (show ¬ (s.size : Int) ≤ 1 by omega), g1, if_pos (show 128 ≤ ((128 + q / 4096 % 64 : Nat) : Int) ∧ ((128 + q / 4096 % 64 : Nat) : Int) ≤ 191 by omega),
      show (1 : Int) + 1 = 2 from rfl, l0_step 5 s _ 4 2 (by omega) (by omega) (by omega) (by omega) (by omega), if_neg (show ¬ (s.size : Int) ≤ 2 by omega), g2, if_pos (show 128 ≤ ((128 + q / 64 % 64 : Nat) : Int) ∧ ((128 + q / 64 % 64 : Nat) : Int) ≤ 191 by omega),
      show (2 : Int) + 1 = 3 from rfl, l0_step 4 s _ 4 3 (by omega) (by omega) (by omega) (by omega) (by omega), if_neg (show ¬ (s.size : Int) ≤ 3 by omega), g3, if_pos (show 128 ≤ ((128 + q % 64 : Nat) : Int) ∧ ((128 + q % 64 : Nat) : Int) ≤ 191 by omega),
      show (3 : Int) + 1 = 4 from rfl, l0_end 3 s _ 4 4 (by omega), if_neg (show ¬ (4 : Int) = 3 by omega), if_pos rfl, e, if_neg (show ¬ (q : Int) < 65536 by omega), if_neg (show ¬ 1114111 < (q : Int) by omega)]
    rfl
end Go.Proofs.YtnlfmlamkkbjaaaFmt
