/-
  The loops of IsLow, SameUnits and IsNameLike: what they answer at what is quoted of a name, at equal units, and at any text; condition: texts shorter than 2^31.
-/
import Derived.Test.YtnlfmlamkkbjaaaFmtPb
import Derived.Test.YtnlfmlamkkbjaaaFmtPFnNamex1
namespace Go.Proofs.YtnlfmlamkkbjaaaFmt
open Go.RowKit Go.Proofs.YtnlfmlamkkbjaaaFmtW.PrintWords PFnName

/-! ### IsLow -/
theorem low_go (s : ByteArray) (hs : s.size ≤ 140737488351232) (hb : ∀ b ∈ s.data.toList, b.toNat < 128) : ∀ (d i : Nat), i + d = s.size → ∃ K, spec_IsLow.l0 K s (s.size : Int) (i : Int) = some true := by
  intro d
  induction d with
  | zero =>
    intro i hi
    refine ⟨1, ?_⟩
    simp only [spec_IsLow.l0]
    rw [if_neg (by omega)]
  | succ d ih =>
    intro i hi
    obtain ⟨K, hK⟩ := ih (i + 1) (by omega)
    refine ⟨K + 1, ?_⟩
    have hlt : i < s.data.toList.length := by rw [← size_list]; omega
    have h1 := hb _ (List.getElem_mem hlt)
    have hbt : bt s (i : Int) ≤ 127 := by
      rw [bt_nat, List.getD_eq_getElem?_getD, List.getElem?_eq_getElem hlt]
      simp only [Option.getD_some]
      omega
    simp only [spec_IsLow.l0]
    have hw : wrap64 ((i : Int) + 1) = ((i + 1 : Nat) : Int) := by rw [w64 (by omega) (by omega)]; rfl
    rw [if_pos (by omega), if_pos (by omega), if_pos (by omega), if_neg (by omega), hw]
    exact hK

theorem hx_low (d : Nat) (h : d < 16) : (hx d).toNat < 128 := by
  rw [hx_nat d h]; split <;> omega
theorem qr_low {p : Nat} (h : NameP p) : ∀ b ∈ qr p, b.toNat < 128 := by
  intro b hb
  rcases h with h | ⟨h, hok⟩
  · rw [qr_word h, List.mem_singleton] at hb
    unfold WordP at h
    rw [hb]
    have := ofNat_nat (n := p) (by omega)
    omega
  · by_cases h2 : p ≤ 65535
    · rw [qr_high h h2] at hb
      simp only [List.mem_cons, List.mem_map] at hb
      rcases hb with rfl | rfl | ⟨d, hd, rfl⟩
      · decide
      · decide
      · refine hx_low d ?_
        simp [four4] at hd
        omega
    · rw [qr_far h2] at hb
      simp only [List.mem_cons, List.mem_append, List.mem_map, List.not_mem_nil, or_false] at hb
      rcases hb with rfl | ((rfl | rfl) | ⟨d, hd, rfl⟩) | rfl
      · decide
      · decide
      · decide
      · exact hx_low d (digs_lt 64 p [] (by simp) d hd)
      · decide
theorem low_any (ps : List Nat) (hn : ∀ p ∈ ps, NameP p) (hm : ps.length ≤ 2147483647) : ∃ K, spec_IsLow.f K (txt ps) = some true := by
  have hl := quoted_len ps (fun p hp => nameP_ok (hn p hp))
  obtain ⟨K, hK⟩ := low_go (txt ps) (by rw [txt_size]; omega) (by
    intro b hb
    rw [txt_bytes, quoted, List.mem_flatMap] at hb
    obtain ⟨p, hp, hb⟩ := hb
    exact qr_low (hn p hp) b hb) (txt ps).size 0 (by omega)
  exact ⟨K, hK⟩

/-! ### SameUnits -/
theorem same_go (l : List Int) (hs : l.length ≤ 140737488351232) : ∀ (d i : Nat), i + d = l.length → ∃ K, spec_SameUnits.l0 K l l (l.length : Int) (i : Int) = some true := by
  intro d
  induction d with
  | zero =>
    intro i hi
    refine ⟨1, ?_⟩
    simp only [spec_SameUnits.l0]
    rw [if_neg (by omega)]
  | succ d ih =>
    intro i hi
    obtain ⟨K, hK⟩ := ih (i + 1) (by omega)
    refine ⟨K + 1, ?_⟩
    simp only [spec_SameUnits.l0]
    have hw : wrap64 ((i : Int) + 1) = ((i + 1 : Nat) : Int) := by rw [w64 (by omega) (by omega)]; rfl
    rw [if_pos (by omega), if_pos (by omega), if_pos (by omega), if_pos (by omega), hw]
    exact hK
theorem same_any (l : List Int) (hs : l.length ≤ 140737488351232) : ∃ K, spec_SameUnits.f K l l = some true := by
  obtain ⟨K, hK⟩ := same_go l hs l.length 0 (by omega)
  refine ⟨K, ?_⟩
  unfold spec_SameUnits.f
  rw [if_pos rfl]
  exact hK

/-! ### IsNameLike -/
theorem isWord_any (c : Int) : ∃ b, spec_isWord.f c = some b ∧ (b = true → WordP c) := by
  unfold spec_isWord.f WordP
  repeat' split
  all_goals exact ⟨_, rfl, fun h => by first | omega | (simp at h; omega)⟩
theorem like_go (s : ByteArray) (hs : s.size ≤ 2147483647) : ∀ (d i : Nat), i + d = s.size → ∃ K r, spec_IsNameLike.l0 K s (s.size : Int) (i : Int) = some r ∧
    (r = true → s.size ≠ 0 ∧ (∀ j : Nat, i ≤ j → j < s.size → bt s (j : Int) < 128 → WordP (bt s (j : Int))) ∧ ∃ K xs, spec_Points.f K s = some (xs, true)) := by
  intro d
  induction d with
  | zero =>
    intro i hi
    by_cases h0 : s.size = 0
    · refine ⟨1, false, ?_, fun h => by cases h⟩
      simp only [spec_IsNameLike.l0]
      rw [if_neg (by omega), if_pos ((nil_iff s).2 h0)]
    · obtain ⟨K, r, b, hK, _⟩ := points_any s hs
      refine ⟨K + 1, b, ?_, fun hb => ⟨h0, fun j h1 h2 => by omega, K, r, by rw [hK, hb]⟩⟩
      simp only [spec_IsNameLike.l0]
      rw [if_neg (by omega), if_neg (fun h => h0 ((nil_iff s).1 h))]
      unfold spec_Valid.f
      rw [hK]
      rfl
  | succ d ih =>
    intro i hi
    obtain ⟨K, r, hK, hr⟩ := ih (i + 1) (by omega)
    have hw : wrap64 ((i : Int) + 1) = ((i + 1 : Nat) : Int) := by rw [w64 (by omega) (by omega)]; rfl
    have step : (bt s (i : Int) < 128 → WordP (bt s (i : Int))) → r = true → s.size ≠ 0 ∧ (∀ j : Nat, i ≤ j → j < s.size → bt s (j : Int) < 128 → WordP (bt s (j : Int))) ∧ ∃ K xs, spec_Points.f K s = some (xs, true) := by
      intro hi hb
      obtain ⟨h1, h2, h3⟩ := hr hb
      refine ⟨h1, fun j a b c => ?_, h3⟩
      by_cases e : i = j
      · subst e; exact hi c
      · exact h2 j (by omega) b c
    by_cases c : bt s (i : Int) < 128
    · obtain ⟨b, hb, hw2⟩ := isWord_any (bt s (i : Int))
      cases b with
      | false =>
        refine ⟨1, false, ?_, fun h => by cases h⟩
        simp only [spec_IsNameLike.l0]
        rw [if_pos (by omega), if_pos (by omega), if_pos (by omega), if_pos c, hb]
        rfl
      | true =>
        refine ⟨K + 1, r, ?_, step (fun _ => hw2 rfl)⟩
        simp only [spec_IsNameLike.l0]
        rw [if_pos (by omega), if_pos (by omega), if_pos (by omega), if_pos c, hb]
        simp only [Option.bind_some, if_true]
        rw [hw]
        exact hK
    · refine ⟨K + 1, r, ?_, step (fun h => absurd h c)⟩
      simp only [spec_IsNameLike.l0]
      rw [if_pos (by omega), if_pos (by omega), if_pos (by omega), if_neg c, hw]
      exact hK

/-- What IsNameLike answers, and what stands in a text that it holds for a name. -/
theorem like_any (s : ByteArray) (hs : s.size ≤ 2147483647) : ∃ K r, spec_IsNameLike.f K s = some r ∧
    (r = true → ∃ ps : List Nat, ps ≠ [] ∧ (∀ p ∈ ps, NameP p) ∧ s.data.toList = flat ps ∧ ∃ K, spec_Points.f K s = some (ints ps, true)) := by
  obtain ⟨K, r, hK, hr⟩ := like_go s hs s.size 0 (by omega)
  refine ⟨K, r, hK, fun hb => ?_⟩
  obtain ⟨h0, hw, K1, xs, hp⟩ := hr hb
  obtain ⟨K2, xs2, b, hp2, hf⟩ := points_any s hs
  have e1 := at_rounds (spec_Points.mono s) (Nat.le_max_left K1 K2) hp
  have e2 := at_rounds (spec_Points.mono s) (Nat.le_max_right K1 K2) hp2
  rw [e1] at e2
  obtain ⟨rfl, rfl⟩ := Prod.mk.inj (Option.some.inj e2)
  obtain ⟨ps, hok, hl, rfl⟩ := hf rfl
  refine ⟨ps, fun h => ?_, fun p hpm => ?_, hl, K1, hp⟩
  · subst h
    exact h0 (by rw [size_list, hl]; rfl)
  · by_cases c : p < 128
    · left
      have hm : UInt8.ofNat p ∈ s.data.toList := by
        rw [hl, flat, List.mem_flatMap]
        exact ⟨p, hpm, by rw [encP_one c]; simp⟩
      obtain ⟨j, hj, he⟩ := List.getElem_of_mem hm
      have hbt : bt s (j : Int) = p := by
        rw [bt_nat, List.getD_eq_getElem?_getD, List.getElem?_eq_getElem hj, he]
        exact ofNat_nat (by omega)
      have := hw j (Nat.zero_le _) (by rw [size_list]; exact hj) (by rw [hbt]; omega)
      rwa [hbt] at this
    · right
      exact ⟨by omega, hok p hpm⟩
end Go.Proofs.YtnlfmlamkkbjaaaFmt
