/-
  The law FnName, walked: it answers true at every two texts.
-/
import Derived.Test.YtnlfmlamkkbjaaaFmtPc
import Derived.Test.YtnlfmlamkkbjaaaFmtRe
import Derived.Test.YtnlfmlamkkbjaaaFmtQb
namespace Go.Proofs.YtnlfmlamkkbjaaaFmt
open Go.RowKit Go.Kit Go.Extern.Stop Go.Stop Go.Extern Go.Proofs.YtnlfmlamkkbjaaaFmtW.PrintWords PFnName

def Yes (w : World) (e : Ending) (w' : World) : Prop := e = .returned (.bool true) ∧ Below w.heap.size w w'

theorem nameOf {s : ByteArray} {ps : List Nat} (hl : s.data.toList = flat ps) (hn : ∀ p ∈ ps, NameP p) (hs : s.size ≤ 2147483647) : Name s ps :=
  ⟨hl, fun p hp => nameP_ok (hn p hp), hs, fun p hp => by have := hn p hp; unfold NameP WordP at this; omega⟩

theorem qtext_bytes (f : ByteArray) (ps : List Nat) : (qtext f ps).data.toList = f.data.toList ++ quoted ps := by simp [qtext]
theorem qtext_size (f : ByteArray) (ps : List Nat) : (qtext f ps).size = f.size + (quoted ps).length := by
  rw [size_list, qtext_bytes, List.length_append, ← size_list]
theorem qtext_not (f : ByteArray) (ps : List Nat) : decide ((qtext f ps).size < f.size) = false := decide_eq_false (by rw [qtext_size]; omega)
theorem qtext_front (f : ByteArray) (ps : List Nat) : (qtext f ps).extract 0 f.size = f := by
  apply ByteArray.ext
  apply Array.ext'
  rw [Lib.extract_data, qtext_bytes, List.drop_zero, Nat.sub_zero, size_list, List.take_left]
theorem qtext_back (f : ByteArray) (ps : List Nat) : (qtext f ps).extract f.size (qtext f ps).size = txt ps := by
  apply ByteArray.ext
  apply Array.ext'
  rw [data_extract, qtext_bytes, txt_bytes, size_list, List.drop_left]

theorem read_call (w : World) (ps : List Nat) (hne : ps ≠ []) (hn : ∀ p ∈ ps, NameP p) (hm : ps.length ≤ 2147483647) :
    Calls Tryf.prog 7 #[.string (txt ps)] w fun e w' => REnd w ps e w' := by
  obtain ⟨K, hK⟩ := low_any ps hn hm
  refine readName_any w ps K hn (fun p hp => unit_any p (nameP_ok (hn p hp))) hm ?_ hK
  cases ps with
  | nil => exact absurd rfl hne
  | cons p r =>
    have hp := nameP_ok (hn p (List.mem_cons_self ..))
    have := qr_len p (by unfold OkP at hp; omega)
    rw [txt_size, quoted_cons, List.length_append]; omega

def UEnd (w : World) (ps : List Nat) (e : Ending) (W : World) : Prop := ∃ v, e = .returned v ∧ Own16 W w.heap.size v (units16 ps) ∧ Below w.heap.size w W
theorem units_call (w : World) (s : ByteArray) (ps : List Nat) (K : Nat) (hs : s.size ≤ 2147483647) (hn : ∀ p ∈ ps, NameP p) (hl : s.data.toList = flat ps) (hp : spec_Points.f K s = some (ints ps, true)) :
    Calls Tryf.prog 9 #[.string s] w fun e w' => UEnd w ps e w' := by
  obtain ⟨K2, hK⟩ := units_any s ps hs (fun p hp => nameP_ok (hn p hp)) hl hp
  refine (spec_Units.calls K2 s _ w hK).mono ?_
  rintro e w' ⟨v, rfl, hr, hb⟩
  exact ⟨v, rfl, own_of_R hr, hb⟩

theorem R_of_own {W : World} {base : Nat} {v : Value} {xs : List Int} (h : Own16 W base v xs) : Kd.R (Kd.int .u16) 39 W base (fun _ => True) v xs := by
  refine ⟨?_, xs.map (Value.int .u16), h, ?_, ?_⟩
  · intros; trivial
  · simp [Kd.int, Kd.scalar]
  · intro j x hx
    show ((xs.map (Value.int .u16)).drop (j * 1)).take 1 = [Value.int .u16 x]
    obtain ⟨hj, rfl⟩ := List.getElem?_eq_some_iff.1 hx
    rw [Nat.mul_one, List.drop_eq_getElem_cons (by simpa using hj)]
    simp
theorem same_call (W : World) (v1 v2 : Value) (l : List Int) (B1 B2 : Nat) (h1 : Own16 W B1 v1 l) (h2 : Own16 W B2 v2 l) (hl : l.length ≤ 140737488351232) :
    Calls Tryf.prog 8 #[v1, v2] W fun e w' => e = .returned (.bool true) ∧ Drawn0 W w' := by
  obtain ⟨K, hK⟩ := same_any l hl
  obtain ⟨A1, c1, rfl, hc1, hC1⟩ := Kd.R_reads (R_of_own h1)
  obtain ⟨A2, c2, rfl, hc2, hC2⟩ := Kd.R_reads (R_of_own h2)
  exact spec_SameUnits.calls K A1 c1 l A2 c2 l true W hC1 hc1 hC2 hc2 hK

theorem name_a : Name "a".toUTF8 [97] :=
  ⟨by decide +kernel, by intro p hp; simp at hp; subst hp; left; omega, by decide +kernel, by simp⟩
theorem qtext_a : qtext "".toUTF8 [97] = "a".toUTF8 := by decide +kernel
theorem quoteA (F : Interp) (w : World) (hF : F.answers w.tape) (hT : Told F) :
    Calls Tryf.prog 6 #[.string "".toUTF8, .string "a".toUTF8] w fun e w' => e = .returned (.string "a".toUTF8) ∧ Below w.heap.size w w' := by
  refine (quoteName_any F _ _ [97] w hF hT name_a (by decide +kernel)).mono ?_
  rintro e w' ⟨rfl, hb⟩
  exact ⟨by rw [qtext_a], hb⟩

set_option maxRecDepth 100000 in
set_option maxHeartbeats 1000000 in
theorem name_any_law (F : Interp) (f s : ByteArray) (w : World) (hF : F.answers w.tape) (hT : Told F) (hf : f.size ≤ 140737488351232) (hs : s.size ≤ 140737488351232) :
    Calls Tryf.prog 3 #[.string f, .string s] w fun e w' => Yes w e w' := by
  by_cases h1 : f.size ≤ 2147483647
  · by_cases h2 : s.size ≤ 2147483647
    · obtain ⟨K, r, hK, hr⟩ := like_any s h2
      have HK := Lib.hid hK
      have HF := Lib.hid hF
      have HT := Lib.hid hT
      clear hK hF hT
      cases r with
      | false =>
        clear hr
        go_enter Tryf.func3, Tryf.ntmps3
        go_wp2_with (go_at_call 5; refine (spec_IsNameLike.calls K s false _ HK.out).mono ?_; rintro e w1 ⟨rfl, hb⟩; have HB := Lib.hid hb; clear hb)
        go_ret
        exact ⟨rfl, HB.out⟩
      | true =>
        obtain ⟨ps, hne, hnm, hl, K2, hp⟩ := hr rfl
        clear hr
        have hm : ps.length ≤ 2147483647 := by
          have := flat_len ps
          rw [← hl, ← size_list] at this; omega
        have hul : (units16 ps).length ≤ 140737488351232 := by
          have := units16_len ps
          omega
        have HNm := Lib.hid (nameOf hl hnm h2)
        go_enter Tryf.func3, Tryf.ntmps3
        go_wp2_with (first | (go_at_call 5; refine (spec_IsNameLike.calls K s true _ HK.out).mono ?_; rintro e w1 ⟨rfl, hb⟩; have HB := Lib.hid hb; clear hb))
        have HTape : F.answers w1.tape := by rw [HB.out.tape]; exact HF.out
        refine (quoteName_any F f s ps w1 HTape HT.out HNm.out h1).mono ?_
        rintro e w2 ⟨rfl, hb⟩
        have HB2 := Lib.hid (HB.out.trans (hb.mono HB.out.size))
        clear hb
        have hq0 := qtext_not f ps
        have hq1 := qtext_front f ps
        have hq2 := qtext_back f ps
        obtain ⟨t, ht⟩ : ∃ t, qtext f ps = t := ⟨_, rfl⟩
        rw [ht] at hq0 hq1 hq2 ⊢
        have hqb : (f.toList == f.toList) = true := by simp
        have hq3 : f.size ≤ t.size := by rw [← ht, qtext_size]; omega
        go_wp2_with (first
          | (go_at_call 7; refine (read_call w2 ps hne hnm hm).mono ?_; rintro e w3 ⟨v, rfl, ho, hb⟩; have HO := Lib.hid ho; have HB3 := Lib.hid (HB2.out.trans (hb.mono HB2.out.size)); clear ho hb)
          | (go_at_call 9; refine (units_call w3 s ps K2 h2 hnm hl hp).mono ?_; rintro e w4 ⟨v2, rfl, ho, hb⟩; have HO2 := Lib.hid (And.intro (Own16.below HO.out hb) ho); have HB4 := Lib.hid (HB3.out.trans (hb.mono HB3.out.size)); clear ho hb)
          | (go_at_call 8; refine (same_call w4 v v2 (units16 ps) _ _ HO2.out.1 HO2.out.2 hul).mono ?_; rintro e w5 ⟨rfl, ⟨n, rfl⟩⟩; have HB5 := Lib.hid (HB4.out.trans ((Drawn0.below (⟨n, rfl⟩ : Drawn0 w4 (w4.drewN n))).mono HB4.out.size)); have HTape5 : F.answers (w4.drewN n).tape := (by rw [HB5.out.tape]; exact HF.out))
          | (go_at_call 6; refine (quoteA F _ HTape5 HT.out).mono ?_; rintro e w6 ⟨rfl, hb⟩; have HB6 := Lib.hid (HB5.out.trans (hb.mono HB5.out.size)); clear hb))
        go_ret
        exact ⟨bool_true (by decide +kernel), HB6.out⟩
    · go_enter Tryf.func3, Tryf.ntmps3
      go_wp2
      go_ret
      exact ⟨rfl, Below.refl _ _⟩
  · go_enter Tryf.func3, Tryf.ntmps3
    go_wp2
    go_ret
    exact ⟨rfl, Below.refl _ _⟩
#print axioms name_any_law
end Go.Proofs.YtnlfmlamkkbjaaaFmt
