/-
  What the printed functions of the reference answer at names and at what is quoted of them: Points, Units, units, SameUnits, IsLow, IsNameLike; condition: texts shorter than 2^31.
-/
import Derived.Test.YtnlfmlamkkbjaaaFmtPa
import Derived.Test.YtnlfmlamkkbjaaaFmtPFnNamex3
import Derived.Test.YtnlfmlamkkbjaaaFmtPFnNamex4
import Derived.Test.YtnlfmlamkkbjaaaFmtPFnNamex7
import Derived.Test.YtnlfmlamkkbjaaaFmtRd
namespace Go.Proofs.YtnlfmlamkkbjaaaFmt
open Go.RowKit Go.Proofs.YtnlfmlamkkbjaaaFmtW.PrintWords PFnName

def ints (ps : List Nat) : List Int := ps.map (fun p : Nat => (p : Int))

theorem nil_iff (s : ByteArray) : s.toList = ([] : List UInt8) ↔ s.size = 0 := by
  rw [ByteArray.toList_eq s, size_list]
  exact ⟨fun h => by rw [h]; rfl, fun h => List.eq_nil_of_length_eq_zero h⟩
theorem data_extract (s : ByteArray) (n : Nat) : (s.extract n s.size).data.toList = s.data.toList.drop n := by
  rw [Lib.extract_data]
  exact List.take_of_length_le (by rw [List.length_drop, ← size_list]; exact Nat.le_refl _)

/-- A round of Points that reads a code point. -/
theorem points_round (k : Nat) (s : ByteArray) (acc : List Int) (q : Nat) (hs : s.size ≠ 0) (hq : OkP q) (hp : spec_Point.f k s = some ((q : Int), ((encP q).length : Int))) (hn : (encP q).length ≤ s.size) (ha : acc.length < 17592186044416) :
    spec_Points.l0 (k + 1) s acc = spec_Points.l0 k (s.extract (encP q).length s.size) (acc ++ [(q : Int)]) := by
  simp only [spec_Points.l0]
  rw [if_neg (fun h => hs ((nil_iff s).1 h)), hp]
  simp only [Option.bind_some]
  unfold OkP at hq
  rw [if_neg (show ¬ (q : Int) = -1 by omega)]
  have hsur : spec_isSurrogate.f (q : Int) = some false := by
    unfold spec_isSurrogate.f
    by_cases h : (q : Int) ≥ 55296
    · rw [if_pos h, decide_eq_false (by omega)]
    · rw [if_neg h]
  rw [hsur]
  simp only [Option.bind_some]
  rw [if_neg (show ¬ (false = true) by simp), if_pos ha, if_pos (by omega), if_pos (by omega)]
  rfl

theorem points_go : ∀ (n : Nat) (s : ByteArray) (acc : List Int), s.size ≤ n → acc.length + n < 17592186044416 → ∃ (K : Nat) (r : List Int) (b : Bool), spec_Points.l0 K s acc = some (r, b) ∧
    (b = true → ∃ ps : List Nat, (∀ p ∈ ps, OkP p) ∧ s.data.toList = flat ps ∧ r = acc ++ ints ps) := by
  intro n
  induction n with
  | zero =>
    intro s acc hs _
    refine ⟨1, acc, true, ?_, fun _ => ⟨[], by simp, ?_, by simp [ints]⟩⟩
    · simp only [spec_Points.l0]
      rw [if_pos ((nil_iff s).2 (by omega))]
    · exact List.eq_nil_of_length_eq_zero (by rw [← size_list]; omega)
  | succ n ih =>
    intro s acc hs ha
    by_cases h0 : s.size = 0
    · refine ⟨1, acc, true, ?_, fun _ => ⟨[], by simp, ?_, by simp [ints]⟩⟩
      · simp only [spec_Points.l0]
        rw [if_pos ((nil_iff s).2 h0)]
      · exact List.eq_nil_of_length_eq_zero (by rw [← size_list]; omega)
    · obtain ⟨p, m, hp, hans⟩ := point_f s (by omega)
      rcases hans with rfl | hsur | ⟨q, rest, hq, rfl, rfl, hl⟩
      · refine ⟨11, [], false, ?_, fun h => by cases h⟩
        simp only [spec_Points.l0]
        rw [if_neg (fun h => h0 ((nil_iff s).1 h)), hp]
        rfl
      · refine ⟨11, [], false, ?_, fun h => by cases h⟩
        simp only [spec_Points.l0]
        rw [if_neg (fun h => h0 ((nil_iff s).1 h)), hp]
        simp only [Option.bind_some]
        rw [if_neg (show ¬ p = -1 by omega)]
        have hs2 : spec_isSurrogate.f p = some true := by
          unfold spec_isSurrogate.f
          rw [if_pos hsur.1, decide_eq_true hsur.2]
        rw [hs2]
        rfl
      · have hlen := encP_len q
        have hsz : s.size = (encP q).length + rest.length := by rw [size_list, hl, List.length_append]
        have hd : (s.extract (encP q).length s.size).data.toList = rest := by rw [data_extract, hl, List.drop_left]
        have hsz2 : (s.extract (encP q).length s.size).size = rest.length := by rw [size_list, hd]
        obtain ⟨K, r, b, hK, hb⟩ := ih (s.extract (encP q).length s.size) (acc ++ [(q : Int)]) (by omega) (by rw [List.length_append, List.length_singleton]; omega)
        refine ⟨max K 10 + 1, r, b, ?_, fun hbt => ?_⟩
        · rw [points_round (max K 10) s acc q h0 hq (at_rounds (spec_Point.mono s) (Nat.le_max_right _ _) hp) (by omega) (by omega)]
          exact at_rounds (fun k => spec_Points.mono_l k _ _) (Nat.le_max_left _ _) hK
        · obtain ⟨ps, h1, h2, h3⟩ := hb hbt
          refine ⟨q :: ps, fun x hx => ?_, by rw [hl, flat_cons, ← h2, hd], by rw [h3]; simp [ints]⟩
          rcases List.mem_cons.1 hx with rfl | hx
          · exact hq
          · exact h1 x hx

theorem points_any (s : ByteArray) (hs : s.size ≤ 2147483647) : ∃ (K : Nat) (r : List Int) (b : Bool), spec_Points.f K s = some (r, b) ∧ (b = true → ∃ ps : List Nat, (∀ p ∈ ps, OkP p) ∧ s.data.toList = flat ps ∧ r = ints ps) := by
  obtain ⟨K, r, b, h, hb⟩ := points_go s.size s [] (Nat.le_refl _) (by simp; omega)
  exact ⟨K, r, b, h, by simpa using hb⟩
/-- A text that is one code point. -/
theorem points_one (s : ByteArray) (q : Nat) (hq : OkP q) (hl : s.data.toList = encP q) : spec_Points.f 12 s = some ([(q : Int)], true) := by
  have hlen := encP_len q
  have hsz : s.size = (encP q).length := by rw [size_list, hl]
  have hp := point_enc s q [] hq (by rw [hl, List.append_nil])
  unfold spec_Points.f
  rw [points_round 11 s [] q (by omega) hq (at_rounds (spec_Point.mono s) (by omega) hp) (by omega) (by simp)]
  simp only [spec_Points.l0]
  rw [if_pos ((nil_iff _).2 (by rw [size_list, data_extract, hl]; simp))]
  rfl

/-! ### Units -/
theorem wrap16 {n : Int} (h0 : 0 ≤ n) (h1 : n ≤ 65535) : IntKind.u16.wrap n = n := by
  simp [IntKind.wrap, IntKind.signed, IntKind.bits]; omega
theorem units_l0 (xs : List Nat) (hx : ∀ p ∈ xs, OkP p) : ∀ (d i : Nat) (acc : List Int), i + d = xs.length → acc.length + 2 * d < 70368744177664 → xs.length ≤ 2147483647 →
    ∃ K, spec_Units.l0 K acc (ints xs) ((ints xs).length : Int) (i : Int) = some (acc ++ units16 (xs.drop i)) := by
  intro d
  induction d with
  | zero =>
    intro i acc hi _ _
    refine ⟨1, ?_⟩
    simp only [spec_Units.l0]
    rw [if_neg (by simp [ints]; omega), List.drop_of_length_le (by omega)]
    simp [units16]
  | succ d ih =>
    intro i acc hi ha hl
    have hlt : i < xs.length := by omega
    have hq := hx _ (List.getElem_mem hlt)
    have hrd : rd (ints xs) (i : Int) = (xs[i] : Int) := by
      unfold rd ints
      rw [List.getD_eq_getElem?_getD, List.getElem?_map]
      simp [hlt]
    have hdrop : xs.drop i = xs[i] :: xs.drop (i + 1) := List.drop_eq_getElem_cons hlt
    have hu : units16 (xs.drop i) = u16P xs[i] ++ units16 (xs.drop (i + 1)) := by rw [hdrop, units16, List.flatMap_cons]; rfl
    generalize xs[i] = q at hq hrd hu
    have hul := u16P_len q
    obtain ⟨K, hK⟩ := ih (i + 1) (acc ++ u16P q) (by omega) (by rw [List.length_append]; omega) hl
    refine ⟨K + 1, ?_⟩
    simp only [spec_Units.l0]
    unfold OkP at hq
    rw [if_pos (by simp [ints]; omega), if_pos (by omega), if_pos (by simp [ints]; omega), hrd]
    have hw : wrap64 ((i : Int) + 1) = ((i + 1 : Nat) : Int) := by rw [w64 (by omega) (by omega)]; rfl
    rw [hw, hu, ← List.append_assoc]
    by_cases c : q < 65536
    · have e : u16P q = [(q : Int)] := by unfold u16P; rw [if_pos c]
      rw [e] at hK ⊢
      rw [if_pos (show (q : Int) < 65536 by omega), if_pos (by omega), wrap16 (by omega) (by omega)]
      exact hK
    · have e : u16P q = [((55296 + (q - 65536) / 1024 : Nat) : Int), ((56320 + (q - 65536) % 1024 : Nat) : Int)] := by unfold u16P; rw [if_neg c]
      rw [e] at hK ⊢
      have a0 : wrap64 ((q : Int) - 65536) = ((q - 65536 : Nat) : Int) := by rw [w64 (by omega) (by omega)]; omega
      have a1 : Int.tdiv ((q - 65536 : Nat) : Int) 1024 = (((q - 65536) / 1024 : Nat) : Int) := by rw [Int.tdiv_eq_ediv_of_nonneg (by omega)]; omega
      have a2 : Int.tmod ((q - 65536 : Nat) : Int) 1024 = (((q - 65536) % 1024 : Nat) : Int) := by rw [Int.tmod_eq_emod_of_nonneg (by omega)]; omega
      have e1 : IntKind.u16.wrap (wrap64 (55296 + wrap64 (Int.tdiv (wrap64 ((q : Int) - 65536)) 1024))) = ((55296 + (q - 65536) / 1024 : Nat) : Int) := by
        rw [a0, a1, w64 (n := (((q - 65536) / 1024 : Nat) : Int)) (by omega) (by omega), w64 (by omega) (by omega), wrap16 (by omega) (by omega)]; omega
      have e2 : IntKind.u16.wrap (wrap64 (56320 + Int.tmod (wrap64 ((q : Int) - 65536)) 1024)) = ((56320 + (q - 65536) % 1024 : Nat) : Int) := by
        rw [a0, a2, w64 (by omega) (by omega), wrap16 (by omega) (by omega)]; omega
      rw [if_neg (show ¬ (q : Int) < 65536 by omega), e1, e2]
      simp only [Option.bind_some]
      rw [if_pos (by simp; omega)]
      exact hK

theorem units_any (s : ByteArray) (xs : List Nat) (hs : s.size ≤ 2147483647) (hx : ∀ p ∈ xs, OkP p) (hl : s.data.toList = flat xs) {K : Nat} (hp : spec_Points.f K s = some (ints xs, true)) :
    ∃ K, spec_Units.f K s = some (units16 xs) := by
  have hlen : xs.length ≤ 2147483647 := by
    have := flat_len xs
    rw [← hl, ← size_list] at this; omega
  obtain ⟨K2, h2⟩ := units_l0 xs hx xs.length 0 [] (by omega) (by simp; omega) hlen
  refine ⟨max K K2, ?_⟩
  unfold spec_Units.f
  rw [at_rounds (spec_Points.mono s) (Nat.le_max_left _ _) hp]
  simp only [Option.bind_some]
  have := at_rounds (fun k => spec_Units.mono_l k _ _ _ _) (Nat.le_max_right K K2) h2
  simpa using this

/-- A code point's bytes, as put writes them. -/
theorem put_any (q : Nat) (hq : OkP q) : ∃ l : List Int, spec_put.f [] (q : Int) = some l ∧ (strOfNums l).data.toList = encP q := by
  unfold OkP at hq
  unfold spec_put.f
  by_cases c1 : q < 128
  · rw [if_pos (show (q : Int) < 128 by omega), if_pos (by simp)]
    refine ⟨_, rfl, ?_⟩
    rw [strOfNums_data, encP_one c1]
    have e : (q : Int) % 256 = q := by omega
    simp [e]
  rw [if_neg (show ¬ (q : Int) < 128 by omega)]
  have t64 : Int.tdiv (q : Int) 64 = ((q / 64 : Nat) : Int) := by rw [Int.tdiv_eq_ediv_of_nonneg (by omega)]; omega
  have m64 : Int.tmod (q : Int) 64 = ((q % 64 : Nat) : Int) := by rw [Int.tmod_eq_emod_of_nonneg (by omega)]; omega
  have t4096 : Int.tdiv (q : Int) 4096 = ((q / 4096 : Nat) : Int) := by rw [Int.tdiv_eq_ediv_of_nonneg (by omega)]; omega
  have t262144 : Int.tdiv (q : Int) 262144 = ((q / 262144 : Nat) : Int) := by rw [Int.tdiv_eq_ediv_of_nonneg (by omega)]; omega
  have m2 : Int.tmod ((q / 64 : Nat) : Int) 64 = ((q / 64 % 64 : Nat) : Int) := by rw [Int.tmod_eq_emod_of_nonneg (by omega)]; omega
  have m3 : Int.tmod ((q / 4096 : Nat) : Int) 64 = ((q / 4096 % 64 : Nat) : Int) := by rw [Int.tmod_eq_emod_of_nonneg (by omega)]; omega
  have wn : ∀ n : Nat, n ≤ 2147483647 → wrap64 (n : Int) = n := fun n hn => w64 (by omega) (by omega)
  have wl : ∀ (a n : Nat), a + n < 256 → (wrap64 ((a : Int) + (n : Int))) % 256 = ((a + n : Nat) : Int) := fun a n hn => by rw [w64 (by omega) (by omega)]; omega
  by_cases c2 : q < 2048
  · rw [if_pos (show (q : Int) < 2048 by omega), t64, m64, wn _ (by omega)]
    have x0 := wl 192 (q / 64) (by omega)
    have x1 := wl 128 (q % 64) (by omega)
    simp only [Int.cast_ofNat_Int] at x0 x1
    rw [x0, x1]
    simp only [Option.bind_some]
    rw [if_pos (by simp)]
    refine ⟨_, rfl, ?_⟩
    rw [strOfNums_data, encP_two c1 c2]
    rfl
  rw [if_neg (show ¬ (q : Int) < 2048 by omega)]
  by_cases c3 : q < 65536
  · rw [if_pos (show (q : Int) < 65536 by omega), t4096, t64, m64, wn _ (by omega), wn _ (by omega), m2]
    have x0 := wl 224 (q / 4096) (by omega)
    have x1 := wl 128 (q / 64 % 64) (by omega)
    have x2 := wl 128 (q % 64) (by omega)
    simp only [Int.cast_ofNat_Int] at x0 x1 x2
    rw [x0, x1, x2]
    simp only [Option.bind_some]
    rw [if_pos (by simp)]
    refine ⟨_, rfl, ?_⟩
    rw [strOfNums_data, encP_three c2 c3]
    rfl
  · rw [if_neg (show ¬ (q : Int) < 65536 by omega), t262144, t4096, t64, m64, wn (q / 262144) (by omega), wn (q / 4096) (by omega), wn (q / 64) (by omega), m3, m2]
    have x0 := wl 240 (q / 262144) (by omega)
    have x1 := wl 128 (q / 4096 % 64) (by omega)
    have x2 := wl 128 (q / 64 % 64) (by omega)
    have x3 := wl 128 (q % 64) (by omega)
    simp only [Int.cast_ofNat_Int] at x0 x1 x2 x3
    rw [x0, x1, x2, x3]
    simp only [Option.bind_some]
    rw [if_pos (by simp)]
    refine ⟨_, rfl, ?_⟩
    rw [strOfNums_data, encP_four c3]
    rfl
theorem unit_any (q : Nat) (hq : OkP q) : ∃ K, spec_units.f K (q : Int) = some (u16P q) := by
  obtain ⟨l, hl, hb⟩ := put_any q hq
  have hlen := encP_len q
  obtain ⟨K, hK⟩ := units_any (strOfNums l) [q] (by rw [size_list, hb]; omega) (by simpa using hq) (by rw [hb]; simp [flat]) (points_one (strOfNums l) q hq hb)
  refine ⟨K, ?_⟩
  unfold spec_units.f
  rw [hl]
  simp only [Option.bind_some]
  rw [hK]
  simp [units16]
end Go.Proofs.YtnlfmlamkkbjaaaFmt
