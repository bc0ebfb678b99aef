/-
  The reader's loop over what QuoteIdentifier writes of a name: the units that it gathers; condition: at most 2^35 bytes.
-/
import Derived.Test.YtnlfmlamkkbjaaaFmtRc
import Derived.Deep.RegionLaw
import Derived.IntWalk
namespace Go.Proofs.YtnlfmlamkkbjaaaFmt
open Go.RowKit Go.Proofs.YtnlfmlamkkbjaaaFmtW.PrintWords PFnName

/-- The units of a code point. -/
def u16P (p : Nat) : List Int := if p < 65536 then [(p : Int)] else [((55296 + (p - 65536) / 1024 : Nat) : Int), ((56320 + (p - 65536) % 1024 : Nat) : Int)]
def units16 (ps : List Nat) : List Int := ps.flatMap u16P
theorem units16_snoc (a : List Nat) (p : Nat) : units16 (a ++ [p]) = units16 a ++ u16P p := by simp [units16]
theorem u16P_len (p : Nat) : 1 ≤ (u16P p).length ∧ (u16P p).length ≤ 2 := by unfold u16P; split <;> simp
theorem u16P_ne (p : Nat) : u16P p ≠ [] := by unfold u16P; split <;> simp
theorem units16_len (ps : List Nat) : (units16 ps).length ≤ 2 * ps.length := by
  induction ps with
  | nil => simp [units16]
  | cons p r ih =>
    have h1 := u16P_len p
    have e : units16 (p :: r) = u16P p ++ units16 r := by simp [units16]
    rw [e, List.length_append, List.length_cons]; omega

/-- What stands in a name: a letter, a digit, _, $, or a code point beyond ASCII. -/
def NameP (p : Nat) : Prop := WordP (p : Int) ∨ (128 ≤ p ∧ OkP p)
theorem nameP_ok {p : Nat} (h : NameP p) : OkP p := by unfold NameP WordP OkP at *; omega
def txt (rs : List Nat) : ByteArray := ⟨(quoted rs).toArray⟩
theorem txt_bytes (rs : List Nat) : (txt rs).data.toList = quoted rs := by simp [txt]
theorem txt_size (rs : List Nat) : (txt rs).size = (quoted rs).length := by
  rw [← txt_bytes, Array.length_toList]; rfl
theorem txt_rest (p : Nat) (rs : List Nat) (n : Nat) (hn : n = (qr p).length) : (txt (p :: rs)).extract n (txt (p :: rs)).size = txt rs := by
  apply ByteArray.ext
  apply Array.ext'
  rw [Lib.extract_data, txt_bytes, txt_bytes, quoted_cons, hn, List.drop_left]
  exact List.take_of_length_le (by rw [txt_size, quoted_cons, List.length_append]; omega)
theorem qr_word {p : Nat} (h : WordP (p : Int)) : qr p = [UInt8.ofNat p] := by
  unfold qr; rw [if_pos (by unfold WordP at h; omega)]
theorem qr_high {p : Nat} (h : 128 ≤ p) (h2 : p ≤ 65535) : qr p = 92 :: 117 :: (four4 p).map hx := by
  unfold qr; rw [if_neg (by omega), if_pos h2]; rfl
theorem qr_far {p : Nat} (h2 : ¬ p ≤ 65535) : qr p = 92 :: ([117, 123] ++ (digs 64 p []).map hx ++ [125]) := by
  unfold qr; rw [if_neg (by omega), if_neg h2, numeral_digs]; rfl
theorem qr_slash {p : Nat} (h : 128 ≤ p) : ∃ r, qr p = 92 :: 117 :: r := by
  by_cases h2 : p ≤ 65535
  · exact ⟨_, qr_high h h2⟩
  · exact ⟨[123] ++ (digs 64 p []).map hx ++ [125], by rw [qr_far h2]; simp⟩

/-- escape behind the backslash of a code point beyond ASCII. -/
theorem escape_any (t : ByteArray) (p : Nat) (rest : List UInt8) (K : Nat) (w : World) (hb : 92 :: t.data.toList = qr p ++ rest) (h : 128 ≤ p) (hok : OkP p) (hu : spec_units.f K (p : Int) = some (u16P p)) (hm : t.size ≤ 140737488355328) :
    Calls Tryf.prog 21 #[.string t] w fun e w' => EscEnd w (u16P p) ((qr p).length - 1) e w' := by
  by_cases h2 : p ≤ 65535
  · have e : (qr p).length - 1 = 5 := by rw [qr_high h h2]; simp [four4]
    have e2 : u16P p = [(p : Int)] := by unfold u16P; rw [if_pos (by omega)]
    rw [e, e2]
    refine escape_four t p w ⟨⟨rest, ?_⟩, h2⟩ hm
    rw [qr_high h h2] at hb
    have := (List.cons.inj hb).2
    rw [this]; rfl
  · have hle : p ≤ 1114111 := by unfold OkP at hok; omega
    have hv : val 0 (digs 64 p []) = p := by rw [digs_val 64 p [] (by omega) (by omega)]; rfl
    have hlen := digs_len 64 6 p [] (by omega) (by omega)
    have e : (qr p).length - 1 = (digs 64 p []).length + 3 := by rw [qr_far h2]; simp
    rw [e]
    refine escape_braced t (digs 64 p []) (u16P p) K w ⟨⟨rest, ?_⟩, digs_lt 64 p [] (by simp), digs_ne 64 p [] (by omega), by rw [hv]; exact hle⟩ (by simp at hlen; omega) (by rw [hv]; omega) (by rw [hv]; exact hu) hm
    rw [qr_far h2] at hb
    have := (List.cons.inj hb).2
    rw [this]; simp

/-- How far the reader has come. -/
structure NAt (B0 gb : Nat) (w : World) (ps ds rs : List Nat) (vo : Value) (W : World) : Prop where
  split : ps = ds ++ rs
  cell : W.heap[gb]? = some (.cells #[.string (txt rs), .bool false] 37 (0, 0))
  own : Own16 W w.heap.size vo (units16 ds)
  below : Below B0 w W
def NRel (B0 gb : Nat) (w : World) (ps : List Nat) (g : Nat) (vo : Value) (W : World) : Prop := ∃ ds rs, NAt B0 gb w ps ds rs vo W ∧ rs.length = g
theorem NAt.read {B0 gb : Nat} {w W : World} {ps ds rs : List Nat} {vo : Value} (h : NAt B0 gb w ps ds rs vo W) : W.cell? ⟨gb, 0, none⟩ = some (.string (txt rs)) ∧ W.frozen? ⟨gb, 0, none⟩ = false := by
  constructor
  · rw [cell_of_row W gb 0 _ _ _ h.cell]; rfl
  · simp [World.frozen?, h.cell]

theorem below_undrew {B : Nat} {W W' : World} (h : Below B W.drew W') : Below B W W' := ⟨h.os, h.tape, h.output, h.size, h.block⟩
/-- The reader's text is as it was. -/
def Held (gb : Nat) (t : ByteArray) (W : World) : Prop := W.cell? ⟨gb, 0, none⟩ = some (.string t) ∧ W.frozen? ⟨gb, 0, none⟩ = false
theorem held_below {gb : Nat} {t : ByteArray} {W W' : World} (h : Held gb t W) (hb : Below W.heap.size W W') : Held gb t W' := by
  have hlt : gb < W.heap.size := World.block_lt_of_cell? W ⟨gb, 0, none⟩ h.1
  exact ⟨(hb.cell (p := ⟨gb, 0, none⟩) hlt).trans h.1, (hb.frozen (p := ⟨gb, 0, none⟩) hlt).trans h.2⟩
theorem held_grown {gb : Nat} {t : ByteArray} {W W' : World} {row : Option Nat} (h : Held gb t W) (hg : W.grownBy W' row) (hne : some gb ≠ row) : Held gb t W' := by
  have hlt : gb < W.heap.size := World.block_lt_of_cell? W ⟨gb, 0, none⟩ h.1
  exact ⟨(hg.cell_far ⟨gb, 0, none⟩ hlt hne).trans h.1, (hg.frozen_far ⟨gb, 0, none⟩ hlt hne).trans h.2⟩
theorem NAt.far {B0 gb : Nat} {w W : World} {ps ds rs : List Nat} {vo : Value} (h : NAt B0 gb w ps ds rs vo W) (hg : gb < w.heap.size) : some gb ≠ vo.ownBlock := fun e => by
  have := (Own16.block h.own gb e.symm).1; omega

/-- A round's end: units appended, the text cut. -/
theorem n_next {B0 gb : Nat} {w W W1 W2 : World} {ps ds rs : List Nat} {p : Nat} {vo v2 : Value} (h : NAt B0 gb w ps ds (p :: rs) vo W) (hB : B0 ≤ gb) (hg : gb < w.heap.size)
    (h1 : Below W.heap.size W W1) (h2 : W1.grownBy W2 vo.ownBlock) (ho : Own16 W2 w.heap.size v2 (units16 ds ++ u16P p)) :
    NRel B0 gb w ps rs.length v2 (W2.setCell ⟨gb, 0, none⟩ (.string (txt rs))) := by
  have hwW : w.heap.size ≤ W.heap.size := h.below.size
  have c1 : W1.heap[gb]? = W.heap[gb]? := h1.block gb (by omega)
  have c2 : W2.heap[gb]? = W1.heap[gb]? := h2.block gb (by have := h1.size; omega) (fun e => by have := (Own16.block h.own gb e.symm).1; omega)
  have c3 : W2.heap[gb]? = some (.cells #[.string (txt (p :: rs)), .bool false] 37 (0, 0)) := by rw [c2, c1]; exact h.cell
  refine ⟨ds ++ [p], rs, ⟨by rw [h.split]; simp, ?_, ?_, ?_⟩, rfl⟩
  · rw [setCell_eq_setRow W2 gb 0 _ 37 (0, 0) _ c3]
    exact setRow_heap W2 gb _ _ 37 (0, 0) c3
  · rw [units16_snoc]; exact Own16.store ho hg _
  · have b1 : Below B0 W W1 := h1.mono (by omega)
    have b2 : Below B0 W1 W2 := (Below.refl B0 W1).grown h2 (by have := h1.size; omega) (fun k hk => by have := (Own16.block h.own k hk).1; omega)
    exact ((h.below.trans b1).trans b2).setCell hB _

def NEnd (B0 : Nat) (w : World) (ps : List Nat) (gb : Nat) (e : Ending) (W : World) : Prop :=
  ∃ v, e = .returned v ∧ Own16 W w.heap.size v (units16 ps) ∧ W.heap[gb]? = some (.cells #[.string (txt []), .bool false] 37 (0, 0)) ∧ Below B0 w W

set_option maxRecDepth 100000 in
set_option maxHeartbeats 4000000 in
theorem name_any (B0 gb : Nat) (w : World) (ps : List Nat) (hB : B0 ≤ gb) (hg : gb < w.heap.size) (hc : w.heap[gb]? = some (.cells #[.string (txt ps), .bool false] 37 (0, 0)))
    (hn : ∀ p ∈ ps, NameP p) (hu : ∀ p ∈ ps, ∃ K, spec_units.f K (p : Int) = some (u16P p)) (hm : ps.length ≤ 2147483647) :
    Calls Tryf.prog 14 #[.pointer (some ⟨gb, 0, none⟩)] w fun e w' => NEnd B0 w ps gb e w' := by
  have HN := Lib.hid hn
  have HU := Lib.hid hu
  have HM := Lib.hid hm
  have HC := Lib.hid hc
  clear hn hu hm hc
  go_enter Tryf.func14, Tryf.ntmps14
  go_wp2
  go_loopg [3] ps.length (fun g out W => ∃ vo : Value, out = vo ∧ NRel B0 gb w ps g vo W)
  case atStart => exact ⟨_, rfl, [], ps, ⟨rfl, HC.out, World.ownsRow_nil w _ 39 1, Below.refl _ _⟩, rfl⟩
  case round =>
    obtain ⟨vo, rfl, ds, rs, hq, hgk⟩ := hrel
    have hrd := hq.read
    have HQ := Lib.hid hq
    have HG := Lib.hid hgk
    clear hq hgk
    obtain ⟨hcell, hfz⟩ := hrd
    cases rs with
    | nil =>
      have hne : (txt []).toList.isEmpty = true := by
        have := len_toList (txt [])
        rw [txt_size] at this
        rw [List.isEmpty_iff]; exact List.eq_nil_of_length_eq_zero (by rw [this]; rfl)
      go_wp2
      go_ret
      have hq := HQ.out
      have e : ps = ds := by rw [hq.split, List.append_nil]
      exact ⟨_, rfl, by rw [e]; exact hq.own, hq.cell, hq.below⟩
    | cons p rs =>
      have hin : p ∈ ps := by rw [HQ.out.split]; simp
      have hnp := HN.out p hin
      obtain ⟨K, hK⟩ := HU.out p hin
      have HK := Lib.hid hK
      obtain ⟨t, ht⟩ : ∃ t, txt (p :: rs) = t := ⟨_, rfl⟩
      rw [ht] at hcell
      have hbytes : t.data.toList = qr p ++ quoted rs := by rw [← ht, txt_bytes, quoted_cons]
      have hle : ds.length + (rs.length + 1) ≤ 2147483647 := by have := HM.out; rw [HQ.out.split] at this; simpa using this
      have hqs : t.size ≤ 140737488355328 := by
        have h1 := quoted_len (p :: rs) (fun q hq => nameP_ok (HN.out q (by rw [HQ.out.split]; exact List.mem_append_right _ hq)))
        rw [← ht, txt_size]
        simp at h1; omega
      have hrest : t.extract (qr p).length t.size = txt rs := by rw [← ht]; exact txt_rest p rs _ rfl
      have hlen : ((units16 ds).length + (u16P p).length) * 2 ≤ 140737488355328 := by
        have h1 := units16_len ds
        have h2 := u16P_len p
        omega
      have HT := Lib.hid ht
      have HBY := Lib.hid hbytes
      have HR := Lib.hid hrest
      have HL := Lib.hid hlen
      clear hin hK ht hbytes hrest hlen hle
      by_cases hw : WordP (p : Int)
      · have h0 : 0 < t.size := by
          have := congrArg List.length HBY.out
          rw [qr_word hw, Array.length_toList] at this
          have h2 : t.data.size = t.size := rfl
          simp at this; omega
        obtain ⟨c, hcp⟩ : ∃ c : Int, (p : Int) = c := ⟨_, rfl⟩
        have hb : ((t[0]'h0).toNat : Int) = c := by
          rw [byte_of HBY.out 0 h0 (UInt8.ofNat p) (by rw [qr_word hw]; rfl), ← hcp]
          have : p < 128 := by unfold WordP at hw; omega
          simp; omega
        have hne := ne_empty h0
        have hc1 : c < 128 := by unfold WordP at hw; omega
        have hc0 : 0 ≤ c := by omega
        have hwc : WordP c := by rw [← hcp]; exact hw
        have hb1 : (1 : Int) ≤ (t.size : Int) := by omega
        have hc92 : (c == 92) = false := by unfold WordP at hwc; simp; omega
        have hc1m : (c == -1) = false := by simp; omega
        have hkc := HK.out
        rw [hcp] at hkc
        have HKC := Lib.hid hkc
        have HFAR := Lib.hid (HQ.out.far hg)
        clear hkc
        have HW := Lib.hid hwc
        have HCP := Lib.hid hcp
        clear hw hwc hcp hnp
        go_wp2_with (first
          | (go_at_call 19; refine (isNamed_yes c _ (Or.inl HW.out)).mono ?_; rintro e w' ⟨rfl, rfl⟩)
          | (go_at_call 22; refine (point_ascii t _ h0 c hb hc1).mono ?_; rintro e w' ⟨rfl, rfl⟩)
          | (go_at_call 23; refine (low_surrogate c _ hc0 hc1).mono ?_; rintro e w' ⟨rfl, rfl⟩))
        go_region_law (first
            | (go_simp; go_at_call 24; refine (spec_units.calls K c (u16P p) _ HKC.out).mono ?_; rintro e w1 ⟨vu, rfl, hru, hbu⟩; obtain ⟨hc1, hf1⟩ := held_below (W := wr.drew) ⟨hcell, hfz⟩ hbu; have HRU := Lib.hid hru; have HBU := Lib.hid hbu; clear hru hbu)
            | (apply step_append16 (sl := .tmp 88) (x := .tmp 90) (v := u3) (vl := vu) (B := w.heap.size) (B' := wr.drew.heap.size) (o := units16 ds) (l := u16P p)
               case hgd => rfl
               case hop => rfl
               case hv => rfl
               case hx => rfl
               case ho => exact HQ.out.own.drew.below HBU.out
               case hl => exact own_of_R HRU.out
               case hne => exact u16P_ne p
               case hB => exact Nat.le_trans HQ.out.below.size HBU.out.size
               case hlen => exact HL.out
               intro v2 w2 ho2 hg2
               obtain ⟨hc2, hf2⟩ := held_grown ⟨hc1, hf1⟩ hg2 HFAR.out
               have HO2 := Lib.hid ho2
               have HG2 := Lib.hid hg2
               clear ho2 hg2))
        all_goals
          go_wp2
          go_roundg rs.length
          case measure => have := HG.out; simp at this; omega
          case rel =>
            have hr := HR.out
            rw [qr_word (by rw [HCP.out]; exact HW.out)] at hr
            exact ⟨_, rfl, by rw [show t.extract 1 t.size = txt rs from hr]; exact n_next HQ.out hB hg (below_undrew HBU.out) HG2.out HO2.out⟩
      · have hhi : 128 ≤ p ∧ OkP p := by
          rcases hnp with h | h
          · exact absurd h hw
          · exact h
        obtain ⟨h128, hok⟩ := hhi
        obtain ⟨r, hr⟩ := qr_slash h128
        have hql := qr_len p (by unfold OkP at hok; omega)
        have htl : (qr p).length + (quoted rs).length = t.size := by
          have := congrArg List.length HBY.out
          rw [List.length_append, Array.length_toList] at this
          exact this.symm
        have hq2 : 2 ≤ (qr p).length := by rw [hr]; simp
        have h0 : 0 < t.size := by omega
        have h1 : 1 < t.size := by omega
        have hb0 : ((t[0]'h0).toNat : Int) = 92 := by
          rw [byte_of HBY.out 0 h0 92 (by rw [hr]; rfl)]; rfl
        have hb1 : ((t[1]'h1).toNat : Int) = 117 := by
          rw [byte_of HBY.out 1 h1 117 (by rw [hr]; rfl)]; rfl
        have hne := ne_empty h0
        have hz1 : (1 : Int) ≤ (t.size : Int) := by omega
        have hz2 : (2 : Int) ≤ (t.size : Int) := by omega
        have hesc : 92 :: (t.extract 1 t.size).data.toList = qr p ++ quoted rs := by
          rw [Lib.extract_data, HBY.out, hr]
          simp only [List.cons_append, List.drop_succ_cons, List.drop_zero]
          rw [List.take_of_length_le (by rw [← htl, hr]; simp; omega)]
        have HESC := Lib.hid hesc
        obtain ⟨m, hm⟩ : ∃ m, (qr p).length - 1 = m := ⟨_, rfl⟩
        have hm1 : m + 1 ≤ t.size := by omega
        have hm2 : m ≤ 10 := by omega
        have HMM := Lib.hid hm
        have H128 := Lib.hid h128
        have HOK := Lib.hid hok
        have HQ2 := Lib.hid hq2
        have HFAR := Lib.hid (HQ.out.far hg)
        clear hnp hw h128 hok hr hql htl hq2 hesc hm
        go_wp2_with (first
          | (go_at_call 19; refine (isNamed_yes 92 _ (Or.inr rfl)).mono ?_; rintro e w' ⟨rfl, rfl⟩)
          | (go_at_call 21; refine (escape_any (t.extract 1 t.size) p (quoted rs) K _ HESC.out H128.out HOK.out HK.out (by simp; omega)).mono ?_; rw [HMM.out]; rintro e w1 ⟨vu, rfl, hru, hbu⟩; obtain ⟨hc1, hf1⟩ := held_below (W := wr) ⟨hcell, hfz⟩ hbu; have HRU := Lib.hid hru; have HBU := Lib.hid hbu; clear hru hbu))
        have s1 : IntKind.i64.wrap (1 + (m : Int)) = 1 + (m : Int) := IntWalk.i64_in _ (by omega)
        have s2 : (0 : Int) ≤ 1 + (m : Int) := by omega
        have s3 : (1 : Int) + (m : Int) ≤ (t.size : Int) := by omega
        have s4 : ((1 : Int) + (m : Int)).toNat = m + 1 := by omega
        go_region_law (apply step_append16 (sl := .tmp 59) (x := .tmp 60) (v := u3) (vl := vu) (B := w.heap.size) (B' := wr.heap.size) (o := units16 ds) (l := u16P p)
                       case hgd => rfl
                       case hop => rfl
                       case hv => simp [Act.eval, Act.put]
                       case hx => simp [Act.eval, Act.put]
                       case ho => exact (HQ.out.own.below HBU.out).drew
                       case hl => exact HRU.out.drew
                       case hne => exact u16P_ne p
                       case hB => exact Nat.le_trans HQ.out.below.size HBU.out.size
                       case hlen => exact HL.out
                       intro v2 w2 ho2 hg2
                       obtain ⟨hc2, hf2⟩ := held_grown (W := w1.drew) ⟨hc1, hf1⟩ hg2 HFAR.out
                       have HO2 := Lib.hid ho2
                       have HG2 := Lib.hid hg2
                       clear ho2 hg2)
        all_goals
          clear s1 s2 s3 s4
          go_wp2
          go_roundg rs.length
          case measure => have := HG.out; simp at this; omega
          case rel =>
            have hr := HR.out
            have he : (qr p).length = m + 1 := by have := HMM.out; have := HQ2.out; omega
            rw [he] at hr
            exact ⟨_, rfl, by rw [hr]; exact n_next HQ.out hB hg HBU.out.drew HG2.out HO2.out⟩
#print axioms name_any
end Go.Proofs.YtnlfmlamkkbjaaaFmt
