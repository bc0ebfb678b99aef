/-
  QuoteIdentifier at every name in UTF-8: what it appends; conditions: a buffer of the caller's, both lengths at most 2^31, fmt's answers as the tape has them.
-/
import Derived.Test.YtnlfmlamkkbjaaaFmtQf
import Derived.Test.YtnlfmlamkkbjaaaFmtBuf
import Derived.WalkKit
import Derived.WalkSpells
import Derived.WalkLawsBesides
import Derived.KernelRfl
import Derived.Lib.Hide
import Derived.Deep.LoopGhost
import Derived.Deep.DeepCutAuto
import Derived.Lib.QuoteBits
import Derived.Deep.CutRange
import Derived.Deep.RegionLaw
namespace Go.Proofs.YtnlfmlamkkbjaaaFmt
open Go.RowKit Go.Extern.Stop Go.Stop Go.Extern

theorem qinfo5 : (Tryf.prog.info? 5).map (fun i => (i.zero, i.size, i.bytes)) = some (some (.int .u8 0), 1, 1) := by kernel_rfl

/-- Bytes as they lie in memory. -/
def cells (l : List UInt8) : List Value := l.map fun b => Value.int .u8 b.toNat
theorem cells_append (a b : List UInt8) : cells (a ++ b) = cells a ++ cells b := by simp [cells]
theorem cells_length (a : List UInt8) : (cells a).length = a.length := by simp [cells]

/-- What the name is. -/
structure Name (s : ByteArray) (ps : List Nat) : Prop where
  bytes : s.data.toList = flat ps
  ok : ∀ p ∈ ps, OkP p
  size : s.size ≤ 2147483647
  lo : ∀ p ∈ ps, 32 ≤ p
theorem Name.len {s : ByteArray} {ps : List Nat} (h : Name s ps) : s.size = (flat ps).length := by
  rw [← h.bytes, Array.length_toList]; rfl

/-- How far a round has come: ds is done, rs is to come; what is in the buffer. -/
structure QAt (B k0 : Nat) (w : World) (front : List UInt8) (s : ByteArray) (ps ds rs : List Nat) (v : Value) (b : Bool) (a : Nat) (W : World) : Prop where
  split : ps = ds ++ rs
  iter : W.heap[k0]? = some (.stringIter s (flat ds).length)
  below : Below B w W
  le : a ≤ (flat ds).length
  buf : ∃ content, Buf W B 5 v (cells content) ∧ (b = true → content ++ ((flat ps).take (flat ds).length).drop a = front ++ quoted ds) ∧ (b = false → content = front ++ quoted ds)
def QRel (B k0 : Nat) (w : World) (front : List UInt8) (s : ByteArray) (ps : List Nat) (g : Nat) (v : Value) (b : Bool) (a : Nat) (W : World) : Prop := ∃ ds rs, QAt B k0 w front s ps ds rs v b a W ∧ rs.length = g
theorem take_done {ps ds rs : List Nat} (h : ps = ds ++ rs) : (flat ps).take (flat ds).length = flat ds := by
  rw [h, flat_append]; exact List.take_left
section
variable {B k0 : Nat} {w W W' : World} {front : List UInt8} {s : ByteArray} {ps ds rs : List Nat} {p a : Nat} {v : Value} {b : Bool}
theorem split_next (h : ps = ds ++ p :: rs) : ps = (ds ++ [p]) ++ rs := by rw [h]; simp
theorem len_next : (flat (ds ++ [p])).length = (flat ds).length + (encP p).length := by rw [flat_snoc, List.length_append]
theorem encP_qr (h1 : 32 ≤ p) (h2 : p ≤ 126) : encP p = qr p := by
  rw [encP_one (by omega)]; unfold qr; rw [if_pos ⟨h1, h2⟩]

/-- A sign of ASCII inside a run. -/
theorem q_in (h : QAt B k0 w front s ps ds (p :: rs) v true a W) (h1 : 32 ≤ p) (h2 : p ≤ 126) (hk : B ≤ k0) :
    QRel B k0 w front s ps rs.length v true a (W.iterAt k0 s ((flat ds).length + (encP p).length)) := by
  obtain ⟨content, hb, hc, _⟩ := h.buf
  refine ⟨ds ++ [p], rs, ⟨split_next h.split, ?_, Lib.below_iterAt h.below hk _ _, by rw [len_next]; have := h.le; omega, content, hb.iterAt h.iter _, fun _ => ?_, fun e => (by cases e)⟩, rfl⟩
  · rw [len_next]; exact Lib.iterAt_heap W k0 s _ _ h.iter
  · have hc := hc rfl
    rw [take_done h.split] at hc
    rw [take_done (split_next h.split), flat_snoc, List.drop_append_of_le_length h.le, ← List.append_assoc, hc, quoted_snoc, List.append_assoc, encP_qr h1 h2]
/-- A sign of ASCII that begins a run. -/
theorem q_first (h : QAt B k0 w front s ps ds (p :: rs) v false a W) (h1 : 32 ≤ p) (h2 : p ≤ 126) (hk : B ≤ k0) :
    QRel B k0 w front s ps rs.length v true (flat ds).length (W.iterAt k0 s ((flat ds).length + (encP p).length)) := by
  obtain ⟨content, hb, _, hc⟩ := h.buf
  refine ⟨ds ++ [p], rs, ⟨split_next h.split, ?_, Lib.below_iterAt h.below hk _ _, by rw [len_next]; omega, content, hb.iterAt h.iter _, fun _ => ?_, fun e => (by cases e)⟩, rfl⟩
  · rw [len_next]; exact Lib.iterAt_heap W k0 s _ _ h.iter
  · have hc := hc rfl
    rw [take_done (split_next h.split), flat_snoc, List.drop_left, hc, quoted_snoc, List.append_assoc, encP_qr h1 h2]
end
/-- The run before a sign beyond ASCII has been written. -/
structure QMid (B k0 : Nat) (w : World) (front : List UInt8) (s : ByteArray) (ds : List Nat) (pos : Nat) (v : Value) (W : World) : Prop where
  iter : W.heap[k0]? = some (.stringIter s pos)
  below : Below B w W
  buf : Buf W B 5 v (cells (front ++ quoted ds))
section
variable {B k0 : Nat} {w W W' : World} {front : List UInt8} {s : ByteArray} {ps ds rs : List Nat} {p a pos : Nat} {v v2 : Value}
theorem q_idle (h : QAt B k0 w front s ps ds rs v false a W) (hk : B ≤ k0) : QMid B k0 w front s ds pos v (W.iterAt k0 s pos) := by
  obtain ⟨content, hb, _, hc⟩ := h.buf
  rw [hc rfl] at hb
  exact ⟨Lib.iterAt_heap W k0 s _ _ h.iter, Lib.below_iterAt h.below hk _ _, hb.iterAt h.iter _⟩
theorem q_flush {content : List UInt8} (h : QAt B k0 w front s ps ds rs v true a W) (hk : B ≤ k0) (hb : Buf (W.iterAt k0 s pos) B 5 v (cells content)) (hB : B ≤ (W.iterAt k0 s pos).heap.size)
    (hc : content ++ ((flat ps).take (flat ds).length).drop a = front ++ quoted ds)
    (h2 : Buf W' B 5 v2 (cells (content ++ ((flat ps).take (flat ds).length).drop a))) (hg : (W.iterAt k0 s pos).grownBy W' v.ownBlock) : QMid B k0 w front s ds pos v2 W' := by
  rw [hc] at h2
  exact ⟨hb.iterGrown hg (Lib.iterAt_heap W k0 s _ _ h.iter), (Lib.below_iterAt h.below hk _ _).trans (hb.belowGrown hg hB), h2⟩
theorem QMid.sizeLe (h : QMid B k0 w front s ds pos v W) (hB : B ≤ w.heap.size) : B ≤ W.heap.size := Nat.le_trans hB h.below.size
theorem q_grown (h : QMid B k0 w front s ds pos v W) (hB : B ≤ w.heap.size) (o : Obj) (hg : (W.alloc o).drew.grownBy W' v.ownBlock) : W'.heap[k0]? = some (.stringIter s pos) ∧ Below B w W' := by
  have hlt : k0 < W.heap.size := (Array.getElem?_eq_some_iff.1 h.iter).1
  have hb : Buf (W.alloc o).drew B 5 v (cells (front ++ quoted ds)) := (h.buf.alloc o).drew
  have hs : B ≤ (W.alloc o).drew.heap.size := by
    have := h.sizeLe hB
    show B ≤ (W.heap.push o).size
    simp; omega
  refine ⟨hb.iterGrown hg ((Below.heap_alloc W o k0 hlt).trans h.iter), ?_⟩
  exact (h.below.trans (((Below.refl B W).alloc (h.sizeLe hB) o).drew)).trans (hb.belowGrown hg hs)
theorem qr_four (h1 : ¬ p ≤ 126) (h2 : p ≤ 65535) : qr p = [92, 117, hx (p / 4096), hx (p / 256 % 16), hx (p / 16 % 16), hx (p % 16)] := by
  unfold qr; rw [if_neg (by omega), if_pos h2]
theorem qr_braced (h2 : ¬ p ≤ 65535) : qr p = [92, 117, 123] ++ FmtText.numeral 16 true p ++ [125] := by
  unfold qr; rw [if_neg (by omega), if_neg h2]
theorem part_cells (s : ByteArray) (l : List UInt8) (h : s.data.toList = l) (a b : Nat) : byteCells (s.extract a b) = cells ((l.take b).drop a) := by
  unfold byteCells cells
  rw [Lib.extract_data, h, List.drop_take]
theorem q_esc (h : ps = ds ++ p :: rs) (hp : pos = (flat ds).length + (encP p).length) (hit : W'.heap[k0]? = some (.stringIter s pos)) (hb : Below B w W') (ha : a ≤ (flat ds).length)
    (h2 : Buf W' B 5 v2 (cells ((front ++ quoted ds) ++ qr p))) : QRel B k0 w front s ps rs.length v2 false a W' := by
  refine ⟨ds ++ [p], rs, ⟨split_next h, by rw [len_next, ← hp]; exact hit, hb, by rw [len_next]; omega, (front ++ quoted ds) ++ qr p, h2, fun e => (by cases e), fun _ => ?_⟩, rfl⟩
  rw [quoted_snoc, List.append_assoc]
end
/-- Six bytes just laid, as what is appended. -/
theorem src_new {P : Program} {tx e' : TypeId} (hk : P.underlying tx = some (.slice e')) (W : World) (vs : Array Value) (n c e : Nat) (hn : vs.toList.length = n) (h1 : ∀ u ∈ vs.toList, u.oneCell' = true) :
    Src P 1 tx (.slice (some ⟨W.heap.size, 0, none⟩) n c) n vs.toList (W.alloc (.cells vs e)) := by
  refine Src.ofSlice (W.alloc (.cells vs e)) hk ⟨W.heap.size, 0, none⟩ n c vs.toList (by omega) (fun j u hu => ?_) h1
  have hadd : (⟨W.heap.size, 0, none⟩ : Addr).add j = ⟨W.heap.size, j, none⟩ := by unfold Addr.add; split <;> simp_all
  have hg : (W.alloc (.cells vs e)).heap[W.heap.size]? = some (.cells vs e (0, 0)) := heap_alloc_new W _
  rw [hadd, cell_of_row _ _ j vs e (0, 0) hg]
  simpa using hu
theorem src_new_drew {P : Program} {tx e' : TypeId} (hk : P.underlying tx = some (.slice e')) (W : World) (vs : Array Value) (n c e : Nat) (hn : vs.toList.length = n) (h1 : ∀ u ∈ vs.toList, u.oneCell' = true) :
    Src P 1 tx (.slice (some ⟨W.heap.size, 0, none⟩) n c) n vs.toList (W.alloc (.cells vs e)).drew := by
  have h := src_new hk W vs n c e hn h1
  exact ⟨h.kind, h.len, h.cellsD, by
    have := (src_new hk W.drew.drew vs n c e hn h1).cells
    exact this, h.newsLen, h.one⟩
/-- The digit's byte out of the table. -/
theorem hex_at (d : Nat) (h : d < 16) : ∀ w, (Instr.index 9 (.string ⟨#[48, 49, 50, 51, 52, 53, 54, 55, 56, 57, 65, 66, 67, 68, 69, 70]⟩) (.int .i32 (d : Int))).run Tryf.prog w = .ok (.int .u8 ((hx d).toNat : Int)) w := by
  intro w
  have hd : d = 0 ∨ d = 1 ∨ d = 2 ∨ d = 3 ∨ d = 4 ∨ d = 5 ∨ d = 6 ∨ d = 7 ∨ d = 8 ∨ d = 9 ∨ d = 10 ∨ d = 11 ∨ d = 12 ∨ d = 13 ∨ d = 14 ∨ d = 15 := by omega
  rcases hd with rfl | rfl | rfl | rfl | rfl | rfl | rfl | rfl | rfl | rfl | rfl | rfl | rfl | rfl | rfl | rfl <;> rfl
/-- The end. -/
def QEnd (B : Nat) (w : World) (front : List UInt8) (ps : List Nat) (e : Ending) (W : World) : Prop := ∃ v, e = .returned v ∧ Buf W B 5 v (cells (front ++ quoted ps)) ∧ Below B w W

/-- No feature is called unsupported. -/
theorem has_none (w : World) : Calls Tryf.prog 17 #[.int .u64 0, .int .u64 576460752303423488] w fun e w' => e = .returned (.bool false) ∧ w = w' := by
  go_enter Tryf.func17, Tryf.ntmps17
  go_wp2
  go_ret
  exact ⟨rfl, rfl⟩

set_option maxRecDepth 100000 in
set_option maxHeartbeats 2000000 in
theorem quote_any (F : Interp) (B : Nat) (w : World) (hF : F.answers w.tape) (v : Value) (front : List UInt8) (s : ByteArray) (ps : List Nat) (hT : ∀ p : Nat, 65535 < p → p ≤ 1114111 → (FmtStop.textOf (F "fmt.Sprintf" (reading (p : Int)) 0)).data.toList = [92, 117, 123] ++ FmtText.numeral 16 true p ++ [125]) (hn : Name s ps) (hv : Buf w B 5 v (cells front)) (hB : B ≤ w.heap.size) (hx : front.length ≤ 2147483647) :
    Calls Tryf.prog 13 #[v, .string s, .int .u64 0] w fun e w' => QEnd B w front ps e w' := by
  have HN := Lib.hid hn
  have HV := Lib.hid hv
  have HX := Lib.hid hx
  have HF := Lib.hid hF
  have HT := Lib.hid hT
  clear hn hv hx hF hT
  obtain ⟨i0, hi, hz0, hz1, hz2⟩ := info_parts qinfo5
  have HI := Lib.hid hi
  have HZ0 := Lib.hid hz0
  have HZ1 := Lib.hid hz1
  have HZ2 := Lib.hid hz2
  clear hi hz0 hz1 hz2
  go_enter Tryf.func13, Tryf.ntmps13
  go_wp2
  go_loopg [0, 7, 8] ps.length (fun g j b a W => ∃ (v' : Value) (b' : Bool) (a' : Nat), j = v' ∧ b = .bool b' ∧ a = .int .i64 a' ∧ QRel B w.heap.size w front s ps g v' b' a' W)
  case atStart => exact ⟨v, false, 0, rfl, rfl, rfl, [], ps, ⟨rfl, w.iter_heap s 0, ((Below.refl B w).alloc hB _), Nat.zero_le _, front, HV.out.alloc _, fun h => (by cases h), fun _ => (by simp [quoted])⟩, rfl⟩
  case round =>
    obtain ⟨v', b, a, rfl, rfl, rfl, ds, rs, hq, hg⟩ := hrel
    have hit := hq.iter
    have hps := HN.out.len
    have hal := hq.le
    have HQ := Lib.hid hq
    have HG := Lib.hid hg
    clear hq hg
    cases rs with
    | nil =>
      have hend : (flat ds).length = s.size := by rw [hps, HQ.out.split, List.append_nil]
      have hpd : ps = ds := by rw [HQ.out.split, List.append_nil]
      have hnx : ∀ ty, (Instr.next (.pointer (some ⟨w.heap.size, 0, none⟩)) true ty).run Tryf.prog wr = .ok (.tuple #[.bool false]) wr := fun ty =>
        Lib.run_next_end_at wr w.heap.size s (flat ds).length ty hit (by omega)
      have hsz : s.size ≤ 2147483647 := HN.out.size
      have has : a ≤ s.size := by omega
      have hBW : B ≤ wr.heap.size := Nat.le_trans hB HQ.out.below.size
      have HBW := Lib.hid hBW
      have hql : (quoted ds).length ≤ 10 * 2147483647 := by
        have h1 := quoted_len ds (fun q hq => HN.out.ok q (by rw [hpd]; exact hq))
        have h2 := flat_len ds
        omega
      have HQL := Lib.hid hql
      have HEND := Lib.hid hend
      have HPD := Lib.hid hpd
      clear hit hps hal hend hBW hql hpd
      cases b with
      | true =>
        obtain ⟨content, hbuf, hcont, _⟩ := HQ.out.buf
        have hcont := hcont rfl
        have hpc := part_cells s (flat ps) HN.out.bytes a s.size
        have hlen : (cells content).length + (s.extract a s.size).size ≤ 140737488355328 := by
          have h1 := congrArg List.length hcont
          have h2 := congrArg List.length hpc
          have h3 := HX.out
          have h4 := HQL.out
          rw [byteCells_length, cells_length] at h2
          rw [HEND.out, List.length_append, List.length_append] at h1
          rw [cells_length, h2]
          omega
        have HLEN := Lib.hid hlen
        have HCO := Lib.hid hcont
        have HPC := Lib.hid hpc
        have HBU := Lib.hid hbuf
        clear hcont hpc hlen hbuf
        go_wp2_with (at_builtin; go_must (refine wpList_append_buf (e := 5) (base := B) (xs := cells content) rfl (.tmp 63) (.tmp 66) 31 9 rfl i0 (.int .u8 0) Tryf.underlying31 HI.out HZ0.out HZ1.out HZ2.out rfl rfl HBU.out HBW.out _ _ (Src.ofString _ Tryf.underlying9 (s.extract a s.size)) HLEN.out ?_); intro v2 w2 hb2 hg2; have HB2 := Lib.hid hb2; have HG2 := Lib.hid hg2; clear hb2 hg2)
        go_ret
        have hb2 := HB2.out
        have hc := HCO.out
        rw [HEND.out] at hc
        rw [HPC.out, ← cells_append, hc, ← HPD.out] at hb2
        exact ⟨_, rfl, hb2, HQ.out.below.trans (HBU.out.belowGrown HG2.out HBW.out)⟩
      | false =>
        obtain ⟨content, hbuf, _, hcont⟩ := HQ.out.buf
        have hcont := hcont rfl
        have HCO := Lib.hid hcont
        have HBU := Lib.hid hbuf
        clear hcont hbuf
        go_wp2
        go_ret
        have hb2 := HBU.out
        rw [HCO.out, ← HPD.out] at hb2
        exact ⟨_, rfl, hb2, HQ.out.below⟩
    | cons p rs =>
      have hok : OkP p := HN.out.ok p (by rw [HQ.out.split]; simp)
      have h32 : 32 ≤ p := HN.out.lo p (by rw [HQ.out.split]; simp)
      have hfl : (flat ps).length = (flat ds).length + (encP p).length + (flat rs).length := by rw [HQ.out.split, flat_append, flat_cons]; simp; omega
      have hdec := decode_enc s (flat ds).length p (flat rs) (by rw [HN.out.bytes, HQ.out.split, flat_append, flat_cons, List.drop_left]) hok
      have hen := encP_len p
      obtain ⟨pos, hpos⟩ : ∃ pos, pos = (flat ds).length := ⟨_, rfl⟩
      obtain ⟨n, hnn⟩ : ∃ n, n = (encP p).length := ⟨_, rfl⟩
      have hlt : pos < s.size := by omega
      have hap : a ≤ pos := by omega
      have hnx : ∀ ty, (Instr.next (.pointer (some ⟨w.heap.size, 0, none⟩)) true ty).run Tryf.prog wr = .ok (.tuple #[.bool true, .int .i64 pos, .int .i32 (p : Int)]) (wr.iterAt w.heap.size s (pos + n)) := fun ty => by
        rw [← hpos] at hit hdec
        rw [Lib.run_next_any_at wr w.heap.size s pos ty hit hlt, hdec, ← hnn]
      have hcp : (p : Int) ≤ 1114111 := by unfold OkP at hok; omega
      have HP := Lib.hid hpos
      have HNN := Lib.hid hnn
      have HIT := Lib.hid hit
      have hle1 : pos + n ≤ s.size := by omega
      have hsz : s.size ≤ 2147483647 := HN.out.size
      have hql : (quoted ds).length ≤ 10 * 2147483647 := by
        have h1 := quoted_len ds (fun q hq => HN.out.ok q (by rw [HQ.out.split]; simp [hq]))
        have h2 := flat_len ds
        omega
      have HQL := Lib.hid hql
      clear hpos hnn hfl hit hdec hps hen hok hal hql
      obtain ⟨c, hc⟩ : ∃ c : Int, c = (p : Int) := ⟨_, rfl⟩
      rw [← hc] at hnx hcp
      have hc0 : 32 ≤ c := by omega
      have HC := Lib.hid hc
      clear hc h32
      by_cases hA2 : c ≤ 126
      · have hA1 := hc0
        cases b with
        | true =>
          go_wp2
          go_roundg rs.length
          case measure => have := HG.out; simp at this; omega
          case rel => exact ⟨_, true, a, rfl, rfl, rfl, by rw [HP.out, HNN.out]; exact q_in HQ.out (by rw [HC.out] at hA1; omega) (by rw [HC.out] at hA2; omega) hB⟩
        | false =>
          go_wp2
          go_roundg rs.length
          case measure => have := HG.out; simp at this; omega
          case rel => exact ⟨_, true, pos, rfl, rfl, rfl, by rw [HP.out, HNN.out]; exact q_first HQ.out (by rw [HC.out] at hA1; omega) (by rw [HC.out] at hA2; omega) hB⟩
      · go_upto_if 26 with (fail)
        have hBW : B ≤ (wr.iterAt w.heap.size s (pos + n)).heap.size := by rw [Lib.iterAt_size]; exact Nat.le_trans hB HQ.out.below.size
        have HBW := Lib.hid hBW
        clear hBW
        go_cut [0, 7] from 13 to 61 (fun j b' W => ∃ v2 : Value, j = v2 ∧ b' = .bool false ∧ QMid B w.heap.size w front s ds (pos + n) v2 W)
        case first =>
          cases b with
          | true =>
            obtain ⟨content, hbuf, hcont, _⟩ := HQ.out.buf
            have hcont := hcont rfl
            have hpc := part_cells s (flat ps) HN.out.bytes a pos
            have hlen : (cells content).length + (s.extract a pos).size ≤ 140737488355328 := by
              have h1 := congrArg List.length hcont
              have h2 := congrArg List.length hpc
              have h3 := HX.out
              have h4 := HQL.out
              rw [byteCells_length, cells_length] at h2
              rw [← HP.out, List.length_append, List.length_append] at h1
              rw [cells_length, h2]
              omega
            have HLEN := Lib.hid hlen
            have HCO := Lib.hid hcont
            have HPC := Lib.hid hpc
            have HBU := Lib.hid (hbuf.iterAt HQ.out.iter (pos + n))
            clear hcont hpc hlen hbuf
            go_wp2_with (at_builtin; go_must (refine wpList_append_buf (e := 5) (base := B) (xs := cells content) rfl (.tmp 27) (.tmp 31) 31 9 rfl i0 (.int .u8 0) Tryf.underlying31 HI.out HZ0.out HZ1.out HZ2.out rfl rfl HBU.out HBW.out _ _ (Src.ofString _ Tryf.underlying9 (s.extract a pos)) HLEN.out ?_); intro v2 w2 hb2 hg2; have HB2 := Lib.hid hb2; have HG2 := Lib.hid hg2; clear hb2 hg2)
            go_meet
            have hb2 := HB2.out
            rw [HPC.out, ← cells_append, HP.out] at hb2
            exact ⟨_, rfl, rfl, q_flush HQ.out hB HBU.out HBW.out HCO.out hb2 HG2.out⟩
          | false =>
            go_wp2
            go_meet
            exact ⟨_, rfl, rfl, q_idle HQ.out hB⟩
        case rest =>
          obtain ⟨v2, rfl, rfl, hm⟩ := hcut
          have HM := Lib.hid hm
          clear hm HBW
          by_cases hB2 : c ≤ 65535
          · have hp2 : p ≤ 65535 := by have := HC.out; omega
            have i1 := hex_at (p / 4096) (by omega)
            have i2 := hex_at (p / 256 % 16) (by omega)
            have i3 := hex_at (p / 16 % 16) (by omega)
            have i4 := hex_at (p % 16) (by omega)
            have e1 : c / 4096 = ((p / 4096 : Nat) : Int) := by rw [HC.out]; omega
            have e2 : bits .and .i32 (c / 256) 15 = ((p / 256 % 16 : Nat) : Int) := by rw [← Lib.and15_i32 _ (by omega), HC.out]; rfl
            have e3 : bits .and .i32 (c / 16) 15 = ((p / 16 % 16 : Nat) : Int) := by rw [← Lib.and15_i32 _ (by omega), HC.out]; rfl
            have e4 : bits .and .i32 c 15 = ((p % 16 : Nat) : Int) := by rw [← Lib.and15_i32 _ (by omega), HC.out]
            have HP2 := Lib.hid hp2
            clear hp2
            obtain ⟨d1, hd1⟩ : ∃ d : Int, ((p / 4096 : Nat) : Int) = d := ⟨_, rfl⟩
            obtain ⟨d2, hd2⟩ : ∃ d : Int, ((p / 256 % 16 : Nat) : Int) = d := ⟨_, rfl⟩
            obtain ⟨d3, hd3⟩ : ∃ d : Int, ((p / 16 % 16 : Nat) : Int) = d := ⟨_, rfl⟩
            obtain ⟨d4, hd4⟩ : ∃ d : Int, ((p % 16 : Nat) : Int) = d := ⟨_, rfl⟩
            rw [hd1] at i1 e1
            rw [hd2] at i2 e2
            rw [hd3] at i3 e3
            rw [hd4] at i4 e4
            clear hd1 hd2 hd3 hd4
            obtain ⟨x1, hx1⟩ : ∃ x : Int, ((hx (p / 4096)).toNat : Int) = x := ⟨_, rfl⟩
            obtain ⟨x2, hx2⟩ : ∃ x : Int, ((hx (p / 256 % 16)).toNat : Int) = x := ⟨_, rfl⟩
            obtain ⟨x3, hx3⟩ : ∃ x : Int, ((hx (p / 16 % 16)).toNat : Int) = x := ⟨_, rfl⟩
            obtain ⟨x4, hx4⟩ : ∃ x : Int, ((hx (p % 16)).toNat : Int) = x := ⟨_, rfl⟩
            rw [hx1] at i1
            rw [hx2] at i2
            rw [hx3] at i3
            rw [hx4] at i4
            have HX1 := Lib.hid hx1
            have HX2 := Lib.hid hx2
            have HX3 := Lib.hid hx3
            have HX4 := Lib.hid hx4
            clear hx1 hx2 hx3 hx4
            go_wp2
            refine wp_region_any (by kernel_rfl) ?_
            change wpAny _ _ _ _ _ _ _ (World.drew _)
            refine wpAny_take (i := 0) (v := ?v0) rfl (by kernel_rfl) (by kernel_rfl) (by kernel_rfl) (fun _ _ _ h => h) (Or.inl ⟨by rfl, ?h0⟩) ?_
            case h0 => (intro w9; go_simp <;> with_reducible rfl)
            refine wpAny_take (i := 1) (v := ?v1) rfl (by kernel_rfl) (by kernel_rfl) (by kernel_rfl) (fun _ _ _ h => h) (Or.inl ⟨by rfl, ?h1⟩) ?_
            case h1 => (intro w9; go_simp <;> with_reducible rfl)
            refine wpAny_take (i := 2) (v := ?v2) rfl (by kernel_rfl) (by kernel_rfl) (by kernel_rfl) (fun _ _ _ h => h) (Or.inl ⟨by rfl, ?h2⟩) ?_
            case h2 => (intro w9; go_simp <;> with_reducible rfl)
            refine wpAny_take (i := 3) (v := ?v3) rfl (by kernel_rfl) (by kernel_rfl) (by kernel_rfl) (fun _ _ _ h => h) (Or.inl ⟨by rfl, ?h3⟩) ?_
            case h3 => (intro w9; go_simp <;> with_reducible rfl)
            refine wpAny_take (i := 4) (v := ?v4) rfl (by kernel_rfl) (by kernel_rfl) (by kernel_rfl) (fun _ _ _ h => h) (Or.inl ⟨by rfl, ?h4⟩) ?_
            case h4 => (intro w9; go_simp <;> with_reducible rfl)
            refine wpAny_take (i := 5) (v := ?v5) rfl (by kernel_rfl) (by kernel_rfl) (by kernel_rfl) (fun _ _ _ h => h) (Or.inl ⟨by rfl, ?h5⟩) ?_
            case h5 => (intro w9; go_simp <;> with_reducible rfl)
            refine wpAny_take (i := 6) (v := ?v6) rfl (by kernel_rfl) (by kernel_rfl) (by kernel_rfl) (fun _ _ _ h => h) (Or.inl ⟨by rfl, ?h6⟩) ?_
            case h6 => (intro w9; go_simp <;> with_reducible rfl)
            refine wpAny_take (i := 7) (v := ?v7) rfl (by kernel_rfl) (by kernel_rfl) (by kernel_rfl) (fun _ _ _ h => h) (Or.inl ⟨by rfl, ?h7⟩) ?_
            case h7 => (intro w9; go_simp <;> with_reducible rfl)
            refine wpAny_take (i := 8) (v := ?v8) rfl (by kernel_rfl) (by kernel_rfl) (by kernel_rfl) (fun _ _ _ h => h) (Or.inl ⟨by rfl, ?h8⟩) ?_
            case h8 => (intro w9; go_simp <;> with_reducible rfl)
            refine wpAny_take (i := 9) (v := ?v9) rfl (by kernel_rfl) (by kernel_rfl) (by kernel_rfl) (fun _ _ _ h => h) (Or.inl ⟨by rfl, ?h9⟩) ?_
            case h9 => (intro w9; go_simp <;> with_reducible rfl)
            refine wpAny_take (i := 10) (v := ?v10) rfl (by kernel_rfl) (by kernel_rfl) (by kernel_rfl) (fun _ _ _ h => h) (Or.inl ⟨by rfl, ?h10⟩) ?_
            case h10 => (intro w9; go_simp <;> with_reducible rfl)
            refine wpAny_take (i := 11) (v := ?v11) rfl (by kernel_rfl) (by kernel_rfl) (by kernel_rfl) (fun _ _ _ h => h) (Or.inl ⟨by rfl, ?h11⟩) ?_
            case h11 => (intro w9; go_simp <;> with_reducible rfl)
            refine wpAny_take (i := 12) (v := ?v12) rfl (by kernel_rfl) (by kernel_rfl) (by kernel_rfl) (fun _ _ _ h => h) (Or.inl ⟨by rfl, ?h12⟩) ?_
            case h12 => (intro w9; go_simp <;> with_reducible rfl)
            refine wpAny_take (i := 13) (v := ?v13) rfl (by kernel_rfl) (by kernel_rfl) (by kernel_rfl) (fun _ _ _ h => h) (Or.inl ⟨by rfl, ?h13⟩) ?_
            case h13 => (intro w9; go_simp <;> with_reducible rfl)
            refine wpAny_take (i := 14) (v := ?v14) rfl (by kernel_rfl) (by kernel_rfl) (by kernel_rfl) (fun _ _ _ h => h) (Or.inl ⟨by rfl, ?h14⟩) ?_
            case h14 => (intro w9; go_simp <;> with_reducible rfl)
            refine wpAny_ready (rs := [15]) (by kernel_rfl) (by simp) ?_
            refine AllReady.cons rfl (fun K hK => ?_) AllReady.nil
            go_simp
            refine hK _ _ ?_
            clear hK K
            refine wpAny_ready (rs := [16]) (by kernel_rfl) (by simp) ?_
            refine AllReady.cons rfl (fun K hK => ?_) AllReady.nil
            refine step_append_buf (e := 5) (base := B) (xs := cells (front ++ quoted ds)) rfl (.tmp 35) (.tmp 50) 31 31 rfl i0 (.int .u8 0) Tryf.underlying31 HI.out HZ0.out HZ1.out HZ2.out rfl rfl (HM.out.buf.alloc _).drew ?c2 6 _ (src_new_drew Tryf.underlying31 wc #[.int .u8 92, .int .u8 117, .int .u8 x1, .int .u8 x2, .int .u8 x3, .int .u8 x4] 6 _ 5 rfl ?c5) ?c6 ?_
            case c2 => (have := HM.out.sizeLe hB; show B ≤ (wc.heap.push _).size; simp; omega)
            case c5 => (intro u hu; simp at hu; rcases hu with rfl | rfl | rfl | rfl | rfl | rfl <;> rfl)
            case c6 => (rw [cells_length, List.length_append]; have h1 := HX.out; have h2 := HQL.out; omega)
            intro v3 w3 hb3 hg3
            refine hK _ _ ?_
            clear hK K
            refine wpAny_take (i := 17) (v := ?v17) rfl (by kernel_rfl) (by kernel_rfl) (by kernel_rfl) (fun _ _ _ h => h) (Or.inl ⟨by rfl, ?h17⟩) ?_
            case h17 => (intro w9; go_simp <;> with_reducible rfl)
            refine wpAny_done (by kernel_rfl) ?_ _
            have HB3 := Lib.hid hb3
            have HG3 := Lib.hid hg3
            clear hb3 hg3
            go_wp2
            go_roundg rs.length
            case measure => have := HG.out; simp at this; omega
            case rel =>
              have hg3 := q_grown HM.out hB _ HG3.out
              have hb3 := HB3.out
              have hc := HC.out
              have hq4 := qr_four (p := p) (by omega) HP2.out
              have hcell : cells (front ++ quoted ds) ++ [.int .u8 92, .int .u8 117, .int .u8 x1, .int .u8 x2, .int .u8 x3, .int .u8 x4] = cells ((front ++ quoted ds) ++ qr p) := by
                rw [cells_append _ (qr p), hq4, ← HX1.out, ← HX2.out, ← HX3.out, ← HX4.out]
                rfl
              rw [hcell] at hb3
              exact ⟨_, false, a, rfl, rfl, rfl, q_esc HQ.out.split (by rw [HP.out, HNN.out]) hg3.1 hg3.2 HQ.out.le hb3⟩
          · have hp2 : ¬ p ≤ 65535 := by have := HC.out; omega
            have HP2 := Lib.hid hp2
            clear hp2
            have htx : (FmtStop.textOf (F "fmt.Sprintf" (reading c) 0)).data.toList = qr p := by
              rw [HC.out, qr_braced HP2.out]
              exact HT.out p (by have := HP2.out; omega) (by have := HC.out; omega)
            have htl : (FmtStop.textOf (F "fmt.Sprintf" (reading c) 0)).size ≤ 10 := by
              have h1 := congrArg List.length htx
              have h2 := qr_len p (by have := HC.out; omega)
              rw [Array.length_toList] at h1
              exact Nat.le_trans (Nat.le_of_eq h1) h2.2
            have htc : byteCells (FmtStop.textOf (F "fmt.Sprintf" (reading c) 0)) = cells (qr p) := by
              unfold byteCells cells; rw [htx]
            have HTL := Lib.hid htl
            have HTC := Lib.hid htc
            clear htx htl htc
            have hF' := answers_open (F := F) (tape := wc.tape) (by rw [HM.out.below.tape]; exact HF.out)
            go_wp2_with (first | (go_at_call 17; refine (has_none _).mono ?_; rintro e w' ⟨rfl, rfl⟩) | (at_builtin; go_must (refine wpList_append_buf (e := 5) (base := B) (xs := cells (front ++ quoted ds)) rfl (.tmp 55) (.tmp 59) 31 9 rfl i0 (.int .u8 0) Tryf.underlying31 HI.out HZ0.out HZ1.out HZ2.out rfl rfl (HM.out.buf.alloc _).drew ?c2 _ _ (Src.ofString _ Tryf.underlying9 _) ?c6 ?_); (case c2 => (have := HM.out.sizeLe hB; show B ≤ (wc.heap.push _).size; simp; omega)); (case c6 => (rw [cells_length, List.length_append]; have h1 := HX.out; have h2 := HQL.out; have h3 := HTL.out; exact Nat.le_trans (Nat.add_le_add_left h3 _) (by omega))); intro v3 w3 hb3 hg3; have HB3 := Lib.hid hb3; have HG3 := Lib.hid hg3; clear hb3 hg3))
            go_roundg rs.length
            case measure => have := HG.out; simp at this; omega
            case rel =>
              have hg3 := q_grown HM.out hB _ HG3.out
              have hb3 := HB3.out
              have htc := HTC.out
              unfold reading at htc
              rw [htc, ← cells_append] at hb3
              exact ⟨_, false, a, rfl, rfl, rfl, q_esc HQ.out.split (by rw [HP.out, HNN.out]) hg3.1 hg3.2 HQ.out.le hb3⟩
#print axioms quote_any
end Go.Proofs.YtnlfmlamkkbjaaaFmt
