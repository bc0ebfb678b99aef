/-
  No program is named here: a byte slice of the call's own, told by its block, and 'append' onto it out of whatever source; conditions: the cells up to the capacity are not frozen, and the new length is at most 2^47.
-/
import Derived.Deep.AppendSrc
import Derived.Deep.Upon
import Derived.OwnWalk
import Derived.Deep.Draws
import Derived.Below
import Derived.WalkKit
import Derived.Laws.IdiomStrings
import Derived.Lib.OthersKept
namespace Go.Proofs.YtnlfmlamkkbjaaaFmt
open Go.RowKit

/-- v is a slice from the head of a block (number base or more) of one-cell elements of type e; its elements are xs; no cell up to its capacity is frozen. -/
def Buf (w : World) (base : Nat) (e : TypeId) (v : Value) (xs : List Value) : Prop :=
  ∃ g cap cur fz, v = .slice (some ⟨g, 0, none⟩) xs.length cap ∧ base ≤ g ∧ w.heap[g]? = some (.cells cur e fz) ∧
    (∀ j, j < cap → ¬ (fz.1 ≤ j ∧ j < fz.2)) ∧ xs.length ≤ cap ∧ cap ≤ maxLen ∧ cur.size = cap ∧ cur.toList.take xs.length = xs

theorem setCells_eq_setRow (g : Nat) (t : TypeId) (fz : Nat × Nat) : ∀ (vs : List Value) (o : Nat) (cur : Array Value) (w : World), w.heap[g]? = some (.cells cur t fz) → o + vs.length ≤ cur.size →
    w.setCells g o vs = w.setRow g (cur.toList.take o ++ vs ++ cur.toList.drop (o + vs.length)).toArray
  | [], o, cur, w, hg, _ => by
    simp only [World.setCells, List.append_nil, List.length_nil, Nat.add_zero, List.take_append_drop, Array.toArray_toList]
    rw [setRow_self w g cur t fz hg]
  | v :: rest, o, cur, w, hg, hl => by
    have hi : o < cur.size := by simp at hl; omega
    have ih := setCells_eq_setRow g t fz rest (o + 1) (cur.setIfInBounds o v) (w.setRow g (cur.setIfInBounds o v)) (setRow_heap w g cur _ t _ hg) (by simp at hl ⊢; omega)
    rw [World.setCells, setCell_eq_setRow w g o cur t fz v hg, ih, setRow_setRow]
    congr 2
    have e := list_seg_step cur.toList o v rest (by simp at hl ⊢; omega)
    simpa [Array.toList_setIfInBounds, Nat.add_assoc] using e

section
variable {P : Program} {w : World} {base : Nat} {e : TypeId} {v : Value} {xs : List Value}

theorem Buf.ownBlock (h : Buf w base e v xs) : ∃ g, v.ownBlock = some g ∧ base ≤ g ∧ g < w.heap.size ∧ ∃ cur fz, w.heap[g]? = some (.cells cur e fz) := by
  obtain ⟨g, cap, cur, fz, rfl, hb, hg, _⟩ := h
  exact ⟨g, rfl, hb, (Array.getElem?_eq_some_iff.1 hg).1, cur, fz, hg⟩

/-- It stands as long as its block does. -/
theorem Buf.kept {w' : World} (h : Buf w base e v xs) (hb : ∀ g, v.ownBlock = some g → w'.heap[g]? = w.heap[g]?) : Buf w' base e v xs := by
  obtain ⟨g, cap, cur, fz, rfl, hbg, hg, rest⟩ := h
  exact ⟨g, cap, cur, fz, rfl, hbg, (hb g rfl).trans hg, rest⟩

theorem Buf.alloc (h : Buf w base e v xs) (o : Obj) : Buf (w.alloc o) base e v xs := by
  obtain ⟨g, hv, _, hlt, _⟩ := h.ownBlock
  exact h.kept fun g' hg' => by rw [hv] at hg'; cases hg'; exact Below.heap_alloc w o g hlt
theorem Buf.drew (h : Buf w base e v xs) : Buf w.drew base e v xs := h
theorem Buf.drewN (h : Buf w base e v xs) (n : Nat) : Buf (w.drewN n) base e v xs := h

theorem Buf.below {w' : World} (h : Buf w base e v xs) (hb : Below w.heap.size w w') : Buf w' base e v xs := by
  obtain ⟨g, hv, _, hlt, _⟩ := h.ownBlock
  exact h.kept fun g' hg' => by rw [hv] at hg'; cases hg'; exact hb.block g hlt

/-- A string's iterator that is moved on is no buffer. -/
theorem Buf.iterAt (h : Buf w base e v xs) {k : Nat} {s : ByteArray} {pos : Nat} (hk : w.heap[k]? = some (.stringIter s pos)) (pos' : Nat) : Buf (w.iterAt k s pos') base e v xs := by
  obtain ⟨g, hv, _, _, cur, fz, hc⟩ := h.ownBlock
  refine h.kept fun g' hg' => ?_
  rw [hv] at hg'; cases hg'
  exact Lib.iterAt_other w k g s pos' (fun e1 => by rw [e1, hk] at hc; cases hc)

/-- The bytes as they lie in memory. -/
theorem Buf.cell (h : Buf w base e v xs) {g n cap : Nat} (hv : v = .slice (some ⟨g, 0, none⟩) n cap) : ∀ j u, xs[j]? = some u → w.cell? ⟨g, j, none⟩ = some u := by
  intro j u hu
  obtain ⟨g', cap', cur, fz, rfl, _, hg, _, _, _, _, ht⟩ := h
  simp only [Value.slice.injEq, Option.some.injEq, Addr.mk.injEq] at hv
  obtain ⟨⟨rfl, _⟩, _, _⟩ := hv
  rw [cell_of_row w g' j cur e fz hg]
  rw [← ht, List.getElem?_take] at hu
  split at hu
  · simpa using hu
  · cases hu

/-- THE LAW OF append. -/
theorem run_append_buf (t tx ty : TypeId) (i : TypeInfo) (z : Value) (ht : P.underlying t = some (.slice e)) (hi : P.info? e = some i) (hz : i.zero = some z) (hsize : i.size = 1) (hby : i.bytes = 1) (hzs : z.cells.size = 1)
    (h : Buf w base e v xs) (hbase : base ≤ w.heap.size) (x : Value) (n : Nat) (news : List Value) (hs : Src P 1 tx x n news w) (hlen : xs.length + n ≤ 140737488355328) :
    ∃ v' w', (Builtin.append_ #[t, tx] ty #[v, x]).run P w = .ok v' w' ∧ Buf w' base e v' (xs ++ news) ∧ w.grownBy w' v.ownBlock := by
  obtain ⟨g, cap, cur, fz, rfl, hbg, hg, hfz, hxc, hcm, hcs, htake⟩ := h
  have hnl : news.length = n := by have := hs.newsLen; omega
  have hadd : ∀ j, ((⟨g, 0, none⟩ : Addr).add j) = ⟨g, j, none⟩ := fun j => by unfold Addr.add; split <;> simp_all
  have hlt : g < w.heap.size := (Array.getElem?_eq_some_iff.1 hg).1
  by_cases hroom : xs.length + n ≤ cap
  · have hr := run_append_room_src (P := P) w t tx ty e i ht hi g 0 xs.length cap x n news (by rw [hsize]; exact hs) hroom
      (fun j hj => by rw [hsize, Nat.zero_add, Nat.mul_one, cell_of_row w g _ cur e fz hg, Array.getElem?_eq_getElem (by omega)]; rfl)
      (fun j hj => by
        rw [hsize, Nat.zero_add, Nat.mul_one]
        have := hfz (xs.length + j) (by omega)
        obtain ⟨lo, hi'⟩ := fz
        simp only [World.frozen?, hg, Bool.and_eq_false_iff, decide_eq_false_iff_not]
        simp only at this
        omega)
    rw [hsize, Nat.zero_add, Nat.mul_one, setCells_eq_setRow g e fz news xs.length cur w hg (by omega)] at hr
    refine ⟨_, _, hr, ⟨g, cap, _, fz, by rw [List.length_append, hnl], hbg, setRow_heap w g cur _ e _ hg, hfz, by rw [List.length_append]; omega, hcm, ?_, ?_⟩, ⟨rfl, rfl, rfl, by simp, fun k _ hk => setRow_other w g k _ (fun e => hk (by simp [Value.ownBlock, e]))⟩⟩
    · simp only [List.size_toArray, List.length_append, List.length_take, List.length_drop, Array.length_toList]
      omega
    · rw [htake]
      exact List.take_left
  · have hold : (Builtin.firstCells i.size xs.length (.slice (some ⟨g, 0, none⟩) xs.length cap)).run P w.drew = .ok xs.toArray w.drew := by
      rw [hsize]
      refine run_firstCells_some (P := P) w.drew 1 xs.length ⟨g, 0, none⟩ xs.length cap xs (by omega) (fun j u hu => ?_)
      rw [hadd]
      have : w.cell? ⟨g, j, none⟩ = some u := by
        rw [cell_of_row w g j cur e fz hg]
        rw [← htake, List.getElem?_take] at hu
        split at hu
        · simpa using hu
        · cases hu
      simpa using this
    have hr := run_append_grow_src (P := P) w t tx ty e i z ht hi hz (some ⟨g, 0, none⟩) xs.length cap xs hold x n news (by rw [hsize]; exact hs) (by omega) (by omega) (by rw [hby]; exact growslice_fits (by omega) (by omega))
    have hge := grownCap_ge w (xs.length + n) cap e
    have hcm2 : grownCap w (xs.length + n) cap e ≤ maxLen := grownCap_le_maxLen w (xs.length + n) cap e (by unfold maxLen; omega)
    refine ⟨_, _, hr, ⟨w.heap.size, _, _, (0, 0), by rw [List.length_append, hnl], hbase, heap_alloc_new w.drew _, fun j _ => by simp, by rw [List.length_append, hnl]; exact hge, hcm2, ?_, ?_⟩, ⟨rfl, rfl, rfl, by simp, fun k hk _ => heap_alloc_old w.drew _ hk⟩⟩
    · simp only [Array.size_append, List.size_toArray, List.length_append, size_zeroCells, hzs, hnl]
      omega
    · simp only [Array.toList_append]
      exact List.take_left

/-- The same at an operation of a plain region. -/
theorem wpList_append_buf {ops : Array Oper} {rest : List Oper} {o : Oper} {a : Act} {Q : Exit → Act → World → Prop} (hgd : o.guard = none) (sl x : Operand) (t tx : TypeId)
    (ho : o.op = .call { callee := .builtin .append, args := #[sl, x], argTypes := #[t, tx] })
    (i : TypeInfo) (z : Value) (ht : P.underlying t = some (.slice e)) (hi : P.info? e = some i) (hz : i.zero = some z) (hsize : i.size = 1) (hby : i.bytes = 1) (hzs : z.cells.size = 1)
    (hv : a.eval sl = v) (h : Buf w base e v xs) (hbase : base ≤ w.heap.size) (n : Nat) (news : List Value) (hs : Src P 1 tx (a.eval x) n news w) (hlen : xs.length + n ≤ 140737488355328)
    (hk : ∀ v' w', Buf w' base e v' (xs ++ news) → w.grownBy w' v.ownBlock → wpList P ops Q rest (a.put o.dst v') w') : wpList P ops Q (o :: rest) a w := by
  refine wpList_plain hgd fun K hK => ?_
  obtain ⟨v', w', hr, h2, h3⟩ := run_append_buf (P := P) t tx o.type i z ht hi hz hsize hby hzs h hbase (a.eval x) n news hs hlen
  unfold Oper.wp execOp
  simp only [ho, resolve, invoke, builtin, Sem.run_bind, Sem.run_pure, Result.andThen_ok, List.map_toArray, List.map_cons, List.map_nil, hv, hr]
  exact hK _ _ (hk v' w' h2 h3)

/-- The same at a step of a region that draws its order. -/
theorem step_append_buf {ops : Array Oper} {o : Oper} {a : Act} {K : Act → World → Prop} {Q : Exit → Act → World → Prop} {E : Prop} (hgd : o.guard = none) (sl x : Operand) (t tx : TypeId)
    (ho : o.op = .call { callee := .builtin .append, args := #[sl, x], argTypes := #[t, tx] })
    (i : TypeInfo) (z : Value) (ht : P.underlying t = some (.slice e)) (hi : P.info? e = some i) (hz : i.zero = some z) (hsize : i.size = 1) (hby : i.bytes = 1) (hzs : z.cells.size = 1)
    (hv : a.eval sl = v) (h : Buf w base e v xs) (hbase : base ≤ w.heap.size) (n : Nat) (news : List Value) (hs : Src P 1 tx (a.eval x) n news w) (hlen : xs.length + n ≤ 140737488355328)
    (hk : ∀ v' w', Buf w' base e v' (xs ++ news) → w.grownBy w' v.ownBlock → K (a.put o.dst v') w') :
    if Region.wanted o (yielded ops a.tmps) = true then Oper.wp P o a w K Q else E := by
  have hw : Region.wanted o (yielded ops a.tmps) = true := by simp [Region.wanted, hgd]
  rw [if_pos hw]
  obtain ⟨v', w', hr, h2, h3⟩ := run_append_buf (P := P) t tx o.type i z ht hi hz hsize hby hzs h hbase (a.eval x) n news hs hlen
  unfold Oper.wp execOp
  simp only [ho, resolve, invoke, builtin, Sem.run_bind, Sem.run_pure, Result.andThen_ok, List.map_toArray, List.map_cons, List.map_nil, hv, hr]
  exact hk v' w' h2 h3

/-- A buffer's row may have grown: what lies below 'base' stands. -/
theorem Buf.belowGrown {w' : World} (h : Buf w base e v xs) (hg : w.grownBy w' v.ownBlock) (hbase : base ≤ w.heap.size) : Below base w w' := by
  obtain ⟨g, hv, hbg, hlt, _⟩ := h.ownBlock
  exact (Below.refl base w).grown hg hbase (fun k hk => by rw [hv] at hk; cases hk; exact hbg)

/-- .. and so does an iterator, wherever it stands. -/
theorem Buf.iterGrown {w' : World} (h : Buf w base e v xs) (hg : w.grownBy w' v.ownBlock) {k : Nat} {s : ByteArray} {pos : Nat} (hk : w.heap[k]? = some (.stringIter s pos)) : w'.heap[k]? = some (.stringIter s pos) := by
  obtain ⟨g, hv, _, _, cur, fz, hc⟩ := h.ownBlock
  rw [hg.block k (Array.getElem?_eq_some_iff.1 hk).1 (fun e1 => by rw [hv] at e1; cases e1; rw [hk] at hc; cases hc)]
  exact hk
end

/-- '[]byte(s)' makes a buffer. -/
theorem buf_converted (w : World) (e : TypeId) (s : ByteArray) (base : Nat) (hb : base ≤ w.heap.size) (hs : s.size ≤ maxLen) :
    Buf (w.drew.alloc (.cells (bytesRow s (grownCap w s.size 0 e)) e ((bytesRow s (grownCap w s.size 0 e)).size, (bytesRow s (grownCap w s.size 0 e)).size + 1))) base e
      (.slice (some ⟨w.heap.size, 0, none⟩) s.size (grownCap w s.size 0 e)) (byteCells s) := by
  have hge := grownCap_ge w s.size 0 e
  have hcm := grownCap_le_maxLen w s.size 0 e hs
  have hsz : (bytesRow s (grownCap w s.size 0 e)).size = grownCap w s.size 0 e := by
    unfold bytesRow
    simp only [Array.size_append, Array.size_map, Array.size_replicate]
    have : s.data.size = s.size := rfl
    omega
  refine ⟨w.heap.size, _, _, _, by rw [byteCells_length], hb, heap_alloc_new w.drew _, fun j hj => ?_, by rw [byteCells_length]; exact hge, hcm, hsz, ?_⟩
  · rw [hsz]; simp only; omega
  · unfold bytesRow byteCells
    simp only [Array.toList_append, Array.toList_map, List.length_map]
    exact List.take_left' (by simp)
end Go.Proofs.YtnlfmlamkkbjaaaFmt
