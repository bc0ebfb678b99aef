-- PRINTED BY print.sh 35421559b90ae4d0a3588c463048766b98c2df88dd9212a6774a882060cdf62d: not written by this session
import Derived.Test.YtnlfmlamkkbjaaaFmtPFnNamex0
import Derived.Test.YtnlfmlamkkbjaaaFmtPFnNamex1
import Derived.Test.YtnlfmlamkkbjaaaFmtPFnNamex2
namespace Go.Proofs.YtnlfmlamkkbjaaaFmt.PFnName
open Go.RowKit Go.Proofs.YtnlfmlamkkbjaaaFmtW.PrintWords Go.Proofs.YtnlfmlamkkbjaaaFmtW.PrintLast Go.Proofs.YtnlfmlamkkbjaaaFmtW.PrintMore
attribute [local go_sem] max2_int min2_int max_two min_two max_three min_three max_four min_four   -- for this text's walks alone
set_option linter.unusedVariables false
set_option linter.unusedSimpArgs false

/-! ### spec_Points: function 16 -/
def spec_Points.l0 : Nat → ByteArray → List Int → Option (List Int × Bool)
  | 0, _, _ => none
  | k + 1, x0, x4 => if x0.toList = ([] : List UInt8) then (some (x4, true)) else ((spec_Point.f k x0).bind fun bt101 => (if bt101.1 = (-1) then (some (([] : List Int), false)) else ((spec_isSurrogate.f bt101.1).bind fun t103 => (if t103 = true then (some (([] : List Int), false)) else (if x4.length < 17592186044416 then (if 0 ≤ bt101.2 then (if bt101.2 ≤ (x0.size : Int) then (spec_Points.l0 k (x0.extract (bt101.2 : Int).toNat x0.size) (x4 ++ [bt101.1])) else (none)) else (none)) else (none))))))
def spec_Points.f (k : Nat) (a0 : ByteArray) : Option (List Int × Bool) := spec_Points.l0 k a0 ([] : List Int)
theorem spec_Points.mono_l : ∀ k, (∀ y0 y1, LeO (spec_Points.l0 k y0 y1) (spec_Points.l0 (k + 1) y0 y1))
  | 0 => fun _ _ r h => by simp [spec_Points.l0] at h
  | k + 1 => by
    have ih0 := spec_Points.mono_l k
    · intro y0 y1
      unfold spec_Points.l0
      repeat' first
      | (with_reducible exact ih0 _ _)
      | (with_reducible exact spec_Point.mono _ _)
      | (with_reducible exact LeO.refl _)
      | (with_reducible exact LeO.none _)
      | (with_reducible refine LeO.ite ?_ ?_)
      | (with_reducible refine LeO.bind ?_ (fun _ => ?_))
      | exact ih0 _ _
      | exact spec_Point.mono _ _
      | exact LeO.none _
      | refine LeO.ite ?_ ?_
      | refine LeO.bind ?_ (fun _ => ?_)
theorem spec_Points.mono : ∀ a0 k, LeO (spec_Points.f k a0) (spec_Points.f (k + 1) a0) := by
  intro a0 k
  have ih0 := spec_Points.mono_l k
  unfold spec_Points.f
  repeat' first
      | (with_reducible exact ih0 _ _)
      | (with_reducible exact spec_Point.mono _ _)
      | (with_reducible exact LeO.refl _)
      | (with_reducible exact LeO.none _)
      | (with_reducible refine LeO.ite ?_ ?_)
      | (with_reducible refine LeO.bind ?_ (fun _ => ?_))
      | exact ih0 _ _
      | exact spec_Point.mono _ _
      | exact LeO.none _
      | refine LeO.ite ?_ ?_
      | refine LeO.bind ?_ (fun _ => ?_)
def spec_Points.T6 : Bool × List (List Nat × List Nat) := (true, [([], []), ([], []), ([1], [1]), ([0, 2], [0, 2]), ([], []), ([], []), ([4, 5], [4, 5]), ([3, 3, 0, 1, 2, 3], [0, 3]), ([6, 7, 0, 1, 2, 3, 4, 5, 6, 7], [4, 6])])
def spec_Points.B6 : List Nat := [0, 0, 2, 7, 0, 0, 48, 15, 255]
theorem spec_Points.tab6 : rtab .any (opsOf Tryf.f16 6) = spec_Points.T6 := by kernel_rfl
theorem spec_Points.bits6 : waitsOk spec_Points.T6.2 spec_Points.B6 = true := by kernel_rfl
set_option maxHeartbeats 8000000 in
set_option maxRecDepth 100000 in
theorem spec_Points.calls (k : Nat) (a0 : ByteArray) (r1 : List Int) (r2 : Bool) (w : World) (h : spec_Points.f k a0 = some (r1, r2)) :
    Calls Tryf.prog 16 #[.string a0] w fun e w' => ∃ v0_ : Value, e = .returned (.tuple #[v0_, .bool r2]) ∧ Kd.R (Kd.int .i64) 3 w' w.heap.size (fun _ => True) v0_ r1 ∧ Below w.heap.size w w' := by
  have HB := Aside0.mk (Below.refl w.heap.size w)
  have H : (spec_Points.l0 k a0 ([] : List Int)) = some (r1, r2) := h
  clear h
  have H' := Aside0.mk H
  clear H
  go_enter Tryf.func16, Tryf.ntmps16
  go_wp2
  go_loopg [0, 4] k (fun kq v0 v4 w' => ∃ (x0_1 : ByteArray) (x4_1 : List Int), v0 = .string x0_1 ∧ Aside0 (spec_Points.l0 kq x0_1 x4_1 = some (r1, r2)) ∧ Aside0 (kq ≤ k) ∧ Aside0 (Kd.R (Kd.int .i64) 3 w' w.heap.size (fun _ => True) v4 x4_1) ∧ Aside0 (Below w.heap.size w w'))
  case atStart => exact ⟨(a0), (([] : List Int)), (by first | rfl | (simp; done) | (simp [*]; done)), H', ⟨Nat.le_refl _⟩, ⟨by first | exact Kd.R_nil _ _ _ _ _ | exact Kd.N_nil _ _ _ _ _ | exact Kd.V_nil _ _ _ _ _ | exact Kd.Q_nil _ _ _ _ _ | exact Kd.S_nil _ _ _ _ _⟩, ⟨by repeat (first | (with_reducible first | exact HB.out | apply below_alloc | apply pw_below_drewN | apply below_drew1) | exact HB.out)⟩⟩
  case round =>
    clear H'
    try clear c1
    obtain ⟨x0_1, x4_1, rfl, HA, HK1, HO_4, HB⟩ := hrel
    cases gk with
    | zero => exact absurd HA.out (by simp [spec_Points.l0])
    | succ k1 =>
      have H := HA.out
      clear HA
      simp only [spec_Points.l0] at H
      by_cases c2 : x0_1.toList = ([] : List UInt8)
      · rw [if_pos c2] at H
        have c2b0 : (x0_1.toList == ([] : List UInt8)) = true := beq_iff_eq.mpr c2
        have c2b1 : (x0_1.toList != ([] : List UInt8)) = false := bne_eq_false_iff_eq.mpr c2
        clear c2
        simp only [Option.some.injEq, Prod.mk.injEq] at H
        obtain ⟨rfl, rfl⟩ := H
        go_wp2
        go_ret2
        exact ⟨_, by first | rfl | (simp [errW_none, errW_some] <;> rfl) | (simp [*, errW_none, errW_some] <;> rfl), by (with_reducible repeat (first | apply Kd.R_alloc | apply Kd.R_drewN | apply Kd.R_drew)); exact HO_4.out, by repeat (first | (with_reducible first | exact HB.out | apply below_alloc | apply pw_below_drewN | apply below_drew1) | exact HB.out)⟩
      · rw [if_neg c2] at H
        have c2b0 : (x0_1.toList == ([] : List UInt8)) = false := beq_eq_false_iff_ne.mpr c2
        have c2b1 : (x0_1.toList != ([] : List UInt8)) = true := bne_iff_ne.mpr c2
        replace H := Option.bind_eq_some_iff.mp H
        obtain ⟨⟨t101, t102⟩, A30, H⟩ := H
        replace H : (if t101 = (-1) then (some (([] : List Int), false)) else ((spec_isSurrogate.f t101).bind fun t103 => (if t103 = true then (some (([] : List Int), false)) else (if x4_1.length < 17592186044416 then (if 0 ≤ t102 then (if t102 ≤ (x0_1.size : Int) then (spec_Points.l0 k1 (x0_1.extract (t102 : Int).toNat x0_1.size) (x4_1 ++ [t101])) else (none)) else (none)) else (none))))) = some (r1, r2) := H
        have A3 := Aside0.mk A30
        clear A30
        by_cases c4 : t101 = (-1)
        · rw [if_pos c4] at H
          have c4b0 : (t101 == (-1)) = true := beq_iff_eq.mpr c4
          have c4b1 : (t101 != (-1)) = false := bne_eq_false_iff_eq.mpr c4
          clear c4
          simp only [Option.some.injEq, Prod.mk.injEq] at H
          obtain ⟨rfl, rfl⟩ := H
          go_wp2_with (first | ((with_reducible refine gate_callee (f := 22) rfl ?_); refine goesL_ (some 11) rfl rfl Tryf.func22 (by kernel_rfl) rfl #[.string x0_1] rfl (by (try simp only [List.map_toArray, List.map_cons, List.map_nil]); first | done | rfl | (simp only [List.length_drop, List.length_take]; rfl)) ?_; (with_reducible refine (spec_Point.calls k1 x0_1 t101 t102 _ A3.out).mono ?_); rintro e w' ⟨rfl, ⟨nd, rfl⟩⟩; refine ⟨_, rfl, ?_⟩))
          go_ret2
          exact ⟨_, by first | rfl | (simp [errW_none, errW_some] <;> rfl) | (simp [*, errW_none, errW_some] <;> rfl), by first | exact Kd.R_nil _ _ _ _ _ | exact Kd.N_nil _ _ _ _ _ | exact Kd.V_nil _ _ _ _ _ | exact Kd.Q_nil _ _ _ _ _ | exact Kd.S_nil _ _ _ _ _, by repeat (first | (with_reducible first | exact HB.out | apply below_alloc | apply pw_below_drewN | apply below_drew1) | exact HB.out)⟩
        · rw [if_neg c4] at H
          have c4b0 : (t101 == (-1)) = false := beq_eq_false_iff_ne.mpr c4
          have c4b1 : (t101 != (-1)) = true := bne_iff_ne.mpr c4
          replace H := Option.bind_eq_some_iff.mp H
          obtain ⟨t103, A50, H⟩ := H
          replace H : (if t103 = true then (some (([] : List Int), false)) else (if x4_1.length < 17592186044416 then (if 0 ≤ t102 then (if t102 ≤ (x0_1.size : Int) then (spec_Points.l0 k1 (x0_1.extract (t102 : Int).toNat x0_1.size) (x4_1 ++ [t101])) else (none)) else (none)) else (none))) = some (r1, r2) := H
          have A5 := Aside0.mk A50
          clear A50
          by_cases c6 : t103 = true
          · subst c6
            have H1 : (some (([] : List Int), false)) = some (r1, r2) := by rw [if_pos rfl] at H; exact H
            clear H
            have H := H1
            clear H1
            simp only [Option.some.injEq, Prod.mk.injEq] at H
            obtain ⟨rfl, rfl⟩ := H
            go_wp2_with (first | ((with_reducible refine gate_callee (f := 22) rfl ?_); refine goesL_ (some 11) rfl rfl Tryf.func22 (by kernel_rfl) rfl #[.string x0_1] rfl (by (try simp only [List.map_toArray, List.map_cons, List.map_nil]); first | done | rfl | (simp only [List.length_drop, List.length_take]; rfl)) ?_; (with_reducible refine (spec_Point.calls k1 x0_1 t101 t102 _ A3.out).mono ?_); rintro e w' ⟨rfl, ⟨nd, rfl⟩⟩; refine ⟨_, rfl, ?_⟩) | (go_at_call 23; (with_reducible refine (spec_isSurrogate.calls t101 true _ A5.out).mono ?_); rintro e w' ⟨rfl, ⟨nd, rfl⟩⟩))
            go_ret2
            exact ⟨_, by first | rfl | (simp [errW_none, errW_some] <;> rfl) | (simp [*, errW_none, errW_some] <;> rfl), by first | exact Kd.R_nil _ _ _ _ _ | exact Kd.N_nil _ _ _ _ _ | exact Kd.V_nil _ _ _ _ _ | exact Kd.Q_nil _ _ _ _ _ | exact Kd.S_nil _ _ _ _ _, by repeat (first | (with_reducible first | exact HB.out | apply below_alloc | apply pw_below_drewN | apply below_drew1) | exact HB.out)⟩
          · replace c6 := Bool.eq_false_iff.mpr c6
            subst c6
            have H1 : (if x4_1.length < 17592186044416 then (if 0 ≤ t102 then (if t102 ≤ (x0_1.size : Int) then (spec_Points.l0 k1 (x0_1.extract (t102 : Int).toNat x0_1.size) (x4_1 ++ [t101])) else (none)) else (none)) else (none)) = some (r1, r2) := by rw [if_neg (show ¬ (false = true) by decide)] at H; exact H
            clear H
            have H := H1
            clear H1
            by_cases c7 : x4_1.length < 17592186044416
            · rw [if_pos c7] at H
              have LMc7 := Aside0.mk c7
              clear c7
              obtain ⟨y104, hy104⟩ : ∃ y_ : List Int, y_ = (x4_1 ++ [t101]) := ⟨_, rfl⟩
              replace H : (if 0 ≤ t102 then (if t102 ≤ (x0_1.size : Int) then (spec_Points.l0 k1 (x0_1.extract (t102 : Int).toNat x0_1.size) y104) else (none)) else (none)) = some (r1, r2) := by first | (rw [hy104]; with_reducible exact H) | (have H2_ := (Option.bind_some _ _).symm.trans H; rw [hy104]; with_reducible exact H2_) | (have H2_ := (Option.bind_some _ _).symm.trans H; with_reducible exact H2_) | with_reducible exact H | (rw [hy104]; exact H) | exact H
              have Ny104 := Aside0.mk hy104
              clear hy104
              by_cases c8 : 0 ≤ t102
              · rw [if_pos c8] at H
                have c8b0 := eq_true c8
                have c8b1 : decide (0 ≤ t102) = true := decide_eq_true c8
                clear c8
                by_cases c9 : t102 ≤ (x0_1.size : Int)
                · rw [if_pos c9] at H
                  have c9b0 := eq_true c9
                  have c9b1 : decide (t102 ≤ (x0_1.size : Int)) = true := decide_eq_true c9
                  clear c9
                  have H' := Aside0.mk H
                  clear H
                  try go_wp2_with (first | ((with_reducible refine gate_callee (f := 22) rfl ?_); refine goesL_ (some 11) rfl rfl Tryf.func22 (by kernel_rfl) rfl #[.string x0_1] rfl (by (try simp only [List.map_toArray, List.map_cons, List.map_nil]); first | done | rfl | (simp only [List.length_drop, List.length_take]; rfl)) ?_; (with_reducible refine (spec_Point.calls k1 x0_1 t101 t102 _ A3.out).mono ?_); rintro e w' ⟨rfl, ⟨nd, rfl⟩⟩; refine ⟨_, rfl, ?_⟩) | (go_at_call 23; (with_reducible refine (spec_isSurrogate.calls t101 false _ A5.out).mono ?_); rintro e w' ⟨rfl, ⟨nd, rfl⟩⟩))
                  (try (rw [drewN_self wr]; generalize hq_ : World.drewN wr _ = wr; have n0_ : Aside0 (Kd.R (Kd.int .i64) 3 wr w.heap.size (fun _ => True) u4 x4_1) := ⟨by rw [← hq_]; exact (by (with_reducible repeat (first | apply Kd.R_alloc | apply Kd.R_drewN | apply Kd.R_drew)); exact HO_4.out)⟩; have n1_ : Aside0 (Below w.heap.size w wr) := ⟨by rw [← hq_]; exact (by repeat (first | (with_reducible first | exact HB.out | apply below_alloc | apply pw_below_drewN | apply below_drew1) | exact HB.out))⟩; clear HO_4 HB hq_; have HO_4 := n0_; have HB := n1_; clear n0_ n1_))
                  have n0_ := Aside0.mk (Kd.R_drew HO_4.out)
                  have n1_ := Aside0.mk (below_drew1 HB.out)
                  clear HO_4
                  clear HB
                  have HO_4 := n0_
                  have HB := n1_
                  clear n0_ n1_
                  refine start_ (n := 9) (S := fun w' => True) (ds := []) #[false, false, false, false, false, false, false, false, false] (by kernel_rfl) rfl rfl trivial (fun hHeld => ?_); refine with_tabW spec_Points.tab6 spec_Points.bits6 (fun HT_ HW_ => ?_)
                  generalize wr.drew = w10 at HO_4 HB hHeld ⊢
                  refine pure_ (i := 0) (N := some 20) (v := ?_) (a' := ?_) #[true, false, false, false, false, false, false, false, false] rfl rfl (any_of HT_.out (by kernel_rfl)) (fun _ _ _ h => h) (Or.inl ⟨by rfl, ?_⟩) ?_ ?_
                  rotate_left
                  · intro w'
                    go_simp
                    with_reducible rfl
                  rotate_left
                  · simp only [Act.put, List.setIfInBounds_toArray, List.set_cons_zero, List.set_cons_succ, i64_w, i32_w]
                    rfl
                  refine pure_ (i := 1) (N := some 21) (v := ?_) (a' := ?_) #[true, true, false, false, false, false, false, false, false] rfl rfl (any_of HT_.out (by kernel_rfl)) (fun _ _ _ h => h) (Or.inl ⟨by rfl, ?_⟩) ?_ ?_
                  rotate_left
                  · intro w'
                    go_simp
                    with_reducible rfl
                  rotate_left
                  · simp only [Act.put, List.setIfInBounds_toArray, List.set_cons_zero, List.set_cons_succ, i64_w, i32_w]
                    rfl
                  refine pure_ (i := 4) (N := some 24) (v := ?_) (a' := ?_) #[true, true, false, false, true, false, false, false, false] rfl rfl (any_of HT_.out (by kernel_rfl)) (fun _ _ _ h => h) (Or.inl ⟨by rfl, ?_⟩) ?_ ?_
                  rotate_left
                  · intro w'
                    go_simp
                    with_reducible rfl
                  rotate_left
                  · simp only [Act.put, List.setIfInBounds_toArray, List.set_cons_zero, List.set_cons_succ, i64_w, i32_w]
                    rfl
                  refine pure_ (i := 5) (N := some 25) (v := ?_) (a' := ?_) #[true, true, false, false, true, true, false, false, false] rfl rfl (any_of HT_.out (by kernel_rfl)) (fun _ _ _ h => h) (Or.inl ⟨by rfl, ?_⟩) ?_ ?_
                  rotate_left
                  · intro w'
                    go_simp
                    with_reducible rfl
                  rotate_left
                  · simp only [Act.put, List.setIfInBounds_toArray, List.set_cons_zero, List.set_cons_succ, i64_w, i32_w]
                    rfl
                  refine pure_ (i := 6) (N := some 26) (v := ?_) (a' := ?_) #[true, true, false, false, true, true, true, false, false] rfl rfl (any_of HT_.out (by kernel_rfl)) (fun _ _ _ h => h) (Or.inl ⟨by rfl, ?_⟩) ?_ ?_
                  rotate_left
                  · intro w'
                    go_simp
                    with_reducible rfl
                  rotate_left
                  · simp only [Act.put, List.setIfInBounds_toArray, List.set_cons_zero, List.set_cons_succ, i64_w, i32_w]
                    rfl
                  refine one_ (i := 2) (N := some 22) #[true, true, true, false, true, true, true, false, false] rfl rfl (one_of HT_.out (by kernel_rfl)) (by decide) (fun K hK => ?_)
                  refine value_ (w1 := ?_) (v := ?_) (by rfl) rfl ?_ ?_
                  rotate_left 2
                  · go_simp
                    constructor
                    · rfl
                    · rfl
                  refine hK.out _ _ trivial (fun hHeld => ?_)
                  clear hK K
                  refine norm_ (a' := ?_) ?_ ?_
                  rotate_left
                  · show Act.put _ (some 22) _ = _
                    simp only [Act.put, List.setIfInBounds_toArray, List.set_cons_zero, List.set_cons_succ, i64_w, i32_w]
                    rfl
                  refine one_ (i := 3) (N := some 23) #[true, true, true, true, true, true, true, false, false] rfl rfl (one_of HT_.out (by kernel_rfl)) (by decide) (fun K hK => ?_)
                  refine Kd.R_append_step (Kd.int .i64) (w0 := w) w.heap.size (by rfl) (.tmp 20) (.tmp 22) 40 3 (.int .i64 0) 8 rfl Tryf.underlying40 info3 rfl (by decide) (by omega) u4 x4_1 t101 [.int .i64 t101] (fun _ => True) (fun _ => False) rfl rfl ?aP (fun _ hk => hk.elim) ?aF ?aO ?aB ?aS ?aL ?_
                  (case aP => exact rfl)
                  (case aB => exact (by repeat (first | (with_reducible first | exact HB.out | apply below_alloc | apply pw_below_drewN | apply below_drew1) | exact HB.out)))
                  (case aF => exact (fun _ _ => trivial))
                  (case aO => exact (by (with_reducible repeat (first | apply Kd.R_alloc | apply Kd.R_drewN | apply Kd.R_drew)); exact HO_4.out))
                  (case aS => exact (below_size (by repeat (first | (with_reducible first | exact HB.out | apply below_alloc | apply pw_below_drewN | apply below_drew1) | exact HB.out))))
                  (case aL => have := LMc7.out; omega)
                  intro v105 w11 ho hb hg hat
                  rw [← Ny104.out] at ho
                  have n0_ := Aside0.mk (hb)
                  have n1_ := Aside0.mk (ho)
                  clear HB
                  clear HO_4
                  have HB := n0_
                  have HO106 := n1_
                  clear n0_ n1_
                  clear ho hb hg hat
                  refine hK.out _ _ trivial (fun hHeld => ?_)
                  clear hK K
                  refine norm_ (a' := ?_) ?_ ?_
                  rotate_left
                  · show Act.put _ (some 23) _ = _
                    simp only [Act.put, List.setIfInBounds_toArray, List.set_cons_zero, List.set_cons_succ, i64_w, i32_w]
                    rfl
                  refine pure_ (i := 7) (N := some 4) (v := ?_) (a' := ?_) #[true, true, true, true, true, true, true, true, false] rfl rfl (any_of HT_.out (by kernel_rfl)) (fun _ _ _ h => h) (Or.inl ⟨by rfl, ?_⟩) ?_ ?_
                  rotate_left
                  · intro w'
                    go_simp
                    with_reducible rfl
                  rotate_left
                  · simp only [Act.put, List.setIfInBounds_toArray, List.set_cons_zero, List.set_cons_succ, i64_w, i32_w]
                    rfl
                  refine pure_ (i := 8) (N := some 0) (v := ?_) (a' := ?_) #[true, true, true, true, true, true, true, true, true] rfl rfl (any_of HT_.out (by kernel_rfl)) (fun _ _ _ h => h) (Or.inl ⟨by rfl, ?_⟩) ?_ ?_
                  rotate_left
                  · intro w'
                    go_simp
                    with_reducible rfl
                  rotate_left
                  · simp only [Act.put, List.setIfInBounds_toArray, List.set_cons_zero, List.set_cons_succ, i64_w, i32_w]
                    rfl
                  refine done_ (done_of HT_.out (by kernel_rfl)) ?_
                  try go_wp2
                  go_roundg k1
                  case measure => have := HK1.out; omega
                  case rel => exact ⟨(x0_1.extract (t102 : Int).toNat x0_1.size), (y104), (by first | rfl | (simp; done) | (simp [*]; done)), H', ⟨by have := HK1.out; omega⟩, ⟨by (with_reducible repeat (first | apply Kd.R_alloc | apply Kd.R_drewN | apply Kd.R_drew)); exact HO106.out⟩, ⟨by repeat (first | (with_reducible first | exact HB.out | apply below_alloc | apply pw_below_drewN | apply below_drew1) | exact HB.out)⟩⟩
                · rw [if_neg c9] at H
                  exact absurd H (by simp)
              · rw [if_neg c8] at H
                exact absurd H (by simp)
            · rw [if_neg c7] at H
              exact absurd H (by simp)

/-! ### spec_Valid: function 12 -/
def spec_Valid.f (k : Nat) (a0 : ByteArray) : Option (Bool) := (spec_Points.f k a0).bind fun bt107 => (some bt107.2)
theorem spec_Valid.mono : ∀ a0 k, LeO (spec_Valid.f k a0) (spec_Valid.f (k + 1) a0) := by
  intro a0 k
  unfold spec_Valid.f
  repeat' first
      | (with_reducible exact spec_Points.mono _ _)
      | (with_reducible exact LeO.refl _)
      | (with_reducible exact LeO.none _)
      | (with_reducible refine LeO.ite ?_ ?_)
      | (with_reducible refine LeO.bind ?_ (fun _ => ?_))
      | exact spec_Points.mono _ _
      | exact LeO.none _
      | refine LeO.ite ?_ ?_
      | refine LeO.bind ?_ (fun _ => ?_)
set_option maxHeartbeats 8000000 in
set_option maxRecDepth 100000 in
theorem spec_Valid.calls (k : Nat) (a0 : ByteArray) (r : Bool) (w : World) (h : spec_Valid.f k a0 = some r) :
    Calls Tryf.prog 12 #[.string a0] w fun e w' => e = .returned (.bool r) ∧ Below w.heap.size w w' := by
  have HB := Aside0.mk (Below.refl w.heap.size w)
  have H : ((spec_Points.f k a0).bind fun bt107 => (some bt107.2)) = some r := h
  clear h
  replace H := Option.bind_eq_some_iff.mp H
  obtain ⟨⟨t107, t108⟩, A20, H⟩ := H
  replace H : (some t108) = some r := H
  have A2 := Aside0.mk A20
  clear A20
  obtain rfl := Option.some.inj H
  go_enter Tryf.func12, Tryf.ntmps12
  go_wp2_with (first | ((with_reducible refine gate_callee (f := 16) rfl ?_); refine goesL_ (some 7) rfl rfl Tryf.func16 (by kernel_rfl) rfl #[.string a0] rfl (by (try simp only [List.map_toArray, List.map_cons, List.map_nil]); first | done | rfl | (simp only [List.length_drop, List.length_take]; rfl)) ?_; (with_reducible refine (spec_Points.calls k a0 t107 t108 _ A2.out).mono ?_); rintro e w3 ⟨v109, rfl, ho0, hb⟩; refine ⟨_, rfl, ?_⟩; have n0_ := Aside0.mk (Kd.R_lower ho0 (below_size (by repeat (first | (with_reducible first | exact HB.out | apply below_alloc | apply pw_below_drewN | apply below_drew1) | exact HB.out)))); have n1_ := Aside0.mk (below_step (by repeat (first | (with_reducible first | exact HB.out | apply below_alloc | apply pw_below_drewN | apply below_drew1) | exact HB.out)) hb); clear HB; have HO110 := n0_; have HB := n1_; clear n0_ n1_; (try clear hb); (try clear hb2); (try clear hk); (try clear hi); (try clear ho0)))
  go_ret
  exact ⟨by first | rfl | (simp [errW_none, errW_some] <;> rfl) | (simp [*, errW_none, errW_some] <;> rfl), by repeat (first | (with_reducible first | exact HB.out | apply below_alloc | apply pw_below_drewN | apply below_drew1) | exact HB.out)⟩

/-! ### spec_IsNameLike: function 5 -/
def spec_IsNameLike.l0 : Nat → ByteArray → Int → Int → Option (Bool)
  | 0, _, _, _ => none
  | k + 1, x0, x5, x6 => if x6 < x5 then (if 0 ≤ x6 then (if x6 < (x0.size : Int) then (if (bt x0 x6) < 128 then ((spec_isWord.f (bt x0 x6)).bind fun t111 => (if t111 = true then (spec_IsNameLike.l0 k x0 x5 (wrap64 (x6 + 1))) else (some false))) else (spec_IsNameLike.l0 k x0 x5 (wrap64 (x6 + 1)))) else (none)) else (none)) else (if x0.toList = ([] : List UInt8) then (some false) else ((spec_Valid.f k x0).bind fun t112 => (some t112)))
def spec_IsNameLike.f (k : Nat) (a0 : ByteArray) : Option (Bool) := spec_IsNameLike.l0 k a0 (a0.size : Int) 0
theorem spec_IsNameLike.mono_l : ∀ k, (∀ y0 y1 y2, LeO (spec_IsNameLike.l0 k y0 y1 y2) (spec_IsNameLike.l0 (k + 1) y0 y1 y2))
  | 0 => fun _ _ _ r h => by simp [spec_IsNameLike.l0] at h
  | k + 1 => by
    have ih0 := spec_IsNameLike.mono_l k
    · intro y0 y1 y2
      unfold spec_IsNameLike.l0
      repeat' first
      | (with_reducible exact ih0 _ _ _)
      | (with_reducible exact spec_Valid.mono _ _)
      | (with_reducible exact LeO.refl _)
      | (with_reducible exact LeO.none _)
      | (with_reducible refine LeO.ite ?_ ?_)
      | (with_reducible refine LeO.bind ?_ (fun _ => ?_))
      | exact ih0 _ _ _
      | exact spec_Valid.mono _ _
      | exact LeO.none _
      | refine LeO.ite ?_ ?_
      | refine LeO.bind ?_ (fun _ => ?_)
theorem spec_IsNameLike.mono : ∀ a0 k, LeO (spec_IsNameLike.f k a0) (spec_IsNameLike.f (k + 1) a0) := by
  intro a0 k
  have ih0 := spec_IsNameLike.mono_l k
  unfold spec_IsNameLike.f
  repeat' first
      | (with_reducible exact ih0 _ _ _)
      | (with_reducible exact spec_Valid.mono _ _)
      | (with_reducible exact LeO.refl _)
      | (with_reducible exact LeO.none _)
      | (with_reducible refine LeO.ite ?_ ?_)
      | (with_reducible refine LeO.bind ?_ (fun _ => ?_))
      | exact ih0 _ _ _
      | exact spec_Valid.mono _ _
      | exact LeO.none _
      | refine LeO.ite ?_ ?_
      | refine LeO.bind ?_ (fun _ => ?_)
set_option maxHeartbeats 8000000 in
set_option maxRecDepth 100000 in
theorem spec_IsNameLike.calls (k : Nat) (a0 : ByteArray) (r : Bool) (w : World) (h : spec_IsNameLike.f k a0 = some r) :
    Calls Tryf.prog 5 #[.string a0] w fun e w' => e = .returned (.bool r) ∧ Below w.heap.size w w' := by
  have HB := Aside0.mk (Below.refl w.heap.size w)
  have H : (spec_IsNameLike.l0 k a0 (a0.size : Int) 0) = some r := h
  clear h
  have H' := Aside0.mk H
  clear H
  go_enter Tryf.func5, Tryf.ntmps5
  go_wp2
  go_loopg [6] k (fun kq v6 w' => ∃ (x6_1 : Int), v6 = .int .i64 x6_1 ∧ Aside0 (spec_IsNameLike.l0 kq a0 (a0.size : Int) x6_1 = some r) ∧ Aside0 (kq ≤ k) ∧ Aside0 (Below w.heap.size w w'))
  case atStart => exact ⟨(0), (by first | rfl | (simp; done) | (simp [*]; done)), H', ⟨Nat.le_refl _⟩, ⟨by repeat (first | (with_reducible first | exact HB.out | apply below_alloc | apply pw_below_drewN | apply below_drew1) | exact HB.out)⟩⟩
  case round =>
    clear H'
    obtain ⟨x6_1, rfl, HA, HK1, HB⟩ := hrel
    cases gk with
    | zero => exact absurd HA.out (by simp [spec_IsNameLike.l0])
    | succ k1 =>
      have H := HA.out
      clear HA
      simp only [spec_IsNameLike.l0] at H
      by_cases c2 : x6_1 < (a0.size : Int)
      · rw [if_pos c2] at H
        have c2b0 : decide (x6_1 < (a0.size : Int)) = true := decide_eq_true c2
        clear c2
        by_cases c3 : 0 ≤ x6_1
        · rw [if_pos c3] at H
          have c3b0 : decide (0 ≤ x6_1) = true := decide_eq_true c3
          clear c3
          by_cases c4 : x6_1 < (a0.size : Int)
          · rw [if_pos c4] at H
            have c4b0 : decide (x6_1 < (a0.size : Int)) = true := decide_eq_true c4
            clear c4
            by_cases c6 : (bt a0 x6_1) < 128
            · rw [if_pos c6] at H
              have c6b0 : decide ((bt a0 x6_1) < 128) = true := decide_eq_true c6
              clear c6
              replace H := Option.bind_eq_some_iff.mp H
              obtain ⟨t111, A80, H⟩ := H
              replace H : (if t111 = true then (spec_IsNameLike.l0 k1 a0 (a0.size : Int) (wrap64 (x6_1 + 1))) else (some false)) = some r := H
              have A8 := Aside0.mk A80
              clear A80
              by_cases c9 : t111 = true
              · subst c9
                have H1 : (spec_IsNameLike.l0 k1 a0 (a0.size : Int) (wrap64 (x6_1 + 1))) = some r := by rw [if_pos rfl] at H; exact H
                clear H
                have H := H1
                clear H1
                have H' := Aside0.mk H
                clear H
                have p5 : 0 ≤ (x6_1 : Int) := of_decide_eq_true (by first | (with_reducible assumption) | assumption)
                have q5 : x6_1 < (a0.size : Int) := of_decide_eq_true (by first | (with_reducible assumption) | assumption)
                have hx5 := bt_at a0 x6_1
                replace p5 := eq_true p5
                replace q5 := eq_true q5
                have p7 : 0 ≤ (x6_1 : Int) := of_decide_eq_true (by first | (with_reducible assumption) | assumption)
                have q7 : x6_1 < (a0.size : Int) := of_decide_eq_true (by first | (with_reducible assumption) | assumption)
                have hx7 := bt_at a0 x6_1
                replace p7 := eq_true p7
                replace q7 := eq_true q7
                go_wp2_with (first | (go_at_call 11; (with_reducible refine (spec_isWord.calls (bt a0 x6_1) true _ A8.out).mono ?_); rintro e w' ⟨rfl, ⟨nd, rfl⟩⟩))
                go_roundg k1
                case measure => have := HK1.out; omega
                case rel => exact ⟨(wrap64 (x6_1 + 1)), (by first | rfl | (simp; done) | (simp [*]; done)), H', ⟨by have := HK1.out; omega⟩, ⟨by repeat (first | (with_reducible first | exact HB.out | apply below_alloc | apply pw_below_drewN | apply below_drew1) | exact HB.out)⟩⟩
              · replace c9 := Bool.eq_false_iff.mpr c9
                subst c9
                have H1 : (some false) = some r := by rw [if_neg (show ¬ (false = true) by decide)] at H; exact H
                clear H
                have H := H1
                clear H1
                obtain rfl := Option.some.inj H
                have p5 : 0 ≤ (x6_1 : Int) := of_decide_eq_true (by first | (with_reducible assumption) | assumption)
                have q5 : x6_1 < (a0.size : Int) := of_decide_eq_true (by first | (with_reducible assumption) | assumption)
                have hx5 := bt_at a0 x6_1
                replace p5 := eq_true p5
                replace q5 := eq_true q5
                have p7 : 0 ≤ (x6_1 : Int) := of_decide_eq_true (by first | (with_reducible assumption) | assumption)
                have q7 : x6_1 < (a0.size : Int) := of_decide_eq_true (by first | (with_reducible assumption) | assumption)
                have hx7 := bt_at a0 x6_1
                replace p7 := eq_true p7
                replace q7 := eq_true q7
                go_wp2_with (first | (go_at_call 11; (with_reducible refine (spec_isWord.calls (bt a0 x6_1) false _ A8.out).mono ?_); rintro e w' ⟨rfl, ⟨nd, rfl⟩⟩))
                go_ret
                exact ⟨by first | rfl | (simp [errW_none, errW_some] <;> rfl) | (simp [*, errW_none, errW_some] <;> rfl), by repeat (first | (with_reducible first | exact HB.out | apply below_alloc | apply pw_below_drewN | apply below_drew1) | exact HB.out)⟩
            · rw [if_neg c6] at H
              have c6b0 : decide ((bt a0 x6_1) < 128) = false := decide_eq_false c6
              clear c6
              have H' := Aside0.mk H
              clear H
              have p5 : 0 ≤ (x6_1 : Int) := of_decide_eq_true (by first | (with_reducible assumption) | assumption)
              have q5 : x6_1 < (a0.size : Int) := of_decide_eq_true (by first | (with_reducible assumption) | assumption)
              have hx5 := bt_at a0 x6_1
              replace p5 := eq_true p5
              replace q5 := eq_true q5
              go_wp2
              go_roundg k1
              case measure => have := HK1.out; omega
              case rel => exact ⟨(wrap64 (x6_1 + 1)), (by first | rfl | (simp; done) | (simp [*]; done)), H', ⟨by have := HK1.out; omega⟩, ⟨by repeat (first | (with_reducible first | exact HB.out | apply below_alloc | apply pw_below_drewN | apply below_drew1) | exact HB.out)⟩⟩
          · rw [if_neg c4] at H
            exact absurd H (by simp)
        · rw [if_neg c3] at H
          exact absurd H (by simp)
      · rw [if_neg c2] at H
        have c2b0 : decide (x6_1 < (a0.size : Int)) = false := decide_eq_false c2
        clear c2
        by_cases c10 : a0.toList = ([] : List UInt8)
        · rw [if_pos c10] at H
          have c10b0 : (a0.toList == ([] : List UInt8)) = true := beq_iff_eq.mpr c10
          have c10b1 : (a0.toList != ([] : List UInt8)) = false := bne_eq_false_iff_eq.mpr c10
          clear c10
          obtain rfl := Option.some.inj H
          go_wp2
          go_ret
          exact ⟨by first | rfl | (simp [errW_none, errW_some] <;> rfl) | (simp [*, errW_none, errW_some] <;> rfl), by repeat (first | (with_reducible first | exact HB.out | apply below_alloc | apply pw_below_drewN | apply below_drew1) | exact HB.out)⟩
        · rw [if_neg c10] at H
          have c10b0 : (a0.toList == ([] : List UInt8)) = false := beq_eq_false_iff_ne.mpr c10
          have c10b1 : (a0.toList != ([] : List UInt8)) = true := bne_iff_ne.mpr c10
          replace H := Option.bind_eq_some_iff.mp H
          obtain ⟨t112, A110, H⟩ := H
          replace H : (some t112) = some r := H
          have A11 := Aside0.mk A110
          clear A110
          obtain rfl := Option.some.inj H
          go_wp2_with (first | (go_at_call 12; (with_reducible refine (spec_Valid.calls k1 a0 t112 _ A11.out).mono ?_); rintro e w12 ⟨rfl, hb⟩; have n0_ := Aside0.mk (below_step (by repeat (first | (with_reducible first | exact HB.out | apply below_alloc | apply pw_below_drewN | apply below_drew1) | exact HB.out)) hb); clear HB; have HB := n0_; clear n0_; (try clear hb); (try clear hb2); (try clear hk); (try clear hi)))
          go_ret
          exact ⟨by first | rfl | (simp [errW_none, errW_some] <;> rfl) | (simp [*, errW_none, errW_some] <;> rfl), by repeat (first | (with_reducible first | exact HB.out | apply below_alloc | apply pw_below_drewN | apply below_drew1) | exact HB.out)⟩

/-! ### compat_JSFeature_Has: function 17 -/
def compat_JSFeature_Has.f (a0 : Int) (a1 : Int) : Option (Bool) := some ((Go.bits .and .u64 a0 a1) != 0)
set_option maxHeartbeats 8000000 in
set_option maxRecDepth 100000 in
theorem compat_JSFeature_Has.calls (a0 : Int) (a1 : Int) (r : Bool) (w : World) (h : compat_JSFeature_Has.f a0 a1 = some r) :
    Calls Tryf.prog 17 #[.int .u64 a0, .int .u64 a1] w fun e w' => e = .returned (.bool r) ∧ Drawn0 w w' := by
  have H : (some ((Go.bits .and .u64 a0 a1) != 0)) = some r := h
  clear h
  obtain rfl := Option.some.inj H
  go_enter Tryf.func17, Tryf.ntmps17
  go_wp2
  go_ret
  exact ⟨by first | rfl | (simp; done) | (simp [*]; done), by repeat (first | exact Drawn0.refl _ | apply Drawn0.step)⟩

-- NOT PRINTED: function 18 (fmt_Sprintf)

-- NOT PRINTED: function 13 (js_printer_QuoteIdentifier)

-- NOT PRINTED: function 6 (impl_QuoteName)

end Go.Proofs.YtnlfmlamkkbjaaaFmt.PFnName
