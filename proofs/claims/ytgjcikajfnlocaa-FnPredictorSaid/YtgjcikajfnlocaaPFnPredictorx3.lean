-- PRINTED BY print.sh 35421559b90ae4d0a3588c463048766b98c2df88dd9212a6774a882060cdf62d: not written by this session
import Derived.Test.YtgjcikajfnlocaaPFnPredictorx0
import Derived.Test.YtgjcikajfnlocaaPFnPredictorx1
import Derived.Test.YtgjcikajfnlocaaPFnPredictorx2
namespace Go.Proofs.Ytgjcikajfnlocaa.PFnPredictor
open Go.RowKit Go.Proofs.YtgjcikajfnlocaaW.PrintWords Go.Proofs.YtgjcikajfnlocaaW.PrintLast Go.Proofs.YtgjcikajfnlocaaW.PrintMore
attribute [local go_sem] max2_int min2_int max_two min_two max_three min_three max_four min_four   -- for this text's walks alone
set_option linter.unusedVariables false
set_option linter.unusedSimpArgs false

/-! ### spec_unpredicted: function 24 -/
def spec_unpredicted.l0 : Nat → List Int → Int → List Int → Int → Int → Int → Int → List Int → Option (List Int)
  | 0, _, _, _, _, _, _, _, _ => none
  | k + 1, x0, x1, x7, x8, x9, x251000, x251001, x251002 => if x9 < (x0.length : Int) then (if x1 = 0 then (none) else (if x9 = 0 then (if 0 ≤ x9 then ((spec_added.f k (rd x0 x9) 4278190080).bind fun t253 => (if x7.length < 35184372088832 then (spec_unpredicted.l0 k x0 x1 (x7 ++ [t253]) x8 (wrap64 (x9 + 1)) x251000 x251001 x251002) else (none))) else (none)) else (if (wrap64 (Int.tdiv x9 x1)) = 0 then (if 0 ≤ (wrap64 (x9 - 1)) then (if (wrap64 (x9 - 1)) < (x7.length : Int) then (if 0 ≤ x9 then ((spec_added.f k (rd x0 x9) (rd x7 (wrap64 (x9 - 1)))).bind fun t259 => (if x7.length < 35184372088832 then (spec_unpredicted.l0 k x0 x1 (x7 ++ [t259]) x8 (wrap64 (x9 + 1)) x251000 x251001 x251002) else (none))) else (none)) else (none)) else (none)) else (if (Int.tmod x9 x1) = 0 then (if 0 ≤ (wrap64 (x9 - x1)) then (if (wrap64 (x9 - x1)) < (x7.length : Int) then (if 0 ≤ x9 then ((spec_added.f k (rd x0 x9) (rd x7 (wrap64 (x9 - x1)))).bind fun t265 => (if x7.length < 35184372088832 then (spec_unpredicted.l0 k x0 x1 (x7 ++ [t265]) x8 (wrap64 (x9 + 1)) x251000 x251001 x251002) else (none))) else (none)) else (none)) else (none)) else (if 0 ≤ x251001 then (if 0 ≤ (wrap64 ((wrap64 ((shr .i64 (wrap64 (Int.tdiv x9 x1)) x251001) * x8)) + (shr .i64 (Int.tmod x9 x1) x251001))) then (if (wrap64 ((wrap64 ((shr .i64 (wrap64 (Int.tdiv x9 x1)) x251001) * x8)) + (shr .i64 (Int.tmod x9 x1) x251001))) < (x251002.length : Int) then ((spec_part.f (rd x251002 (wrap64 ((wrap64 ((shr .i64 (wrap64 (Int.tdiv x9 x1)) x251001) * x8)) + (shr .i64 (Int.tmod x9 x1) x251001)))) 1).bind fun t270 => (if 0 ≤ (wrap64 (x9 - 1)) then (if (wrap64 (x9 - 1)) < (x7.length : Int) then (if 0 ≤ (wrap64 (x9 - x1)) then (if (wrap64 (x9 - x1)) < (x7.length : Int) then (if 0 ≤ (wrap64 ((wrap64 (x9 - x1)) + 1)) then (if (wrap64 ((wrap64 (x9 - x1)) + 1)) < (x7.length : Int) then (if 0 ≤ (wrap64 ((wrap64 (x9 - x1)) - 1)) then (if (wrap64 ((wrap64 (x9 - x1)) - 1)) < (x7.length : Int) then ((spec_foretold.f k t270 (rd x7 (wrap64 (x9 - 1))) (rd x7 (wrap64 (x9 - x1))) (rd x7 (wrap64 ((wrap64 (x9 - x1)) + 1))) (rd x7 (wrap64 ((wrap64 (x9 - x1)) - 1)))).bind fun t275 => (if 0 ≤ x9 then ((spec_added.f k (rd x0 x9) t275).bind fun t277 => (if x7.length < 35184372088832 then (spec_unpredicted.l0 k x0 x1 (x7 ++ [t277]) x8 (wrap64 (x9 + 1)) x251000 x251001 x251002) else (none))) else (none))) else (none)) else (none)) else (none)) else (none)) else (none)) else (none)) else (none)) else (none))) else (none)) else (none)) else (none)))))) else (some x7)
def spec_unpredicted.f (k : Nat) (l0 : List Int) (a1 : Int) (a2_0 : Int) (a2_1 : Int) (l2_2 : List Int) : Option (List Int) := (spec_rounded.f a1 a2_1).bind fun t251 => (spec_unpredicted.l0 k l0 a1 ([] : List Int) t251 0 a2_0 a2_1 l2_2)
theorem spec_unpredicted.mono_l : ∀ k, (∀ y0 y1 y2 y3 y4 y5 y6 y7, LeO (spec_unpredicted.l0 k y0 y1 y2 y3 y4 y5 y6 y7) (spec_unpredicted.l0 (k + 1) y0 y1 y2 y3 y4 y5 y6 y7))
  | 0 => fun _ _ _ _ _ _ _ _ r h => by simp [spec_unpredicted.l0] at h
  | k + 1 => by
    have ih0 := spec_unpredicted.mono_l k
    · intro y0 y1 y2 y3 y4 y5 y6 y7
      unfold spec_unpredicted.l0
      repeat' first
      | (with_reducible exact ih0 _ _ _ _ _ _ _ _)
      | (with_reducible exact spec_added.mono _ _ _)
      | (with_reducible exact spec_foretold.mono _ _ _ _ _ _)
      | (with_reducible exact LeO.refl _)
      | (with_reducible exact LeO.none _)
      | (with_reducible refine LeO.ite ?_ ?_)
      | (with_reducible refine LeO.bind ?_ (fun _ => ?_))
      | exact ih0 _ _ _ _ _ _ _ _
      | exact spec_added.mono _ _ _
      | exact spec_foretold.mono _ _ _ _ _ _
      | exact LeO.none _
      | refine LeO.ite ?_ ?_
      | refine LeO.bind ?_ (fun _ => ?_)
theorem spec_unpredicted.mono : ∀ a0 a1 a2 a3 a4 k, LeO (spec_unpredicted.f k a0 a1 a2 a3 a4) (spec_unpredicted.f (k + 1) a0 a1 a2 a3 a4) := by
  intro a0 a1 a2 a3 a4 k
  have ih0 := spec_unpredicted.mono_l k
  unfold spec_unpredicted.f
  repeat' first
      | (with_reducible exact ih0 _ _ _ _ _ _ _ _)
      | (with_reducible exact spec_added.mono _ _ _)
      | (with_reducible exact spec_foretold.mono _ _ _ _ _ _)
      | (with_reducible exact LeO.refl _)
      | (with_reducible exact LeO.none _)
      | (with_reducible refine LeO.ite ?_ ?_)
      | (with_reducible refine LeO.bind ?_ (fun _ => ?_))
      | exact ih0 _ _ _ _ _ _ _ _
      | exact spec_added.mono _ _ _
      | exact spec_foretold.mono _ _ _ _ _ _
      | exact LeO.none _
      | refine LeO.ite ?_ ?_
      | refine LeO.bind ?_ (fun _ => ?_)
def spec_unpredicted.T6 : Bool × List (List Nat × List Nat) := (true, [([], []), ([], []), ([0, 1], [0, 1]), ([], []), ([], []), ([3, 4], [3, 4]), ([2, 0, 1, 2], [2]), ([5, 6, 0, 1, 2, 3, 4, 5, 6], [5])])
def spec_unpredicted.B6 : List Nat := [0, 0, 3, 0, 0, 24, 7, 127]
theorem spec_unpredicted.tab6 : rtab .any (opsOf Try.f24 6) = spec_unpredicted.T6 := by kernel_rfl
theorem spec_unpredicted.bits6 : waitsOk spec_unpredicted.T6.2 spec_unpredicted.B6 = true := by kernel_rfl
def spec_unpredicted.T8 : Bool × List (List Nat × List Nat) := (true, [([], []), ([0], [0]), ([], []), ([], []), ([3], [3]), ([2, 4], [2, 4]), ([], []), ([5, 6], [5, 6]), ([], []), ([], []), ([9], [9]), ([8, 10], [8, 10]), ([7, 11], [7, 11]), ([1, 12], [1, 12]), ([13], [13]), ([14], [14]), ([15, 15, 0, 1, 2, 3, 4, 5, 6, 7, 8, 9, 10, 11, 12, 13, 14, 15], [15])])
def spec_unpredicted.B8 : List Nat := [0, 1, 0, 0, 8, 28, 0, 124, 0, 0, 512, 1792, 4092, 8191, 16383, 32767, 65535]
theorem spec_unpredicted.tab8 : rtab .any (opsOf Try.f24 8) = spec_unpredicted.T8 := by kernel_rfl
theorem spec_unpredicted.bits8 : waitsOk spec_unpredicted.T8.2 spec_unpredicted.B8 = true := by kernel_rfl
def spec_unpredicted.T9 : Bool × List (List Nat × List Nat) := (true, [([], []), ([], []), ([], []), ([2], [2]), ([1, 3], [1, 3]), ([4], [4]), ([], []), ([], []), ([], []), ([7, 8], [7, 8]), ([6, 9], [6, 9]), ([10], [10]), ([], []), ([], []), ([], []), ([13, 14], [13, 14]), ([15], [15]), ([12, 16], [12, 16]), ([17], [17]), ([], []), ([], []), ([], []), ([20, 21], [20, 21]), ([22], [22]), ([19, 23], [19, 23]), ([24], [24]), ([0, 5, 11, 18, 25], [0, 5, 11, 18, 25]), ([26, 26, 0, 1, 2, 3, 4, 5, 6, 7, 8, 9, 10, 11, 12, 13, 14, 15, 16, 17, 18, 19, 20, 21, 22, 23, 24, 25, 26], [26])])
def spec_unpredicted.B9 : List Nat := [0, 0, 0, 4, 14, 30, 0, 0, 0, 384, 960, 1984, 0, 0, 0, 24576, 57344, 126976, 258048, 0, 0, 0, 3145728, 7340032, 16252928, 33030144, 67108863, 134217727]
theorem spec_unpredicted.tab9 : rtab .any (opsOf Try.f24 9) = spec_unpredicted.T9 := by kernel_rfl
theorem spec_unpredicted.bits9 : waitsOk spec_unpredicted.T9.2 spec_unpredicted.B9 = true := by kernel_rfl
set_option maxHeartbeats 8000000 in
set_option maxRecDepth 100000 in
theorem spec_unpredicted.calls (k : Nat) (A0 : Option Addr) (c0 : Nat) (l0 : List Int) (a1 : Int) (a2_0 : Int) (a2_1 : Int) (A2_2 : Option Addr) (c2_2 : Nat) (l2_2 : List Int) (r : List Int) (w : World) (hr0 : Kd.C (Kd.int .u32) w A0 l0.length l0) (hc0 : l0.length ≤ c0) (hr2_2 : Kd.C (Kd.int .u32) w A2_2 l2_2.length l2_2) (hc2_2 : l2_2.length ≤ c2_2) (h : spec_unpredicted.f k l0 a1 a2_0 a2_1 l2_2 = some r) :
    Calls Try.prog 24 #[.slice A0 l0.length c0, .int .i64 a1, .agg #[.int .i64 a2_0, .int .i64 a2_1, .slice A2_2 l2_2.length c2_2]] w fun e w' => ∃ v0_ : Value, e = .returned (v0_) ∧ Kd.R (Kd.int .u32) 38 w' w.heap.size (fun _ => True) v0_ r ∧ Below w.heap.size w w' := by
  have hu47 := Try.underlying47
  have HR0 := Aside0.mk hr0
  have HC0 := Aside0.mk hc0
  clear hr0 hc0
  have HR2_2 := Aside0.mk hr2_2
  have HC2_2 := Aside0.mk hc2_2
  clear hr2_2 hc2_2
  have HB := Aside0.mk (Below.refl w.heap.size w)
  have H : ((spec_rounded.f a1 a2_1).bind fun t251 => (spec_unpredicted.l0 k l0 a1 ([] : List Int) t251 0 a2_0 a2_1 l2_2)) = some r := h
  clear h
  replace H := Option.bind_eq_some_iff.mp H
  obtain ⟨t251, A40, H⟩ := H
  replace H : (spec_unpredicted.l0 k l0 a1 ([] : List Int) t251 0 a2_0 a2_1 l2_2) = some r := H
  have A4 := Aside0.mk A40
  clear A40
  have H' := Aside0.mk H
  clear H
  go_enter Try.func24, Try.ntmps24
  go_wp2_with (first | ((with_reducible refine gate_dst (N := 5) rfl ?_); refine box_event ?hg (N := 5) ?hd (cs := #[.int .i64 a2_0, .int .i64 a2_1, .slice A2_2 l2_2.length c2_2]) (t := 47) ?hr ?_; (case hd => rfl); (case hg => rfl); (case hr => first | (go_simp; done) | (go_simp; rfl)); intro gb250 hg w5 hbox hb; have n0_ := Aside0.mk (below_step (by repeat (first | (with_reducible first | exact HB.out | apply below_alloc | apply pw_below_drewN | apply below_drew1) | exact HB.out)) hb); have n1_ := Aside0.mk (hbox); have n2_ := Aside0.mk ((by rw [hg]; exact (below_size (by repeat (first | (with_reducible first | exact HB.out | apply below_alloc | apply pw_below_drewN | apply below_drew1) | exact HB.out))) : w.heap.size ≤ gb250)); have n3_ := Aside0.mk ((by rw [hg]; exact (below_size (by repeat (first | (with_reducible first | exact HB.out | apply below_alloc | apply pw_below_drewN | apply below_drew1) | exact HB.out))) : w.heap.size ≤ gb250)); clear HB; have HB := n0_; have BK250 := n1_; have GW250 := n2_; have GE250 := n3_; clear n0_ n1_ n2_ n3_; clear hb hbox hg; have hcz6_0 : w5.cell? ⟨gb250, 0, none⟩ = some (.int .i64 a2_0) := (blk_cell BK250.out 0).trans rfl; have hcz6_1 : w5.cell? ⟨gb250, 1, none⟩ = some (.int .i64 a2_1) := (blk_cell BK250.out 1).trans rfl; have hcz6_2 : w5.cell? ⟨gb250, 2, none⟩ = some (.slice A2_2 l2_2.length c2_2) := (blk_cell BK250.out 2).trans rfl; have hfz6_0 := blk_frozen BK250.out 0; have hfz6_1 := blk_frozen BK250.out 1; have hfz6_2 := blk_frozen BK250.out 2) | ((with_reducible refine gate_callee (f := 33) rfl ?_); refine goesL_ (some 17) rfl rfl Try.func33 (by kernel_rfl) rfl #[.int .i64 a1, .int .i64 a2_1] rfl (by (try simp only [List.map_toArray, List.map_cons, List.map_nil]); first | done | rfl | (simp only [List.length_drop, List.length_take]; rfl)) ?_; (with_reducible refine (spec_rounded.calls a1 a2_1 t251 _ A4.out).mono ?_); rintro e w' ⟨rfl, ⟨nd, rfl⟩⟩; refine ⟨_, rfl, ?_⟩))
  go_loopg [7, 9] k (fun kq v7 v9 w' => ∃ (x7_1 : List Int) (x9_1 : Int), v9 = .int .i64 x9_1 ∧ Aside0 (spec_unpredicted.l0 kq l0 a1 x7_1 t251 x9_1 a2_0 a2_1 l2_2 = some r) ∧ Aside0 (kq ≤ k) ∧ Aside0 (Kd.R (Kd.int .u32) 38 w' w.heap.size (fun _ => True) v7 x7_1) ∧ Aside0 (w'.heap[gb250]? = some (.cells #[.int .i64 a2_0, .int .i64 a2_1, (.slice A2_2 l2_2.length c2_2)] 47 (0, 0))) ∧ Aside0 (Below w.heap.size w w'))
  case atStart => exact ⟨(([] : List Int)), (0), (by first | rfl | (simp; done) | (simp [*]; done)), H', ⟨Nat.le_refl _⟩, ⟨by first | exact Kd.R_nil _ _ _ _ _ | exact Kd.N_nil _ _ _ _ _ | exact Kd.V_nil _ _ _ _ _ | exact Kd.Q_nil _ _ _ _ _ | exact Kd.S_nil _ _ _ _ _⟩, ⟨by (with_reducible repeat (first | refine blk_drewN ?_ _ | refine blk_drew ?_ | refine blk_alloc ?_ _)); exact BK250.out⟩, ⟨by repeat (first | (with_reducible first | exact HB.out | apply below_alloc | apply pw_below_drewN | apply below_drew1 | refine below_set ?_ GE250.out) | exact HB.out)⟩⟩
  case round =>
    clear H'
    try clear c2
    try clear p2
    try clear c3
    try clear hcz6_0
    try clear hcz6_1
    try clear hcz6_2
    try clear hfz6_0
    try clear hfz6_1
    try clear hfz6_2
    obtain ⟨x7_1, x9_1, rfl, HA, HK1, HO_7, BK250, HB⟩ := hrel
    cases gk with
    | zero => exact absurd HA.out (by simp [spec_unpredicted.l0])
    | succ k1 =>
      have H := HA.out
      clear HA
      simp only [spec_unpredicted.l0] at H
      by_cases c7 : x9_1 < (l0.length : Int)
      · rw [if_pos c7] at H
        have c7b0 : decide (x9_1 < (l0.length : Int)) = true := decide_eq_true c7
        clear c7
        by_cases c8 : a1 = 0
        · rw [if_pos c8] at H
          exact absurd H (by simp)
        · rw [if_neg c8] at H
          have c8b0 : (a1 == 0) = false := beq_eq_false_iff_ne.mpr c8
          have c8b1 : (a1 != 0) = true := bne_iff_ne.mpr c8
          by_cases c9 : x9_1 = 0
          · rw [if_pos c9] at H
            have c9b0 : (x9_1 == 0) = true := beq_iff_eq.mpr c9
            have c9b1 : (x9_1 != 0) = false := bne_eq_false_iff_eq.mpr c9
            clear c9
            by_cases c10 : 0 ≤ x9_1
            · rw [if_pos c10] at H
              have c10b0 : decide (0 ≤ x9_1) = true := decide_eq_true c10
              clear c10
              replace H := Option.bind_eq_some_iff.mp H
              obtain ⟨t253, A110, H⟩ := H
              replace H : (if x7_1.length < 35184372088832 then (spec_unpredicted.l0 k1 l0 a1 (x7_1 ++ [t253]) t251 (wrap64 (x9_1 + 1)) a2_0 a2_1 l2_2) else (none)) = some r := H
              have A11 := Aside0.mk A110
              clear A110
              by_cases c12 : x7_1.length < 35184372088832
              · rw [if_pos c12] at H
                have LMc12 := Aside0.mk c12
                clear c12
                obtain ⟨y254, hy254⟩ : ∃ y_ : List Int, y_ = (x7_1 ++ [t253]) := ⟨_, rfl⟩
                replace H : (spec_unpredicted.l0 k1 l0 a1 y254 t251 (wrap64 (x9_1 + 1)) a2_0 a2_1 l2_2) = some r := by first | (rw [hy254]; with_reducible exact H) | (have H2_ := (Option.bind_some _ _).symm.trans H; rw [hy254]; with_reducible exact H2_) | (have H2_ := (Option.bind_some _ _).symm.trans H; with_reducible exact H2_) | with_reducible exact H | (rw [hy254]; exact H) | exact H
                have Ny254 := Aside0.mk hy254
                clear hy254
                have H' := Aside0.mk H
                clear H
                try go_wp2
                have n0_ := Aside0.mk (Kd.R_drew HO_7.out)
                have n1_ := Aside0.mk (blk_drew BK250.out)
                have n2_ := Aside0.mk (below_drew1 HB.out)
                clear HO_7
                clear BK250
                clear HB
                have HO_7 := n0_
                have BK250 := n1_
                have HB := n2_
                clear n0_ n1_ n2_
                refine start_ (n := 8) (S := fun w' => True) (ds := []) #[false, false, false, false, false, false, false, false] (by kernel_rfl) rfl rfl trivial (fun hHeld => ?_); refine with_tabW spec_unpredicted.tab6 spec_unpredicted.bits6 (fun HT_ HW_ => ?_)
                generalize wr.drew = w13 at HO_7 BK250 HB hHeld ⊢
                refine pure_ (i := 0) (N := some 24) (v := ?_) (a' := ?_) #[true, false, false, false, false, false, false, false] rfl rfl (any_of HT_.out (by kernel_rfl)) (fun _ _ _ h => h) (Or.inl ⟨by rfl, ?_⟩) ?_ ?_
                rotate_left
                · intro w'
                  go_simp
                  with_reducible rfl
                rotate_left
                · simp only [Act.put, List.setIfInBounds_toArray, List.set_cons_zero, List.set_cons_succ, i64_w, i32_w]
                  rfl
                refine pure_ (i := 1) (N := some 25) (v := ?_) (a' := ?_) #[true, true, false, false, false, false, false, false] rfl rfl (any_of HT_.out (by kernel_rfl)) (fun _ _ _ h => h) (Or.inl ⟨by rfl, ?_⟩) ?_ ?_
                rotate_left
                · intro w'
                  go_simp
                  with_reducible rfl
                rotate_left
                · simp only [Act.put, List.setIfInBounds_toArray, List.set_cons_zero, List.set_cons_succ, i64_w, i32_w]
                  rfl
                refine pure_ (i := 2) (N := some 26) (v := ?_) (a' := ?_) #[true, true, true, false, false, false, false, false] rfl rfl (any_of HT_.out (by kernel_rfl)) (fun _ _ _ h => h) (Or.inl ⟨by rfl, ?_⟩) ?_ ?_
                rotate_left
                · intro w'
                  go_simp
                  with_reducible rfl
                rotate_left
                · simp only [Act.put, List.setIfInBounds_toArray, List.set_cons_zero, List.set_cons_succ, i64_w, i32_w]
                  rfl
                refine pure_ (i := 3) (N := some 27) (v := ?_) (a' := ?_) #[true, true, true, true, false, false, false, false] rfl rfl (any_of HT_.out (by kernel_rfl)) (fun _ _ _ h => h) (Or.inl ⟨by rfl, ?_⟩) ?_ ?_
                rotate_left
                · intro w'
                  go_simp
                  with_reducible rfl
                rotate_left
                · simp only [Act.put, List.setIfInBounds_toArray, List.set_cons_zero, List.set_cons_succ, i64_w, i32_w]
                  rfl
                refine pure_ (i := 4) (N := some 28) (v := ?_) (a' := ?_) #[true, true, true, true, true, false, false, false] rfl rfl (any_of HT_.out (by kernel_rfl)) (fun _ _ _ h => h) (Or.inl ⟨by rfl, ?_⟩) ?_ ?_
                rotate_left
                · intro w'
                  go_simp
                  with_reducible rfl
                rotate_left
                · simp only [Act.put, List.setIfInBounds_toArray, List.set_cons_zero, List.set_cons_succ, i64_w, i32_w]
                  rfl
                refine pure_ (i := 5) (N := some 29) (v := ?_) (a' := ?_) #[true, true, true, true, true, true, false, false] rfl rfl (any_of HT_.out (by kernel_rfl)) (fun _ _ _ h => h) (Or.inl ⟨by rfl, ?_⟩) ?_ ?_
                rotate_left
                · intro w'
                  go_simp
                  with_reducible rfl
                rotate_left
                · simp only [Act.put, List.setIfInBounds_toArray, List.set_cons_zero, List.set_cons_succ, i64_w, i32_w]
                  rfl
                refine pure_ (i := 6) (N := some 10) (v := ?_) (a' := ?_) #[true, true, true, true, true, true, true, false] rfl rfl (any_of HT_.out (by kernel_rfl)) (fun _ _ _ h => h) (Or.inl ⟨by rfl, ?_⟩) ?_ ?_
                rotate_left
                · intro w'
                  go_simp
                  with_reducible rfl
                rotate_left
                · simp only [Act.put, List.setIfInBounds_toArray, List.set_cons_zero, List.set_cons_succ, i64_w, i32_w]
                  rfl
                refine pure_ (i := 7) (N := some 11) (v := ?_) (a' := ?_) #[true, true, true, true, true, true, true, true] rfl rfl (any_of HT_.out (by kernel_rfl)) (fun _ _ _ h => h) (Or.inl ⟨by rfl, ?_⟩) ?_ ?_
                rotate_left
                · intro w'
                  go_simp
                  with_reducible rfl
                rotate_left
                · simp only [Act.put, List.setIfInBounds_toArray, List.set_cons_zero, List.set_cons_succ, i64_w, i32_w]
                  rfl
                refine done_ (done_of HT_.out (by kernel_rfl)) ?_
                have p252 : 0 ≤ (x9_1 : Int) := of_decide_eq_true (by first | (with_reducible assumption) | assumption)
                have q252 : x9_1 < (l0.length : Int) := of_decide_eq_true (by first | (with_reducible assumption) | assumption)
                obtain ⟨ad252, e252, hx252_0⟩ := Kd.at_int HR0.out x9_1 p252 q252
                cases e252
                replace hx252_0 := (HB.out.cell (World.block_lt_of_cell? w _ hx252_0)).trans hx252_0
                replace p252 := eq_true p252
                replace q252 := eq_true q252
                try go_wp2_with (first | ((with_reducible refine gate_callee (f := 36) rfl ?_); refine goesL_ (some 99) rfl rfl Try.func36 (by kernel_rfl) rfl #[.int .u32 (rd l0 x9_1), .int .u32 4278190080] rfl (by (try simp only [List.map_toArray, List.map_cons, List.map_nil]); first | done | rfl | (simp only [List.length_drop, List.length_take]; rfl)) ?_; (with_reducible refine (spec_added.calls k1 (rd l0 x9_1) 4278190080 t253 _ A11.out).mono ?_); rintro e w' ⟨rfl, ⟨nd, rfl⟩⟩; refine ⟨_, rfl, ?_⟩) | ((with_reducible refine gate_builtin (b := .append) (xs := #[.tmp 93, .tmp 100]) rfl ?_); at_builtin; refine Kd.R_append (Kd.int .u32) (w0 := w) w.heap.size rfl (.tmp 93) (.tmp 100) 31 38 (.int .u32 0) 4 rfl Try.underlying31 info38 rfl (by decide) (by omega) u7 x7_1 t253 [.int .u32 t253] (fun _ => True) (fun _ => False) rfl rfl ?aP (fun _ hk => hk.elim) ?aF ?aO ?aB ?aS ?aL ?_; (case aP => exact rfl); (case aB => exact (by repeat (first | (with_reducible first | exact HB.out | apply below_alloc | apply pw_below_drewN | apply below_drew1 | refine below_set ?_ GE250.out) | exact HB.out))); (case aF => exact (fun _ _ => trivial)); (case aO => exact (by (with_reducible repeat (first | apply Kd.R_alloc | apply Kd.R_drewN | apply Kd.R_drew)); exact HO_7.out)); (case aS => exact (below_size (by repeat (first | (with_reducible first | exact HB.out | apply below_alloc | apply pw_below_drewN | apply below_drew1 | refine below_set ?_ GE250.out) | exact HB.out)))); (case aL => have := LMc12.out; omega); intro v255 w14 ho hb hg hat; rw [← Ny254.out] at ho; have n0_ := Aside0.mk (blk_grown (g := gb250) (o := .cells #[.int .i64 a2_0, .int .i64 a2_1, .slice A2_2 l2_2.length c2_2] 47 (0, 0)) (by (with_reducible repeat (first | refine blk_drewN ?_ _ | refine blk_drew ?_ | refine blk_alloc ?_ _)); exact BK250.out) hg (Kd.R_ne HO_7.out BK250.out (by decide))); have n1_ := Aside0.mk (hb); have n2_ := Aside0.mk (ho); clear BK250; clear HB; clear HO_7; have BK250 := n0_; have HB := n1_; have HO256 := n2_; clear n0_ n1_ n2_; clear ho hb hg hat))
                go_roundg k1
                case measure => have := HK1.out; omega
                case rel => exact ⟨(y254), (wrap64 (x9_1 + 1)), (by first | rfl | (simp; done) | (simp [*]; done)), H', ⟨by have := HK1.out; omega⟩, ⟨by (with_reducible repeat (first | apply Kd.R_alloc | apply Kd.R_drewN | apply Kd.R_drew)); exact HO256.out⟩, ⟨by (with_reducible repeat (first | refine blk_drewN ?_ _ | refine blk_drew ?_ | refine blk_alloc ?_ _)); exact BK250.out⟩, ⟨by repeat (first | (with_reducible first | exact HB.out | apply below_alloc | apply pw_below_drewN | apply below_drew1 | refine below_set ?_ GE250.out) | exact HB.out)⟩⟩
              · rw [if_neg c12] at H
                exact absurd H (by simp)
            · rw [if_neg c10] at H
              exact absurd H (by simp)
          · rw [if_neg c9] at H
            have c9b0 : (x9_1 == 0) = false := beq_eq_false_iff_ne.mpr c9
            have c9b1 : (x9_1 != 0) = true := bne_iff_ne.mpr c9
            by_cases c15 : (wrap64 (Int.tdiv x9_1 a1)) = 0
            · rw [if_pos c15] at H
              have c15b0 : ((wrap64 (Int.tdiv x9_1 a1)) == 0) = true := beq_iff_eq.mpr c15
              have c15b1 : ((wrap64 (Int.tdiv x9_1 a1)) != 0) = false := bne_eq_false_iff_eq.mpr c15
              clear c15
              obtain ⟨ji16, hji16⟩ : ∃ j_ : Int, (wrap64 (x9_1 - 1)) = j_ := ⟨_, rfl⟩
              replace H : (if 0 ≤ (ji16) then (if (ji16) < (x7_1.length : Int) then (if 0 ≤ x9_1 then ((spec_added.f k1 (rd l0 x9_1) (rd x7_1 (ji16))).bind fun t259 => (if x7_1.length < 35184372088832 then (spec_unpredicted.l0 k1 l0 a1 (x7_1 ++ [t259]) t251 (wrap64 (x9_1 + 1)) a2_0 a2_1 l2_2) else (none))) else (none)) else (none)) else (none)) = some r := by first | (rw [hji16] at H; exact H) | (simp only [hji16] at H ⊢; exact H)
              have hji16w : (IntKind.i64.wrap (x9_1 - 1)) = ji16 := (i64_w _).trans hji16
              by_cases c17 : 0 ≤ (ji16)
              · rw [if_pos c17] at H
                have c17b0 : decide (0 ≤ (ji16)) = true := decide_eq_true c17
                clear c17
                by_cases c18 : (ji16) < (x7_1.length : Int)
                · rw [if_pos c18] at H
                  have c18b0 : decide ((ji16) < (x7_1.length : Int)) = true := decide_eq_true c18
                  clear c18
                  by_cases c19 : 0 ≤ x9_1
                  · rw [if_pos c19] at H
                    have c19b0 : decide (0 ≤ x9_1) = true := decide_eq_true c19
                    clear c19
                    replace H := Option.bind_eq_some_iff.mp H
                    obtain ⟨t259, A200, H⟩ := H
                    replace H : (if x7_1.length < 35184372088832 then (spec_unpredicted.l0 k1 l0 a1 (x7_1 ++ [t259]) t251 (wrap64 (x9_1 + 1)) a2_0 a2_1 l2_2) else (none)) = some r := H
                    have A20 := Aside0.mk A200
                    clear A200
                    by_cases c21 : x7_1.length < 35184372088832
                    · rw [if_pos c21] at H
                      have LMc21 := Aside0.mk c21
                      clear c21
                      obtain ⟨y260, hy260⟩ : ∃ y_ : List Int, y_ = (x7_1 ++ [t259]) := ⟨_, rfl⟩
                      replace H : (spec_unpredicted.l0 k1 l0 a1 y260 t251 (wrap64 (x9_1 + 1)) a2_0 a2_1 l2_2) = some r := by first | (rw [hy260]; with_reducible exact H) | (have H2_ := (Option.bind_some _ _).symm.trans H; rw [hy260]; with_reducible exact H2_) | (have H2_ := (Option.bind_some _ _).symm.trans H; with_reducible exact H2_) | with_reducible exact H | (rw [hy260]; exact H) | exact H
                      have Ny260 := Aside0.mk hy260
                      clear hy260
                      have H' := Aside0.mk H
                      clear H
                      try go_wp2
                      have n0_ := Aside0.mk (Kd.R_drew HO_7.out)
                      have n1_ := Aside0.mk (blk_drew BK250.out)
                      have n2_ := Aside0.mk (below_drew1 HB.out)
                      clear HO_7
                      clear BK250
                      clear HB
                      have HO_7 := n0_
                      have BK250 := n1_
                      have HB := n2_
                      clear n0_ n1_ n2_
                      refine start_ (n := 8) (S := fun w' => True) (ds := []) #[false, false, false, false, false, false, false, false] (by kernel_rfl) rfl rfl trivial (fun hHeld => ?_); refine with_tabW spec_unpredicted.tab6 spec_unpredicted.bits6 (fun HT_ HW_ => ?_)
                      generalize wr.drew = w22 at HO_7 BK250 HB hHeld ⊢
                      refine pure_ (i := 0) (N := some 24) (v := ?_) (a' := ?_) #[true, false, false, false, false, false, false, false] rfl rfl (any_of HT_.out (by kernel_rfl)) (fun _ _ _ h => h) (Or.inl ⟨by rfl, ?_⟩) ?_ ?_
                      rotate_left
                      · intro w'
                        go_simp
                        with_reducible rfl
                      rotate_left
                      · simp only [Act.put, List.setIfInBounds_toArray, List.set_cons_zero, List.set_cons_succ, i64_w, i32_w]
                        rfl
                      refine pure_ (i := 1) (N := some 25) (v := ?_) (a' := ?_) #[true, true, false, false, false, false, false, false] rfl rfl (any_of HT_.out (by kernel_rfl)) (fun _ _ _ h => h) (Or.inl ⟨by rfl, ?_⟩) ?_ ?_
                      rotate_left
                      · intro w'
                        go_simp
                        with_reducible rfl
                      rotate_left
                      · simp only [Act.put, List.setIfInBounds_toArray, List.set_cons_zero, List.set_cons_succ, i64_w, i32_w]
                        rfl
                      refine pure_ (i := 2) (N := some 26) (v := ?_) (a' := ?_) #[true, true, true, false, false, false, false, false] rfl rfl (any_of HT_.out (by kernel_rfl)) (fun _ _ _ h => h) (Or.inl ⟨by rfl, ?_⟩) ?_ ?_
                      rotate_left
                      · intro w'
                        go_simp
                        with_reducible rfl
                      rotate_left
                      · simp only [Act.put, List.setIfInBounds_toArray, List.set_cons_zero, List.set_cons_succ, i64_w, i32_w]
                        rfl
                      refine pure_ (i := 3) (N := some 27) (v := ?_) (a' := ?_) #[true, true, true, true, false, false, false, false] rfl rfl (any_of HT_.out (by kernel_rfl)) (fun _ _ _ h => h) (Or.inl ⟨by rfl, ?_⟩) ?_ ?_
                      rotate_left
                      · intro w'
                        go_simp
                        with_reducible rfl
                      rotate_left
                      · simp only [Act.put, List.setIfInBounds_toArray, List.set_cons_zero, List.set_cons_succ, i64_w, i32_w]
                        rfl
                      refine pure_ (i := 4) (N := some 28) (v := ?_) (a' := ?_) #[true, true, true, true, true, false, false, false] rfl rfl (any_of HT_.out (by kernel_rfl)) (fun _ _ _ h => h) (Or.inl ⟨by rfl, ?_⟩) ?_ ?_
                      rotate_left
                      · intro w'
                        go_simp
                        with_reducible rfl
                      rotate_left
                      · simp only [Act.put, List.setIfInBounds_toArray, List.set_cons_zero, List.set_cons_succ, i64_w, i32_w]
                        rfl
                      refine pure_ (i := 5) (N := some 29) (v := ?_) (a' := ?_) #[true, true, true, true, true, true, false, false] rfl rfl (any_of HT_.out (by kernel_rfl)) (fun _ _ _ h => h) (Or.inl ⟨by rfl, ?_⟩) ?_ ?_
                      rotate_left
                      · intro w'
                        go_simp
                        with_reducible rfl
                      rotate_left
                      · simp only [Act.put, List.setIfInBounds_toArray, List.set_cons_zero, List.set_cons_succ, i64_w, i32_w]
                        rfl
                      refine pure_ (i := 6) (N := some 10) (v := ?_) (a' := ?_) #[true, true, true, true, true, true, true, false] rfl rfl (any_of HT_.out (by kernel_rfl)) (fun _ _ _ h => h) (Or.inl ⟨by rfl, ?_⟩) ?_ ?_
                      rotate_left
                      · intro w'
                        go_simp
                        with_reducible rfl
                      rotate_left
                      · simp only [Act.put, List.setIfInBounds_toArray, List.set_cons_zero, List.set_cons_succ, i64_w, i32_w]
                        rfl
                      refine pure_ (i := 7) (N := some 11) (v := ?_) (a' := ?_) #[true, true, true, true, true, true, true, true] rfl rfl (any_of HT_.out (by kernel_rfl)) (fun _ _ _ h => h) (Or.inl ⟨by rfl, ?_⟩) ?_ ?_
                      rotate_left
                      · intro w'
                        go_simp
                        with_reducible rfl
                      rotate_left
                      · simp only [Act.put, List.setIfInBounds_toArray, List.set_cons_zero, List.set_cons_succ, i64_w, i32_w]
                        rfl
                      refine done_ (done_of HT_.out (by kernel_rfl)) ?_
                      obtain ⟨Ao23, co23, eo23⟩ := Kd.R_slice HO_7.out
                      subst eo23
                      have p257 : 0 ≤ ((ji16) : Int) := of_decide_eq_true (by first | (with_reducible assumption) | assumption)
                      have q257 : (ji16) < (x7_1.length : Int) := of_decide_eq_true (by first | (with_reducible assumption) | assumption)
                      obtain ⟨ad257, e257, hx257_0⟩ := Kd.at_int (Kd.R_reads' HO_7.out).2.2 (ji16) p257 q257
                      cases e257
                      replace p257 := eq_true p257
                      replace q257 := eq_true q257
                      have p258 : 0 ≤ (x9_1 : Int) := of_decide_eq_true (by first | (with_reducible assumption) | assumption)
                      have q258 : x9_1 < (l0.length : Int) := of_decide_eq_true (by first | (with_reducible assumption) | assumption)
                      obtain ⟨ad258, e258, hx258_0⟩ := Kd.at_int HR0.out x9_1 p258 q258
                      cases e258
                      replace hx258_0 := (HB.out.cell (World.block_lt_of_cell? w _ hx258_0)).trans hx258_0
                      replace p258 := eq_true p258
                      replace q258 := eq_true q258
                      try go_wp2_with (first | ((with_reducible refine gate_callee (f := 36) rfl ?_); refine goesL_ (some 99) rfl rfl Try.func36 (by kernel_rfl) rfl #[.int .u32 (rd l0 x9_1), .int .u32 (rd x7_1 (ji16))] rfl (by (try simp only [List.map_toArray, List.map_cons, List.map_nil]); first | done | (simp only [hji16]; rfl) | rfl | (simp only [List.length_drop, List.length_take]; rfl)) ?_; (with_reducible refine (spec_added.calls k1 (rd l0 x9_1) (rd x7_1 (ji16)) t259 _ A20.out).mono ?_); rintro e w' ⟨rfl, ⟨nd, rfl⟩⟩; refine ⟨_, rfl, ?_⟩) | ((with_reducible refine gate_builtin (b := .append) (xs := #[.tmp 93, .tmp 100]) rfl ?_); at_builtin; refine Kd.R_append (Kd.int .u32) (w0 := w) w.heap.size rfl (.tmp 93) (.tmp 100) 31 38 (.int .u32 0) 4 rfl Try.underlying31 info38 rfl (by decide) (by omega) (.slice (some ad257) x7_1.length co23) x7_1 t259 [.int .u32 t259] (fun _ => True) (fun _ => False) rfl rfl ?aP (fun _ hk => hk.elim) ?aF ?aO ?aB ?aS ?aL ?_; (case aP => exact rfl); (case aB => exact (by repeat (first | (with_reducible first | exact HB.out | apply below_alloc | apply pw_below_drewN | apply below_drew1 | refine below_set ?_ GE250.out) | exact HB.out))); (case aF => exact (fun _ _ => trivial)); (case aO => exact (by (with_reducible repeat (first | apply Kd.R_alloc | apply Kd.R_drewN | apply Kd.R_drew)); exact HO_7.out)); (case aS => exact (below_size (by repeat (first | (with_reducible first | exact HB.out | apply below_alloc | apply pw_below_drewN | apply below_drew1 | refine below_set ?_ GE250.out) | exact HB.out)))); (case aL => have := LMc21.out; omega); intro v261 w24 ho hb hg hat; rw [← Ny260.out] at ho; have n0_ := Aside0.mk (blk_grown (g := gb250) (o := .cells #[.int .i64 a2_0, .int .i64 a2_1, .slice A2_2 l2_2.length c2_2] 47 (0, 0)) (by (with_reducible repeat (first | refine blk_drewN ?_ _ | refine blk_drew ?_ | refine blk_alloc ?_ _)); exact BK250.out) hg (Kd.R_ne HO_7.out BK250.out (by decide))); have n1_ := Aside0.mk (hb); have n2_ := Aside0.mk (ho); clear BK250; clear HB; clear HO_7; have BK250 := n0_; have HB := n1_; have HO262 := n2_; clear n0_ n1_ n2_; clear ho hb hg hat))
                      go_roundg k1
                      case measure => have := HK1.out; omega
                      case rel => exact ⟨(y260), (wrap64 (x9_1 + 1)), (by first | rfl | (simp; done) | (simp [*]; done)), H', ⟨by have := HK1.out; omega⟩, ⟨by (with_reducible repeat (first | apply Kd.R_alloc | apply Kd.R_drewN | apply Kd.R_drew)); exact HO262.out⟩, ⟨by (with_reducible repeat (first | refine blk_drewN ?_ _ | refine blk_drew ?_ | refine blk_alloc ?_ _)); exact BK250.out⟩, ⟨by repeat (first | (with_reducible first | exact HB.out | apply below_alloc | apply pw_below_drewN | apply below_drew1 | refine below_set ?_ GE250.out) | exact HB.out)⟩⟩
                    · rw [if_neg c21] at H
                      exact absurd H (by simp)
                  · rw [if_neg c19] at H
                    exact absurd H (by simp)
                · rw [if_neg c18] at H
                  exact absurd H (by simp)
              · rw [if_neg c17] at H
                exact absurd H (by simp)
            · rw [if_neg c15] at H
              have c15b0 : ((wrap64 (Int.tdiv x9_1 a1)) == 0) = false := beq_eq_false_iff_ne.mpr c15
              have c15b1 : ((wrap64 (Int.tdiv x9_1 a1)) != 0) = true := bne_iff_ne.mpr c15
              by_cases c25 : (Int.tmod x9_1 a1) = 0
              · rw [if_pos c25] at H
                have c25b0 : ((Int.tmod x9_1 a1) == 0) = true := beq_iff_eq.mpr c25
                have c25b1 : ((Int.tmod x9_1 a1) != 0) = false := bne_eq_false_iff_eq.mpr c25
                clear c25
                obtain ⟨ji26, hji26⟩ : ∃ j_ : Int, (wrap64 (x9_1 - a1)) = j_ := ⟨_, rfl⟩
                replace H : (if 0 ≤ (ji26) then (if (ji26) < (x7_1.length : Int) then (if 0 ≤ x9_1 then ((spec_added.f k1 (rd l0 x9_1) (rd x7_1 (ji26))).bind fun t265 => (if x7_1.length < 35184372088832 then (spec_unpredicted.l0 k1 l0 a1 (x7_1 ++ [t265]) t251 (wrap64 (x9_1 + 1)) a2_0 a2_1 l2_2) else (none))) else (none)) else (none)) else (none)) = some r := by first | (rw [hji26] at H; exact H) | (simp only [hji26] at H ⊢; exact H)
                have hji26w : (IntKind.i64.wrap (x9_1 - a1)) = ji26 := (i64_w _).trans hji26
                by_cases c27 : 0 ≤ (ji26)
                · rw [if_pos c27] at H
                  have c27b0 : decide (0 ≤ (ji26)) = true := decide_eq_true c27
                  clear c27
                  by_cases c28 : (ji26) < (x7_1.length : Int)
                  · rw [if_pos c28] at H
                    have c28b0 : decide ((ji26) < (x7_1.length : Int)) = true := decide_eq_true c28
                    clear c28
                    by_cases c29 : 0 ≤ x9_1
                    · rw [if_pos c29] at H
                      have c29b0 : decide (0 ≤ x9_1) = true := decide_eq_true c29
                      clear c29
                      replace H := Option.bind_eq_some_iff.mp H
                      obtain ⟨t265, A300, H⟩ := H
                      replace H : (if x7_1.length < 35184372088832 then (spec_unpredicted.l0 k1 l0 a1 (x7_1 ++ [t265]) t251 (wrap64 (x9_1 + 1)) a2_0 a2_1 l2_2) else (none)) = some r := H
                      have A30 := Aside0.mk A300
                      clear A300
                      by_cases c31 : x7_1.length < 35184372088832
                      · rw [if_pos c31] at H
                        have LMc31 := Aside0.mk c31
                        clear c31
                        obtain ⟨y266, hy266⟩ : ∃ y_ : List Int, y_ = (x7_1 ++ [t265]) := ⟨_, rfl⟩
                        replace H : (spec_unpredicted.l0 k1 l0 a1 y266 t251 (wrap64 (x9_1 + 1)) a2_0 a2_1 l2_2) = some r := by first | (rw [hy266]; with_reducible exact H) | (have H2_ := (Option.bind_some _ _).symm.trans H; rw [hy266]; with_reducible exact H2_) | (have H2_ := (Option.bind_some _ _).symm.trans H; with_reducible exact H2_) | with_reducible exact H | (rw [hy266]; exact H) | exact H
                        have Ny266 := Aside0.mk hy266
                        clear hy266
                        have H' := Aside0.mk H
                        clear H
                        try go_wp2
                        have n0_ := Aside0.mk (Kd.R_drew HO_7.out)
                        have n1_ := Aside0.mk (blk_drew BK250.out)
                        have n2_ := Aside0.mk (below_drew1 HB.out)
                        clear HO_7
                        clear BK250
                        clear HB
                        have HO_7 := n0_
                        have BK250 := n1_
                        have HB := n2_
                        clear n0_ n1_ n2_
                        refine start_ (n := 8) (S := fun w' => True) (ds := []) #[false, false, false, false, false, false, false, false] (by kernel_rfl) rfl rfl trivial (fun hHeld => ?_); refine with_tabW spec_unpredicted.tab6 spec_unpredicted.bits6 (fun HT_ HW_ => ?_)
                        generalize wr.drew = w32 at HO_7 BK250 HB hHeld ⊢
                        refine pure_ (i := 0) (N := some 24) (v := ?_) (a' := ?_) #[true, false, false, false, false, false, false, false] rfl rfl (any_of HT_.out (by kernel_rfl)) (fun _ _ _ h => h) (Or.inl ⟨by rfl, ?_⟩) ?_ ?_
                        rotate_left
                        · intro w'
                          go_simp
                          with_reducible rfl
                        rotate_left
                        · simp only [Act.put, List.setIfInBounds_toArray, List.set_cons_zero, List.set_cons_succ, i64_w, i32_w]
                          rfl
                        refine pure_ (i := 1) (N := some 25) (v := ?_) (a' := ?_) #[true, true, false, false, false, false, false, false] rfl rfl (any_of HT_.out (by kernel_rfl)) (fun _ _ _ h => h) (Or.inl ⟨by rfl, ?_⟩) ?_ ?_
                        rotate_left
                        · intro w'
                          go_simp
                          with_reducible rfl
                        rotate_left
                        · simp only [Act.put, List.setIfInBounds_toArray, List.set_cons_zero, List.set_cons_succ, i64_w, i32_w]
                          rfl
                        refine pure_ (i := 2) (N := some 26) (v := ?_) (a' := ?_) #[true, true, true, false, false, false, false, false] rfl rfl (any_of HT_.out (by kernel_rfl)) (fun _ _ _ h => h) (Or.inl ⟨by rfl, ?_⟩) ?_ ?_
                        rotate_left
                        · intro w'
                          go_simp
                          with_reducible rfl
                        rotate_left
                        · simp only [Act.put, List.setIfInBounds_toArray, List.set_cons_zero, List.set_cons_succ, i64_w, i32_w]
                          rfl
                        refine pure_ (i := 3) (N := some 27) (v := ?_) (a' := ?_) #[true, true, true, true, false, false, false, false] rfl rfl (any_of HT_.out (by kernel_rfl)) (fun _ _ _ h => h) (Or.inl ⟨by rfl, ?_⟩) ?_ ?_
                        rotate_left
                        · intro w'
                          go_simp
                          with_reducible rfl
                        rotate_left
                        · simp only [Act.put, List.setIfInBounds_toArray, List.set_cons_zero, List.set_cons_succ, i64_w, i32_w]
                          rfl
                        refine pure_ (i := 4) (N := some 28) (v := ?_) (a' := ?_) #[true, true, true, true, true, false, false, false] rfl rfl (any_of HT_.out (by kernel_rfl)) (fun _ _ _ h => h) (Or.inl ⟨by rfl, ?_⟩) ?_ ?_
                        rotate_left
                        · intro w'
                          go_simp
                          with_reducible rfl
                        rotate_left
                        · simp only [Act.put, List.setIfInBounds_toArray, List.set_cons_zero, List.set_cons_succ, i64_w, i32_w]
                          rfl
                        refine pure_ (i := 5) (N := some 29) (v := ?_) (a' := ?_) #[true, true, true, true, true, true, false, false] rfl rfl (any_of HT_.out (by kernel_rfl)) (fun _ _ _ h => h) (Or.inl ⟨by rfl, ?_⟩) ?_ ?_
                        rotate_left
                        · intro w'
                          go_simp
                          with_reducible rfl
                        rotate_left
                        · simp only [Act.put, List.setIfInBounds_toArray, List.set_cons_zero, List.set_cons_succ, i64_w, i32_w]
                          rfl
                        refine pure_ (i := 6) (N := some 10) (v := ?_) (a' := ?_) #[true, true, true, true, true, true, true, false] rfl rfl (any_of HT_.out (by kernel_rfl)) (fun _ _ _ h => h) (Or.inl ⟨by rfl, ?_⟩) ?_ ?_
                        rotate_left
                        · intro w'
                          go_simp
                          with_reducible rfl
                        rotate_left
                        · simp only [Act.put, List.setIfInBounds_toArray, List.set_cons_zero, List.set_cons_succ, i64_w, i32_w]
                          rfl
                        refine pure_ (i := 7) (N := some 11) (v := ?_) (a' := ?_) #[true, true, true, true, true, true, true, true] rfl rfl (any_of HT_.out (by kernel_rfl)) (fun _ _ _ h => h) (Or.inl ⟨by rfl, ?_⟩) ?_ ?_
                        rotate_left
                        · intro w'
                          go_simp
                          with_reducible rfl
                        rotate_left
                        · simp only [Act.put, List.setIfInBounds_toArray, List.set_cons_zero, List.set_cons_succ, i64_w, i32_w]
                          rfl
                        refine done_ (done_of HT_.out (by kernel_rfl)) ?_
                        obtain ⟨Ao33, co33, eo33⟩ := Kd.R_slice HO_7.out
                        subst eo33
                        have p263 : 0 ≤ ((ji26) : Int) := of_decide_eq_true (by first | (with_reducible assumption) | assumption)
                        have q263 : (ji26) < (x7_1.length : Int) := of_decide_eq_true (by first | (with_reducible assumption) | assumption)
                        obtain ⟨ad263, e263, hx263_0⟩ := Kd.at_int (Kd.R_reads' HO_7.out).2.2 (ji26) p263 q263
                        cases e263
                        replace p263 := eq_true p263
                        replace q263 := eq_true q263
                        have p264 : 0 ≤ (x9_1 : Int) := of_decide_eq_true (by first | (with_reducible assumption) | assumption)
                        have q264 : x9_1 < (l0.length : Int) := of_decide_eq_true (by first | (with_reducible assumption) | assumption)
                        obtain ⟨ad264, e264, hx264_0⟩ := Kd.at_int HR0.out x9_1 p264 q264
                        cases e264
                        replace hx264_0 := (HB.out.cell (World.block_lt_of_cell? w _ hx264_0)).trans hx264_0
                        replace p264 := eq_true p264
                        replace q264 := eq_true q264
                        try go_wp2_with (first | ((with_reducible refine gate_callee (f := 36) rfl ?_); refine goesL_ (some 99) rfl rfl Try.func36 (by kernel_rfl) rfl #[.int .u32 (rd l0 x9_1), .int .u32 (rd x7_1 (ji26))] rfl (by (try simp only [List.map_toArray, List.map_cons, List.map_nil]); first | done | (simp only [hji26]; rfl) | rfl | (simp only [List.length_drop, List.length_take]; rfl)) ?_; (with_reducible refine (spec_added.calls k1 (rd l0 x9_1) (rd x7_1 (ji26)) t265 _ A30.out).mono ?_); rintro e w' ⟨rfl, ⟨nd, rfl⟩⟩; refine ⟨_, rfl, ?_⟩) | ((with_reducible refine gate_builtin (b := .append) (xs := #[.tmp 93, .tmp 100]) rfl ?_); at_builtin; refine Kd.R_append (Kd.int .u32) (w0 := w) w.heap.size rfl (.tmp 93) (.tmp 100) 31 38 (.int .u32 0) 4 rfl Try.underlying31 info38 rfl (by decide) (by omega) (.slice (some ad263) x7_1.length co33) x7_1 t265 [.int .u32 t265] (fun _ => True) (fun _ => False) rfl rfl ?aP (fun _ hk => hk.elim) ?aF ?aO ?aB ?aS ?aL ?_; (case aP => exact rfl); (case aB => exact (by repeat (first | (with_reducible first | exact HB.out | apply below_alloc | apply pw_below_drewN | apply below_drew1 | refine below_set ?_ GE250.out) | exact HB.out))); (case aF => exact (fun _ _ => trivial)); (case aO => exact (by (with_reducible repeat (first | apply Kd.R_alloc | apply Kd.R_drewN | apply Kd.R_drew)); exact HO_7.out)); (case aS => exact (below_size (by repeat (first | (with_reducible first | exact HB.out | apply below_alloc | apply pw_below_drewN | apply below_drew1 | refine below_set ?_ GE250.out) | exact HB.out)))); (case aL => have := LMc31.out; omega); intro v267 w34 ho hb hg hat; rw [← Ny266.out] at ho; have n0_ := Aside0.mk (blk_grown (g := gb250) (o := .cells #[.int .i64 a2_0, .int .i64 a2_1, .slice A2_2 l2_2.length c2_2] 47 (0, 0)) (by (with_reducible repeat (first | refine blk_drewN ?_ _ | refine blk_drew ?_ | refine blk_alloc ?_ _)); exact BK250.out) hg (Kd.R_ne HO_7.out BK250.out (by decide))); have n1_ := Aside0.mk (hb); have n2_ := Aside0.mk (ho); clear BK250; clear HB; clear HO_7; have BK250 := n0_; have HB := n1_; have HO268 := n2_; clear n0_ n1_ n2_; clear ho hb hg hat))
                        go_roundg k1
                        case measure => have := HK1.out; omega
                        case rel => exact ⟨(y266), (wrap64 (x9_1 + 1)), (by first | rfl | (simp; done) | (simp [*]; done)), H', ⟨by have := HK1.out; omega⟩, ⟨by (with_reducible repeat (first | apply Kd.R_alloc | apply Kd.R_drewN | apply Kd.R_drew)); exact HO268.out⟩, ⟨by (with_reducible repeat (first | refine blk_drewN ?_ _ | refine blk_drew ?_ | refine blk_alloc ?_ _)); exact BK250.out⟩, ⟨by repeat (first | (with_reducible first | exact HB.out | apply below_alloc | apply pw_below_drewN | apply below_drew1 | refine below_set ?_ GE250.out) | exact HB.out)⟩⟩
                      · rw [if_neg c31] at H
                        exact absurd H (by simp)
                    · rw [if_neg c29] at H
                      exact absurd H (by simp)
                  · rw [if_neg c28] at H
                    exact absurd H (by simp)
                · rw [if_neg c27] at H
                  exact absurd H (by simp)
              · rw [if_neg c25] at H
                have c25b0 : ((Int.tmod x9_1 a1) == 0) = false := beq_eq_false_iff_ne.mpr c25
                have c25b1 : ((Int.tmod x9_1 a1) != 0) = true := bne_iff_ne.mpr c25
                by_cases c35 : 0 ≤ a2_1
                · rw [if_pos c35] at H
                  have c35b0 := eq_true c35
                  have c35b1 : decide (0 ≤ a2_1) = true := decide_eq_true c35
                  clear c35
                  obtain ⟨ji36, hji36⟩ : ∃ j_ : Int, (shr .i64 (wrap64 (Int.tdiv x9_1 a1)) a2_1) = j_ := ⟨_, rfl⟩
                  replace H : (if 0 ≤ (wrap64 ((wrap64 ((ji36) * t251)) + (shr .i64 (Int.tmod x9_1 a1) a2_1))) then (if (wrap64 ((wrap64 ((ji36) * t251)) + (shr .i64 (Int.tmod x9_1 a1) a2_1))) < (l2_2.length : Int) then ((spec_part.f (rd l2_2 (wrap64 ((wrap64 ((ji36) * t251)) + (shr .i64 (Int.tmod x9_1 a1) a2_1)))) 1).bind fun t270 => (if 0 ≤ (wrap64 (x9_1 - 1)) then (if (wrap64 (x9_1 - 1)) < (x7_1.length : Int) then (if 0 ≤ (wrap64 (x9_1 - a1)) then (if (wrap64 (x9_1 - a1)) < (x7_1.length : Int) then (if 0 ≤ (wrap64 ((wrap64 (x9_1 - a1)) + 1)) then (if (wrap64 ((wrap64 (x9_1 - a1)) + 1)) < (x7_1.length : Int) then (if 0 ≤ (wrap64 ((wrap64 (x9_1 - a1)) - 1)) then (if (wrap64 ((wrap64 (x9_1 - a1)) - 1)) < (x7_1.length : Int) then ((spec_foretold.f k1 t270 (rd x7_1 (wrap64 (x9_1 - 1))) (rd x7_1 (wrap64 (x9_1 - a1))) (rd x7_1 (wrap64 ((wrap64 (x9_1 - a1)) + 1))) (rd x7_1 (wrap64 ((wrap64 (x9_1 - a1)) - 1)))).bind fun t275 => (if 0 ≤ x9_1 then ((spec_added.f k1 (rd l0 x9_1) t275).bind fun t277 => (if x7_1.length < 35184372088832 then (spec_unpredicted.l0 k1 l0 a1 (x7_1 ++ [t277]) t251 (wrap64 (x9_1 + 1)) a2_0 a2_1 l2_2) else (none))) else (none))) else (none)) else (none)) else (none)) else (none)) else (none)) else (none)) else (none)) else (none))) else (none)) else (none)) = some r := by first | (rw [hji36] at H; exact H) | (simp only [hji36] at H ⊢; exact H)
                  have hji36_ : ((wrap64 (Int.tdiv x9_1 a1)) / 2 ^ min a2_1.toNat 64) = ji36 := hji36
                  have hji36z : a2_1 ≤ 64 → ((wrap64 (Int.tdiv x9_1 a1)) / 2 ^ a2_1.toNat) = ji36 := shr_small hji36
                  have c37b0 := eq_true (of_decide_eq_true (by first | (with_reducible assumption) | assumption) : 0 ≤ a2_1)
                  obtain ⟨ji38, hji38⟩ : ∃ j_ : Int, (shr .i64 (Int.tmod x9_1 a1) a2_1) = j_ := ⟨_, rfl⟩
                  replace H : (if 0 ≤ (wrap64 ((wrap64 ((ji36) * t251)) + (ji38))) then (if (wrap64 ((wrap64 ((ji36) * t251)) + (ji38))) < (l2_2.length : Int) then ((spec_part.f (rd l2_2 (wrap64 ((wrap64 ((ji36) * t251)) + (ji38)))) 1).bind fun t270 => (if 0 ≤ (wrap64 (x9_1 - 1)) then (if (wrap64 (x9_1 - 1)) < (x7_1.length : Int) then (if 0 ≤ (wrap64 (x9_1 - a1)) then (if (wrap64 (x9_1 - a1)) < (x7_1.length : Int) then (if 0 ≤ (wrap64 ((wrap64 (x9_1 - a1)) + 1)) then (if (wrap64 ((wrap64 (x9_1 - a1)) + 1)) < (x7_1.length : Int) then (if 0 ≤ (wrap64 ((wrap64 (x9_1 - a1)) - 1)) then (if (wrap64 ((wrap64 (x9_1 - a1)) - 1)) < (x7_1.length : Int) then ((spec_foretold.f k1 t270 (rd x7_1 (wrap64 (x9_1 - 1))) (rd x7_1 (wrap64 (x9_1 - a1))) (rd x7_1 (wrap64 ((wrap64 (x9_1 - a1)) + 1))) (rd x7_1 (wrap64 ((wrap64 (x9_1 - a1)) - 1)))).bind fun t275 => (if 0 ≤ x9_1 then ((spec_added.f k1 (rd l0 x9_1) t275).bind fun t277 => (if x7_1.length < 35184372088832 then (spec_unpredicted.l0 k1 l0 a1 (x7_1 ++ [t277]) t251 (wrap64 (x9_1 + 1)) a2_0 a2_1 l2_2) else (none))) else (none))) else (none)) else (none)) else (none)) else (none)) else (none)) else (none)) else (none)) else (none))) else (none)) else (none)) = some r := by first | (rw [hji38] at H; exact H) | (simp only [hji38] at H ⊢; exact H)
                  have hji38_ : ((Int.tmod x9_1 a1) / 2 ^ min a2_1.toNat 64) = ji38 := hji38
                  have hji38z : a2_1 ≤ 64 → ((Int.tmod x9_1 a1) / 2 ^ a2_1.toNat) = ji38 := shr_small hji38
                  obtain ⟨ji39, hji39⟩ : ∃ j_ : Int, (wrap64 ((wrap64 ((ji36) * t251)) + (ji38))) = j_ := ⟨_, rfl⟩
                  replace H : (if 0 ≤ (ji39) then (if (ji39) < (l2_2.length : Int) then ((spec_part.f (rd l2_2 (ji39)) 1).bind fun t270 => (if 0 ≤ (wrap64 (x9_1 - 1)) then (if (wrap64 (x9_1 - 1)) < (x7_1.length : Int) then (if 0 ≤ (wrap64 (x9_1 - a1)) then (if (wrap64 (x9_1 - a1)) < (x7_1.length : Int) then (if 0 ≤ (wrap64 ((wrap64 (x9_1 - a1)) + 1)) then (if (wrap64 ((wrap64 (x9_1 - a1)) + 1)) < (x7_1.length : Int) then (if 0 ≤ (wrap64 ((wrap64 (x9_1 - a1)) - 1)) then (if (wrap64 ((wrap64 (x9_1 - a1)) - 1)) < (x7_1.length : Int) then ((spec_foretold.f k1 t270 (rd x7_1 (wrap64 (x9_1 - 1))) (rd x7_1 (wrap64 (x9_1 - a1))) (rd x7_1 (wrap64 ((wrap64 (x9_1 - a1)) + 1))) (rd x7_1 (wrap64 ((wrap64 (x9_1 - a1)) - 1)))).bind fun t275 => (if 0 ≤ x9_1 then ((spec_added.f k1 (rd l0 x9_1) t275).bind fun t277 => (if x7_1.length < 35184372088832 then (spec_unpredicted.l0 k1 l0 a1 (x7_1 ++ [t277]) t251 (wrap64 (x9_1 + 1)) a2_0 a2_1 l2_2) else (none))) else (none))) else (none)) else (none)) else (none)) else (none)) else (none)) else (none)) else (none)) else (none))) else (none)) else (none)) = some r := by first | (rw [hji39] at H; exact H) | (simp only [hji39] at H ⊢; exact H)
                  have hji39w : (IntKind.i64.wrap ((wrap64 ((ji36) * t251)) + (ji38))) = ji39 := (i64_w _).trans hji39
                  by_cases c40 : 0 ≤ (ji39)
                  · rw [if_pos c40] at H
                    have c40b0 : decide (0 ≤ (ji39)) = true := decide_eq_true c40
                    clear c40
                    by_cases c41 : (ji39) < (l2_2.length : Int)
                    · rw [if_pos c41] at H
                      have c41b0 : decide ((ji39) < (l2_2.length : Int)) = true := decide_eq_true c41
                      clear c41
                      replace H := Option.bind_eq_some_iff.mp H
                      obtain ⟨t270, A420, H⟩ := H
                      replace H : (if 0 ≤ (wrap64 (x9_1 - 1)) then (if (wrap64 (x9_1 - 1)) < (x7_1.length : Int) then (if 0 ≤ (wrap64 (x9_1 - a1)) then (if (wrap64 (x9_1 - a1)) < (x7_1.length : Int) then (if 0 ≤ (wrap64 ((wrap64 (x9_1 - a1)) + 1)) then (if (wrap64 ((wrap64 (x9_1 - a1)) + 1)) < (x7_1.length : Int) then (if 0 ≤ (wrap64 ((wrap64 (x9_1 - a1)) - 1)) then (if (wrap64 ((wrap64 (x9_1 - a1)) - 1)) < (x7_1.length : Int) then ((spec_foretold.f k1 t270 (rd x7_1 (wrap64 (x9_1 - 1))) (rd x7_1 (wrap64 (x9_1 - a1))) (rd x7_1 (wrap64 ((wrap64 (x9_1 - a1)) + 1))) (rd x7_1 (wrap64 ((wrap64 (x9_1 - a1)) - 1)))).bind fun t275 => (if 0 ≤ x9_1 then ((spec_added.f k1 (rd l0 x9_1) t275).bind fun t277 => (if x7_1.length < 35184372088832 then (spec_unpredicted.l0 k1 l0 a1 (x7_1 ++ [t277]) t251 (wrap64 (x9_1 + 1)) a2_0 a2_1 l2_2) else (none))) else (none))) else (none)) else (none)) else (none)) else (none)) else (none)) else (none)) else (none)) else (none)) = some r := H
                      have A42 := Aside0.mk A420
                      clear A420
                      obtain ⟨ji43, hji43⟩ : ∃ j_ : Int, (wrap64 (x9_1 - 1)) = j_ := ⟨_, rfl⟩
                      replace H : (if 0 ≤ (ji43) then (if (ji43) < (x7_1.length : Int) then (if 0 ≤ (wrap64 (x9_1 - a1)) then (if (wrap64 (x9_1 - a1)) < (x7_1.length : Int) then (if 0 ≤ (wrap64 ((wrap64 (x9_1 - a1)) + 1)) then (if (wrap64 ((wrap64 (x9_1 - a1)) + 1)) < (x7_1.length : Int) then (if 0 ≤ (wrap64 ((wrap64 (x9_1 - a1)) - 1)) then (if (wrap64 ((wrap64 (x9_1 - a1)) - 1)) < (x7_1.length : Int) then ((spec_foretold.f k1 t270 (rd x7_1 (ji43)) (rd x7_1 (wrap64 (x9_1 - a1))) (rd x7_1 (wrap64 ((wrap64 (x9_1 - a1)) + 1))) (rd x7_1 (wrap64 ((wrap64 (x9_1 - a1)) - 1)))).bind fun t275 => (if 0 ≤ x9_1 then ((spec_added.f k1 (rd l0 x9_1) t275).bind fun t277 => (if x7_1.length < 35184372088832 then (spec_unpredicted.l0 k1 l0 a1 (x7_1 ++ [t277]) t251 (wrap64 (x9_1 + 1)) a2_0 a2_1 l2_2) else (none))) else (none))) else (none)) else (none)) else (none)) else (none)) else (none)) else (none)) else (none)) else (none)) = some r := by first | (rw [hji43] at H; exact H) | (simp only [hji43] at H ⊢; exact H)
                      (try rw [hji43] at A42)
                      have hji43w : (IntKind.i64.wrap (x9_1 - 1)) = ji43 := (i64_w _).trans hji43
                      by_cases c44 : 0 ≤ (ji43)
                      · rw [if_pos c44] at H
                        have c44b0 : decide (0 ≤ (ji43)) = true := decide_eq_true c44
                        clear c44
                        by_cases c45 : (ji43) < (x7_1.length : Int)
                        · rw [if_pos c45] at H
                          have c45b0 : decide ((ji43) < (x7_1.length : Int)) = true := decide_eq_true c45
                          clear c45
                          obtain ⟨ji46, hji46⟩ : ∃ j_ : Int, (wrap64 (x9_1 - a1)) = j_ := ⟨_, rfl⟩
                          replace H : (if 0 ≤ (ji46) then (if (ji46) < (x7_1.length : Int) then (if 0 ≤ (wrap64 ((ji46) + 1)) then (if (wrap64 ((ji46) + 1)) < (x7_1.length : Int) then (if 0 ≤ (wrap64 ((ji46) - 1)) then (if (wrap64 ((ji46) - 1)) < (x7_1.length : Int) then ((spec_foretold.f k1 t270 (rd x7_1 (ji43)) (rd x7_1 (ji46)) (rd x7_1 (wrap64 ((ji46) + 1))) (rd x7_1 (wrap64 ((ji46) - 1)))).bind fun t275 => (if 0 ≤ x9_1 then ((spec_added.f k1 (rd l0 x9_1) t275).bind fun t277 => (if x7_1.length < 35184372088832 then (spec_unpredicted.l0 k1 l0 a1 (x7_1 ++ [t277]) t251 (wrap64 (x9_1 + 1)) a2_0 a2_1 l2_2) else (none))) else (none))) else (none)) else (none)) else (none)) else (none)) else (none)) else (none)) = some r := by first | (rw [hji46] at H; exact H) | (simp only [hji46] at H ⊢; exact H)
                          (try rw [hji46] at A42)
                          have hji46w : (IntKind.i64.wrap (x9_1 - a1)) = ji46 := (i64_w _).trans hji46
                          by_cases c47 : 0 ≤ (ji46)
                          · rw [if_pos c47] at H
                            have c47b0 : decide (0 ≤ (ji46)) = true := decide_eq_true c47
                            clear c47
                            by_cases c48 : (ji46) < (x7_1.length : Int)
                            · rw [if_pos c48] at H
                              have c48b0 : decide ((ji46) < (x7_1.length : Int)) = true := decide_eq_true c48
                              clear c48
                              obtain ⟨ji49, hji49⟩ : ∃ j_ : Int, (wrap64 ((ji46) + 1)) = j_ := ⟨_, rfl⟩
                              replace H : (if 0 ≤ (ji49) then (if (ji49) < (x7_1.length : Int) then (if 0 ≤ (wrap64 ((ji46) - 1)) then (if (wrap64 ((ji46) - 1)) < (x7_1.length : Int) then ((spec_foretold.f k1 t270 (rd x7_1 (ji43)) (rd x7_1 (ji46)) (rd x7_1 (ji49)) (rd x7_1 (wrap64 ((ji46) - 1)))).bind fun t275 => (if 0 ≤ x9_1 then ((spec_added.f k1 (rd l0 x9_1) t275).bind fun t277 => (if x7_1.length < 35184372088832 then (spec_unpredicted.l0 k1 l0 a1 (x7_1 ++ [t277]) t251 (wrap64 (x9_1 + 1)) a2_0 a2_1 l2_2) else (none))) else (none))) else (none)) else (none)) else (none)) else (none)) = some r := by first | (rw [hji49] at H; exact H) | (simp only [hji49] at H ⊢; exact H)
                              (try rw [hji49] at A42)
                              have hji49w : (IntKind.i64.wrap ((ji46) + 1)) = ji49 := (i64_w _).trans hji49
                              by_cases c50 : 0 ≤ (ji49)
                              · rw [if_pos c50] at H
                                have c50b0 : decide (0 ≤ (ji49)) = true := decide_eq_true c50
                                clear c50
                                by_cases c51 : (ji49) < (x7_1.length : Int)
                                · rw [if_pos c51] at H
                                  have c51b0 : decide ((ji49) < (x7_1.length : Int)) = true := decide_eq_true c51
                                  clear c51
                                  obtain ⟨ji52, hji52⟩ : ∃ j_ : Int, (wrap64 ((ji46) - 1)) = j_ := ⟨_, rfl⟩
                                  replace H : (if 0 ≤ (ji52) then (if (ji52) < (x7_1.length : Int) then ((spec_foretold.f k1 t270 (rd x7_1 (ji43)) (rd x7_1 (ji46)) (rd x7_1 (ji49)) (rd x7_1 (ji52))).bind fun t275 => (if 0 ≤ x9_1 then ((spec_added.f k1 (rd l0 x9_1) t275).bind fun t277 => (if x7_1.length < 35184372088832 then (spec_unpredicted.l0 k1 l0 a1 (x7_1 ++ [t277]) t251 (wrap64 (x9_1 + 1)) a2_0 a2_1 l2_2) else (none))) else (none))) else (none)) else (none)) = some r := by first | (rw [hji52] at H; exact H) | (simp only [hji52] at H ⊢; exact H)
                                  (try rw [hji52] at A42)
                                  have hji52w : (IntKind.i64.wrap ((ji46) - 1)) = ji52 := (i64_w _).trans hji52
                                  by_cases c53 : 0 ≤ (ji52)
                                  · rw [if_pos c53] at H
                                    have c53b0 : decide (0 ≤ (ji52)) = true := decide_eq_true c53
                                    clear c53
                                    by_cases c54 : (ji52) < (x7_1.length : Int)
                                    · rw [if_pos c54] at H
                                      have c54b0 : decide ((ji52) < (x7_1.length : Int)) = true := decide_eq_true c54
                                      clear c54
                                      replace H := Option.bind_eq_some_iff.mp H
                                      obtain ⟨t275, A550, H⟩ := H
                                      replace H : (if 0 ≤ x9_1 then ((spec_added.f k1 (rd l0 x9_1) t275).bind fun t277 => (if x7_1.length < 35184372088832 then (spec_unpredicted.l0 k1 l0 a1 (x7_1 ++ [t277]) t251 (wrap64 (x9_1 + 1)) a2_0 a2_1 l2_2) else (none))) else (none)) = some r := H
                                      have A55 := Aside0.mk A550
                                      clear A550
                                      by_cases c56 : 0 ≤ x9_1
                                      · rw [if_pos c56] at H
                                        have c56b0 : decide (0 ≤ x9_1) = true := decide_eq_true c56
                                        clear c56
                                        replace H := Option.bind_eq_some_iff.mp H
                                        obtain ⟨t277, A570, H⟩ := H
                                        replace H : (if x7_1.length < 35184372088832 then (spec_unpredicted.l0 k1 l0 a1 (x7_1 ++ [t277]) t251 (wrap64 (x9_1 + 1)) a2_0 a2_1 l2_2) else (none)) = some r := H
                                        have A57 := Aside0.mk A570
                                        clear A570
                                        by_cases c58 : x7_1.length < 35184372088832
                                        · rw [if_pos c58] at H
                                          have LMc58 := Aside0.mk c58
                                          clear c58
                                          obtain ⟨y278, hy278⟩ : ∃ y_ : List Int, y_ = (x7_1 ++ [t277]) := ⟨_, rfl⟩
                                          replace H : (spec_unpredicted.l0 k1 l0 a1 y278 t251 (wrap64 (x9_1 + 1)) a2_0 a2_1 l2_2) = some r := by first | (rw [hy278]; with_reducible exact H) | (have H2_ := (Option.bind_some _ _).symm.trans H; rw [hy278]; with_reducible exact H2_) | (have H2_ := (Option.bind_some _ _).symm.trans H; with_reducible exact H2_) | with_reducible exact H | (rw [hy278]; exact H) | exact H
                                          have Ny278 := Aside0.mk hy278
                                          clear hy278
                                          have H' := Aside0.mk H
                                          clear H
                                          try go_wp2
                                          have n0_ := Aside0.mk (Kd.R_drew HO_7.out)
                                          have n1_ := Aside0.mk (blk_drew BK250.out)
                                          have n2_ := Aside0.mk (below_drew1 HB.out)
                                          clear HO_7
                                          clear BK250
                                          clear HB
                                          have HO_7 := n0_
                                          have BK250 := n1_
                                          have HB := n2_
                                          clear n0_ n1_ n2_
                                          refine start_ (n := 8) (S := fun w' => True) (ds := []) #[false, false, false, false, false, false, false, false] (by kernel_rfl) rfl rfl trivial (fun hHeld => ?_); refine with_tabW spec_unpredicted.tab6 spec_unpredicted.bits6 (fun HT_ HW_ => ?_)
                                          generalize wr.drew = w59 at HO_7 BK250 HB hHeld ⊢
                                          refine pure_ (i := 0) (N := some 24) (v := ?_) (a' := ?_) #[true, false, false, false, false, false, false, false] rfl rfl (any_of HT_.out (by kernel_rfl)) (fun _ _ _ h => h) (Or.inl ⟨by rfl, ?_⟩) ?_ ?_
                                          rotate_left
                                          · intro w'
                                            go_simp
                                            with_reducible rfl
                                          rotate_left
                                          · simp only [Act.put, List.setIfInBounds_toArray, List.set_cons_zero, List.set_cons_succ, i64_w, i32_w]
                                            rfl
                                          refine pure_ (i := 1) (N := some 25) (v := ?_) (a' := ?_) #[true, true, false, false, false, false, false, false] rfl rfl (any_of HT_.out (by kernel_rfl)) (fun _ _ _ h => h) (Or.inl ⟨by rfl, ?_⟩) ?_ ?_
                                          rotate_left
                                          · intro w'
                                            go_simp
                                            with_reducible rfl
                                          rotate_left
                                          · simp only [Act.put, List.setIfInBounds_toArray, List.set_cons_zero, List.set_cons_succ, i64_w, i32_w]
                                            rfl
                                          refine pure_ (i := 2) (N := some 26) (v := ?_) (a' := ?_) #[true, true, true, false, false, false, false, false] rfl rfl (any_of HT_.out (by kernel_rfl)) (fun _ _ _ h => h) (Or.inl ⟨by rfl, ?_⟩) ?_ ?_
                                          rotate_left
                                          · intro w'
                                            go_simp
                                            with_reducible rfl
                                          rotate_left
                                          · simp only [Act.put, List.setIfInBounds_toArray, List.set_cons_zero, List.set_cons_succ, i64_w, i32_w]
                                            rfl
                                          refine pure_ (i := 3) (N := some 27) (v := ?_) (a' := ?_) #[true, true, true, true, false, false, false, false] rfl rfl (any_of HT_.out (by kernel_rfl)) (fun _ _ _ h => h) (Or.inl ⟨by rfl, ?_⟩) ?_ ?_
                                          rotate_left
                                          · intro w'
                                            go_simp
                                            with_reducible rfl
                                          rotate_left
                                          · simp only [Act.put, List.setIfInBounds_toArray, List.set_cons_zero, List.set_cons_succ, i64_w, i32_w]
                                            rfl
                                          refine pure_ (i := 4) (N := some 28) (v := ?_) (a' := ?_) #[true, true, true, true, true, false, false, false] rfl rfl (any_of HT_.out (by kernel_rfl)) (fun _ _ _ h => h) (Or.inl ⟨by rfl, ?_⟩) ?_ ?_
                                          rotate_left
                                          · intro w'
                                            go_simp
                                            with_reducible rfl
                                          rotate_left
                                          · simp only [Act.put, List.setIfInBounds_toArray, List.set_cons_zero, List.set_cons_succ, i64_w, i32_w]
                                            rfl
                                          refine pure_ (i := 5) (N := some 29) (v := ?_) (a' := ?_) #[true, true, true, true, true, true, false, false] rfl rfl (any_of HT_.out (by kernel_rfl)) (fun _ _ _ h => h) (Or.inl ⟨by rfl, ?_⟩) ?_ ?_
                                          rotate_left
                                          · intro w'
                                            go_simp
                                            with_reducible rfl
                                          rotate_left
                                          · simp only [Act.put, List.setIfInBounds_toArray, List.set_cons_zero, List.set_cons_succ, i64_w, i32_w]
                                            rfl
                                          refine pure_ (i := 6) (N := some 10) (v := ?_) (a' := ?_) #[true, true, true, true, true, true, true, false] rfl rfl (any_of HT_.out (by kernel_rfl)) (fun _ _ _ h => h) (Or.inl ⟨by rfl, ?_⟩) ?_ ?_
                                          rotate_left
                                          · intro w'
                                            go_simp
                                            with_reducible rfl
                                          rotate_left
                                          · simp only [Act.put, List.setIfInBounds_toArray, List.set_cons_zero, List.set_cons_succ, i64_w, i32_w]
                                            rfl
                                          refine pure_ (i := 7) (N := some 11) (v := ?_) (a' := ?_) #[true, true, true, true, true, true, true, true] rfl rfl (any_of HT_.out (by kernel_rfl)) (fun _ _ _ h => h) (Or.inl ⟨by rfl, ?_⟩) ?_ ?_
                                          rotate_left
                                          · intro w'
                                            go_simp
                                            with_reducible rfl
                                          rotate_left
                                          · simp only [Act.put, List.setIfInBounds_toArray, List.set_cons_zero, List.set_cons_succ, i64_w, i32_w]
                                            rfl
                                          refine done_ (done_of HT_.out (by kernel_rfl)) ?_
                                          try go_wp2
                                          have n0_ := Aside0.mk (Kd.R_drew HO_7.out)
                                          have n1_ := Aside0.mk (blk_drew BK250.out)
                                          have n2_ := Aside0.mk (below_drew1 HB.out)
                                          clear HO_7
                                          clear BK250
                                          clear HB
                                          have HO_7 := n0_
                                          have BK250 := n1_
                                          have HB := n2_
                                          clear n0_ n1_ n2_
                                          have p269 : 0 ≤ ((ji39) : Int) := of_decide_eq_true (by first | (with_reducible assumption) | assumption)
                                          have q269 : (ji39) < (l2_2.length : Int) := of_decide_eq_true (by first | (with_reducible assumption) | assumption)
                                          obtain ⟨ad269, e269, hx269_0⟩ := Kd.at_int HR2_2.out (ji39) p269 q269
                                          have hw269_0 := hx269_0
                                          cases e269
                                          replace hx269_0 := (HB.out.cell (World.block_lt_of_cell? w _ hx269_0)).trans hx269_0
                                          replace p269 := eq_true p269
                                          replace q269 := eq_true q269
                                          refine start_ (n := 17) (S := fun w' => w'.cell? ⟨gb250, 0, none⟩ = some (.int .i64 a2_0) ∧ w'.cell? ⟨gb250, 1, none⟩ = some (.int .i64 a2_1) ∧ w'.cell? ⟨gb250, 2, none⟩ = some (.slice (some ad269) l2_2.length c2_2) ∧ w'.cell? (ad269.add ((ji39)).toNat) = some (.int .u32 (rd l2_2 (ji39)))) (ds := []) #[false, false, false, false, false, false, false, false, false, false, false, false, false, false, false, false, false] (by kernel_rfl) rfl rfl ⟨(blk_cell BK250.out 0).trans rfl, (blk_cell BK250.out 1).trans rfl, (blk_cell BK250.out 2).trans rfl, ((HB.out.cell (World.block_lt_of_cell? w _ hw269_0)).trans hw269_0)⟩ (fun hHeld => ?_); refine with_tabW spec_unpredicted.tab8 spec_unpredicted.bits8 (fun HT_ HW_ => ?_)
                                          generalize w59.drew = w60 at HO_7 BK250 HB hx269_0 hHeld ⊢
                                          refine pure_ (i := 0) (N := some 30) (v := ?_) (a' := ?_) #[true, false, false, false, false, false, false, false, false, false, false, false, false, false, false, false, false] rfl rfl (any_of HT_.out (by kernel_rfl)) (fun _ _ _ h => h) (Or.inl ⟨by rfl, ?_⟩) ?_ ?_
                                          rotate_left
                                          · intro w'
                                            go_simp
                                            with_reducible rfl
                                          rotate_left
                                          · simp only [Act.put, List.setIfInBounds_toArray, List.set_cons_zero, List.set_cons_succ, i64_w, i32_w]
                                            rfl
                                          refine pure_ (i := 2) (N := some 32) (v := ?_) (a' := ?_) #[true, false, true, false, false, false, false, false, false, false, false, false, false, false, false, false, false] rfl rfl (any_of HT_.out (by kernel_rfl)) (fun _ _ _ h => h) (Or.inl ⟨by rfl, ?_⟩) ?_ ?_
                                          rotate_left
                                          · intro w'
                                            go_simp
                                            with_reducible rfl
                                          rotate_left
                                          · simp only [Act.put, List.setIfInBounds_toArray, List.set_cons_zero, List.set_cons_succ, i64_w, i32_w]
                                            rfl
                                          refine pure_ (i := 3) (N := some 33) (v := ?_) (a' := ?_) #[true, false, true, true, false, false, false, false, false, false, false, false, false, false, false, false, false] rfl rfl (any_of HT_.out (by kernel_rfl)) (fun _ _ _ h => h) (Or.inl ⟨by rfl, ?_⟩) ?_ ?_
                                          rotate_left
                                          · intro w'
                                            go_simp
                                            with_reducible rfl
                                          rotate_left
                                          · simp only [Act.put, List.setIfInBounds_toArray, List.set_cons_zero, List.set_cons_succ, i64_w, i32_w]
                                            rfl
                                          refine pure_ (i := 6) (N := some 36) (v := ?_) (a' := ?_) #[true, false, true, true, false, false, true, false, false, false, false, false, false, false, false, false, false] rfl rfl (any_of HT_.out (by kernel_rfl)) (fun _ _ _ h => h) (Or.inl ⟨by rfl, ?_⟩) ?_ ?_
                                          rotate_left
                                          · intro w'
                                            go_simp
                                            with_reducible rfl
                                          rotate_left
                                          · simp only [Act.put, List.setIfInBounds_toArray, List.set_cons_zero, List.set_cons_succ, i64_w, i32_w]
                                            rfl
                                          refine pure_ (i := 8) (N := some 38) (v := ?_) (a' := ?_) #[true, false, true, true, false, false, true, false, true, false, false, false, false, false, false, false, false] rfl rfl (any_of HT_.out (by kernel_rfl)) (fun _ _ _ h => h) (Or.inl ⟨by rfl, ?_⟩) ?_ ?_
                                          rotate_left
                                          · intro w'
                                            go_simp
                                            with_reducible rfl
                                          rotate_left
                                          · simp only [Act.put, List.setIfInBounds_toArray, List.set_cons_zero, List.set_cons_succ, i64_w, i32_w]
                                            rfl
                                          refine pure_ (i := 9) (N := some 39) (v := ?_) (a' := ?_) #[true, false, true, true, false, false, true, false, true, true, false, false, false, false, false, false, false] rfl rfl (any_of HT_.out (by kernel_rfl)) (fun _ _ _ h => h) (Or.inl ⟨by rfl, ?_⟩) ?_ ?_
                                          rotate_left
                                          · intro w'
                                            go_simp
                                            with_reducible rfl
                                          rotate_left
                                          · simp only [Act.put, List.setIfInBounds_toArray, List.set_cons_zero, List.set_cons_succ, i64_w, i32_w]
                                            rfl
                                          refine take_ (i := 1) (N := some 31) (v := ?_) (a' := ?_) #[true, true, true, true, false, false, true, false, true, true, false, false, false, false, false, false, false] rfl rfl (take_ofW HT_.out HW_.out (by kernel_rfl)) (fun _ _ _ h => h) (Or.inl ⟨by rfl, ?_⟩) hHeld ?_ ?_
                                          rotate_left
                                          · rintro w' ⟨s0, s1, s2, s3⟩
                                            go_simp
                                            with_reducible rfl
                                          rotate_left
                                          · simp only [Act.put, List.setIfInBounds_toArray, List.set_cons_zero, List.set_cons_succ, i64_w, i32_w]
                                            rfl
                                          refine take_ (i := 4) (N := some 34) (v := ?_) (a' := ?_) #[true, true, true, true, true, false, true, false, true, true, false, false, false, false, false, false, false] rfl rfl (take_ofW HT_.out HW_.out (by kernel_rfl)) (fun _ _ _ h => h) (Or.inl ⟨by rfl, ?_⟩) hHeld ?_ ?_
                                          rotate_left
                                          · rintro w' ⟨s0, s1, s2, s3⟩
                                            go_simp
                                            with_reducible rfl
                                          rotate_left
                                          · simp only [Act.put, List.setIfInBounds_toArray, List.set_cons_zero, List.set_cons_succ, i64_w, i32_w]
                                            rfl
                                          refine pure_ (i := 5) (N := some 35) (v := ?_) (a' := ?_) #[true, true, true, true, true, true, true, false, true, true, false, false, false, false, false, false, false] rfl rfl (any_of HT_.out (by kernel_rfl)) (fun _ _ _ h => h) (Or.inl ⟨by rfl, ?_⟩) ?_ ?_
                                          rotate_left
                                          · intro w'
                                            go_simp
                                            with_reducible rfl
                                          rotate_left
                                          · simp only [Act.put, List.setIfInBounds_toArray, List.set_cons_zero, List.set_cons_succ, i64_w, i32_w]
                                            rfl
                                          refine pure_ (i := 7) (N := some 37) (v := ?_) (a' := ?_) #[true, true, true, true, true, true, true, true, true, true, false, false, false, false, false, false, false] rfl rfl (any_of HT_.out (by kernel_rfl)) (fun _ _ _ h => h) (Or.inl ⟨by rfl, ?_⟩) ?_ ?_
                                          rotate_left
                                          · intro w'
                                            go_simp
                                            with_reducible rfl
                                          rotate_left
                                          · simp only [Act.put, List.setIfInBounds_toArray, List.set_cons_zero, List.set_cons_succ, i64_w, i32_w]
                                            rfl
                                          refine take_ (i := 10) (N := some 40) (v := ?_) (a' := ?_) #[true, true, true, true, true, true, true, true, true, true, true, false, false, false, false, false, false] rfl rfl (take_ofW HT_.out HW_.out (by kernel_rfl)) (fun _ _ _ h => h) (Or.inl ⟨by rfl, ?_⟩) hHeld ?_ ?_
                                          rotate_left
                                          · rintro w' ⟨s0, s1, s2, s3⟩
                                            go_simp
                                            with_reducible rfl
                                          rotate_left
                                          · simp only [Act.put, List.setIfInBounds_toArray, List.set_cons_zero, List.set_cons_succ, i64_w, i32_w]
                                            rfl
                                          refine pure_ (i := 11) (N := some 41) (v := ?_) (a' := ?_) #[true, true, true, true, true, true, true, true, true, true, true, true, false, false, false, false, false] rfl rfl (any_of HT_.out (by kernel_rfl)) (fun _ _ _ h => h) (Or.inl ⟨by rfl, ?_⟩) ?_ ?_
                                          rotate_left
                                          · intro w'
                                            go_simp
                                            with_reducible rfl
                                          rotate_left
                                          · simp only [Act.put, List.setIfInBounds_toArray, List.set_cons_zero, List.set_cons_succ, i64_w, i32_w]
                                            rfl
                                          refine pure_ (i := 12) (N := some 42) (v := ?_) (a' := ?_) #[true, true, true, true, true, true, true, true, true, true, true, true, true, false, false, false, false] rfl rfl (any_of HT_.out (by kernel_rfl)) (fun _ _ _ h => h) (Or.inl ⟨by rfl, ?_⟩) ?_ ?_
                                          rotate_left
                                          · intro w'
                                            go_simp
                                            with_reducible rfl
                                          rotate_left
                                          · simp only [Act.put, List.setIfInBounds_toArray, List.set_cons_zero, List.set_cons_succ, i64_w, i32_w]
                                            rfl
                                          refine pure_ (i := 13) (N := some 43) (v := ?_) (a' := ?_) #[true, true, true, true, true, true, true, true, true, true, true, true, true, true, false, false, false] rfl rfl (any_of HT_.out (by kernel_rfl)) (fun _ _ _ h => h) (Or.inl ⟨by rfl, ?_⟩) ?_ ?_
                                          rotate_left
                                          · intro w'
                                            go_simp
                                            with_reducible rfl
                                          rotate_left
                                          · simp only [Act.put, List.setIfInBounds_toArray, List.set_cons_zero, List.set_cons_succ, i64_w, i32_w]
                                            rfl
                                          refine take_ (i := 14) (N := some 44) (v := ?_) (a' := ?_) #[true, true, true, true, true, true, true, true, true, true, true, true, true, true, true, false, false] rfl rfl (take_ofW HT_.out HW_.out (by kernel_rfl)) (fun _ _ _ h => h) (Or.inl ⟨by rfl, ?_⟩) hHeld ?_ ?_
                                          rotate_left
                                          · rintro w' ⟨s0, s1, s2, s3⟩
                                            go_simp
                                            with_reducible rfl
                                          rotate_left
                                          · simp only [Act.put, List.setIfInBounds_toArray, List.set_cons_zero, List.set_cons_succ, i64_w, i32_w]
                                            rfl
                                          refine one_ (i := 15) (N := some 45) #[true, true, true, true, true, true, true, true, true, true, true, true, true, true, true, true, false] rfl rfl (one_of HT_.out (by kernel_rfl)) (by decide) (fun K hK => ?_)
                                          refine goes_ Try.func34 (by kernel_rfl) rfl #[.int .u32 (rd l2_2 (ji39)), .int .i64 1] (by rfl) rfl rfl (by (try simp only [List.map_toArray, List.map_cons, List.map_nil]); first | done | (simp only [hji39]; rfl) | rfl | (simp only [List.length_drop, List.length_take]; rfl)) ?_
                                          with_reducible refine (spec_part.calls (rd l2_2 (ji39)) 1 t270 _ A42.out).mono ?_
                                          rintro e w' ⟨rfl, ⟨nd, rfl⟩⟩
                                          refine ⟨_, rfl, ?_⟩
                                          refine hK.out _ _ ⟨(blk_cell BK250.out 0).trans rfl, (blk_cell BK250.out 1).trans rfl, (blk_cell BK250.out 2).trans rfl, ((HB.out.cell (World.block_lt_of_cell? w _ hw269_0)).trans hw269_0)⟩ (fun hHeld => ?_)
                                          clear hK K
                                          refine norm_ (a' := ?_) ?_ ?_
                                          rotate_left
                                          · show Act.put _ (some 45) _ = _
                                            simp only [Act.put, List.setIfInBounds_toArray, List.set_cons_zero, List.set_cons_succ, i64_w, i32_w]
                                            rfl
                                          refine pure_ (i := 16) (N := some 13) (v := ?_) (a' := ?_) #[true, true, true, true, true, true, true, true, true, true, true, true, true, true, true, true, true] rfl rfl (any_of HT_.out (by kernel_rfl)) (fun _ _ _ h => h) (Or.inl ⟨by rfl, ?_⟩) ?_ ?_
                                          rotate_left
                                          · intro w'
                                            go_simp
                                            with_reducible rfl
                                          rotate_left
                                          · simp only [Act.put, List.setIfInBounds_toArray, List.set_cons_zero, List.set_cons_succ, i64_w, i32_w]
                                            rfl
                                          refine done_ (done_of HT_.out (by kernel_rfl)) ?_
                                          try go_wp2
                                          (try (rw [drewN_self w60]; generalize hq_ : World.drewN w60 _ = w60; have n0_ : Aside0 (Kd.R (Kd.int .u32) 38 w60 w.heap.size (fun _ => True) u7 x7_1) := ⟨by rw [← hq_]; exact (by (with_reducible repeat (first | apply Kd.R_alloc | apply Kd.R_drewN | apply Kd.R_drew)); exact HO_7.out)⟩; have n1_ : Aside0 (w60.heap[gb250]? = some (.cells #[.int .i64 a2_0, .int .i64 a2_1, .slice (some ad269) l2_2.length c2_2] 47 (0, 0))) := ⟨by rw [← hq_]; exact (by (with_reducible repeat (first | refine blk_drewN ?_ _ | refine blk_drew ?_ | refine blk_alloc ?_ _)); exact BK250.out)⟩; have n2_ : Aside0 (Below w.heap.size w w60) := ⟨by rw [← hq_]; exact (by repeat (first | (with_reducible first | exact HB.out | apply below_alloc | apply pw_below_drewN | apply below_drew1 | refine below_set ?_ GE250.out) | exact HB.out))⟩; clear HO_7 BK250 HB hq_; have HO_7 := n0_; have BK250 := n1_; have HB := n2_; clear n0_ n1_ n2_))
                                          have n0_ := Aside0.mk (Kd.R_drew HO_7.out)
                                          have n1_ := Aside0.mk (blk_drew BK250.out)
                                          have n2_ := Aside0.mk (below_drew1 HB.out)
                                          clear HO_7
                                          clear BK250
                                          clear HB
                                          have HO_7 := n0_
                                          have BK250 := n1_
                                          have HB := n2_
                                          clear n0_ n1_ n2_
                                          obtain ⟨Ao62, co62, eo62⟩ := Kd.R_slice HO_7.out
                                          (first | subst eo62 | (injection eo62 with f1_ f2_ f3_; have f4_ := f1_.symm; have f5_ := f3_.symm; clear f1_ f2_ f3_; subst f4_; subst f5_))
                                          have p271 : 0 ≤ ((ji43) : Int) := of_decide_eq_true (by first | (with_reducible assumption) | assumption)
                                          have q271 : (ji43) < (x7_1.length : Int) := of_decide_eq_true (by first | (with_reducible assumption) | assumption)
                                          obtain ⟨ad271, e271, hx271_0⟩ := Kd.at_int (Kd.R_reads' HO_7.out).2.2 (ji43) p271 q271
                                          cases e271
                                          replace p271 := eq_true p271
                                          replace q271 := eq_true q271
                                          have p272 : 0 ≤ ((ji46) : Int) := of_decide_eq_true (by first | (with_reducible assumption) | assumption)
                                          have q272 : (ji46) < (x7_1.length : Int) := of_decide_eq_true (by first | (with_reducible assumption) | assumption)
                                          obtain ⟨ad272, e272, hx272_0⟩ := Kd.at_int (Kd.R_reads' HO_7.out).2.2 (ji46) p272 q272
                                          obtain rfl : ad271 = ad272 := (by injection e272)
                                          replace p272 := eq_true p272
                                          replace q272 := eq_true q272
                                          have p273 : 0 ≤ ((ji49) : Int) := of_decide_eq_true (by first | (with_reducible assumption) | assumption)
                                          have q273 : (ji49) < (x7_1.length : Int) := of_decide_eq_true (by first | (with_reducible assumption) | assumption)
                                          obtain ⟨ad273, e273, hx273_0⟩ := Kd.at_int (Kd.R_reads' HO_7.out).2.2 (ji49) p273 q273
                                          obtain rfl : ad271 = ad273 := (by injection e273)
                                          replace p273 := eq_true p273
                                          replace q273 := eq_true q273
                                          have p274 : 0 ≤ ((ji52) : Int) := of_decide_eq_true (by first | (with_reducible assumption) | assumption)
                                          have q274 : (ji52) < (x7_1.length : Int) := of_decide_eq_true (by first | (with_reducible assumption) | assumption)
                                          obtain ⟨ad274, e274, hx274_0⟩ := Kd.at_int (Kd.R_reads' HO_7.out).2.2 (ji52) p274 q274
                                          obtain rfl : ad271 = ad274 := (by injection e274)
                                          replace p274 := eq_true p274
                                          replace q274 := eq_true q274
                                          refine start_ (n := 28) (S := fun w' => w'.cell? (ad271.add ((ji43)).toNat) = some (.int .u32 (rd x7_1 (ji43))) ∧ w'.cell? (ad271.add ((ji46)).toNat) = some (.int .u32 (rd x7_1 (ji46))) ∧ w'.cell? (ad271.add ((ji49)).toNat) = some (.int .u32 (rd x7_1 (ji49))) ∧ w'.cell? (ad271.add ((ji52)).toNat) = some (.int .u32 (rd x7_1 (ji52)))) (ds := []) #[false, false, false, false, false, false, false, false, false, false, false, false, false, false, false, false, false, false, false, false, false, false, false, false, false, false, false, false] (by kernel_rfl) rfl rfl ⟨hx271_0, hx272_0, hx273_0, hx274_0⟩ (fun hHeld => ?_); refine with_tabW spec_unpredicted.tab9 spec_unpredicted.bits9 (fun HT_ HW_ => ?_)
                                          generalize w60.drew = w61 at HO_7 BK250 HB hx271_0 hx272_0 hx273_0 hx274_0 hHeld ⊢
                                          refine pure_ (i := 0) (N := some 46) (v := ?_) (a' := ?_) #[true, false, false, false, false, false, false, false, false, false, false, false, false, false, false, false, false, false, false, false, false, false, false, false, false, false, false, false] rfl rfl (any_of HT_.out (by kernel_rfl)) (fun _ _ _ h => h) (Or.inl ⟨by rfl, ?_⟩) ?_ ?_
                                          rotate_left
                                          · intro w'
                                            go_simp
                                            with_reducible rfl
                                          rotate_left
                                          · simp only [Act.put, List.setIfInBounds_toArray, List.set_cons_zero, List.set_cons_succ, i64_w, i32_w]
                                            rfl
                                          refine pure_ (i := 1) (N := some 47) (v := ?_) (a' := ?_) #[true, true, false, false, false, false, false, false, false, false, false, false, false, false, false, false, false, false, false, false, false, false, false, false, false, false, false, false] rfl rfl (any_of HT_.out (by kernel_rfl)) (fun _ _ _ h => h) (Or.inl ⟨by rfl, ?_⟩) ?_ ?_
                                          rotate_left
                                          · intro w'
                                            go_simp
                                            with_reducible rfl
                                          rotate_left
                                          · simp only [Act.put, List.setIfInBounds_toArray, List.set_cons_zero, List.set_cons_succ, i64_w, i32_w]
                                            rfl
                                          refine pure_ (i := 2) (N := some 48) (v := ?_) (a' := ?_) #[true, true, true, false, false, false, false, false, false, false, false, false, false, false, false, false, false, false, false, false, false, false, false, false, false, false, false, false] rfl rfl (any_of HT_.out (by kernel_rfl)) (fun _ _ _ h => h) (Or.inl ⟨by rfl, ?_⟩) ?_ ?_
                                          rotate_left
                                          · intro w'
                                            go_simp
                                            with_reducible rfl
                                          rotate_left
                                          · simp only [Act.put, List.setIfInBounds_toArray, List.set_cons_zero, List.set_cons_succ, i64_w, i32_w]
                                            rfl
                                          refine pure_ (i := 3) (N := some 49) (v := ?_) (a' := ?_) #[true, true, true, true, false, false, false, false, false, false, false, false, false, false, false, false, false, false, false, false, false, false, false, false, false, false, false, false] rfl rfl (any_of HT_.out (by kernel_rfl)) (fun _ _ _ h => h) (Or.inl ⟨by rfl, ?_⟩) ?_ ?_
                                          rotate_left
                                          · intro w'
                                            go_simp
                                            with_reducible rfl
                                          rotate_left
                                          · simp only [Act.put, List.setIfInBounds_toArray, List.set_cons_zero, List.set_cons_succ, i64_w, i32_w]
                                            rfl
                                          refine pure_ (i := 4) (N := some 50) (v := ?_) (a' := ?_) #[true, true, true, true, true, false, false, false, false, false, false, false, false, false, false, false, false, false, false, false, false, false, false, false, false, false, false, false] rfl rfl (any_of HT_.out (by kernel_rfl)) (fun _ _ _ h => h) (Or.inl ⟨by rfl, ?_⟩) ?_ ?_
                                          rotate_left
                                          · intro w'
                                            go_simp
                                            with_reducible rfl
                                          rotate_left
                                          · simp only [Act.put, List.setIfInBounds_toArray, List.set_cons_zero, List.set_cons_succ, i64_w, i32_w]
                                            rfl
                                          refine pure_ (i := 6) (N := some 52) (v := ?_) (a' := ?_) #[true, true, true, true, true, false, true, false, false, false, false, false, false, false, false, false, false, false, false, false, false, false, false, false, false, false, false, false] rfl rfl (any_of HT_.out (by kernel_rfl)) (fun _ _ _ h => h) (Or.inl ⟨by rfl, ?_⟩) ?_ ?_
                                          rotate_left
                                          · intro w'
                                            go_simp
                                            with_reducible rfl
                                          rotate_left
                                          · simp only [Act.put, List.setIfInBounds_toArray, List.set_cons_zero, List.set_cons_succ, i64_w, i32_w]
                                            rfl
                                          refine pure_ (i := 7) (N := some 53) (v := ?_) (a' := ?_) #[true, true, true, true, true, false, true, true, false, false, false, false, false, false, false, false, false, false, false, false, false, false, false, false, false, false, false, false] rfl rfl (any_of HT_.out (by kernel_rfl)) (fun _ _ _ h => h) (Or.inl ⟨by rfl, ?_⟩) ?_ ?_
                                          rotate_left
                                          · intro w'
                                            go_simp
                                            with_reducible rfl
                                          rotate_left
                                          · simp only [Act.put, List.setIfInBounds_toArray, List.set_cons_zero, List.set_cons_succ, i64_w, i32_w]
                                            rfl
                                          refine pure_ (i := 8) (N := some 54) (v := ?_) (a' := ?_) #[true, true, true, true, true, false, true, true, true, false, false, false, false, false, false, false, false, false, false, false, false, false, false, false, false, false, false, false] rfl rfl (any_of HT_.out (by kernel_rfl)) (fun _ _ _ h => h) (Or.inl ⟨by rfl, ?_⟩) ?_ ?_
                                          rotate_left
                                          · intro w'
                                            go_simp
                                            with_reducible rfl
                                          rotate_left
                                          · simp only [Act.put, List.setIfInBounds_toArray, List.set_cons_zero, List.set_cons_succ, i64_w, i32_w]
                                            rfl
                                          refine pure_ (i := 9) (N := some 55) (v := ?_) (a' := ?_) #[true, true, true, true, true, false, true, true, true, true, false, false, false, false, false, false, false, false, false, false, false, false, false, false, false, false, false, false] rfl rfl (any_of HT_.out (by kernel_rfl)) (fun _ _ _ h => h) (Or.inl ⟨by rfl, ?_⟩) ?_ ?_
                                          rotate_left
                                          · intro w'
                                            go_simp
                                            with_reducible rfl
                                          rotate_left
                                          · simp only [Act.put, List.setIfInBounds_toArray, List.set_cons_zero, List.set_cons_succ, i64_w, i32_w]
                                            rfl
                                          refine pure_ (i := 10) (N := some 56) (v := ?_) (a' := ?_) #[true, true, true, true, true, false, true, true, true, true, true, false, false, false, false, false, false, false, false, false, false, false, false, false, false, false, false, false] rfl rfl (any_of HT_.out (by kernel_rfl)) (fun _ _ _ h => h) (Or.inl ⟨by rfl, ?_⟩) ?_ ?_
                                          rotate_left
                                          · intro w'
                                            go_simp
                                            with_reducible rfl
                                          rotate_left
                                          · simp only [Act.put, List.setIfInBounds_toArray, List.set_cons_zero, List.set_cons_succ, i64_w, i32_w]
                                            rfl
                                          refine pure_ (i := 12) (N := some 58) (v := ?_) (a' := ?_) #[true, true, true, true, true, false, true, true, true, true, true, false, true, false, false, false, false, false, false, false, false, false, false, false, false, false, false, false] rfl rfl (any_of HT_.out (by kernel_rfl)) (fun _ _ _ h => h) (Or.inl ⟨by rfl, ?_⟩) ?_ ?_
                                          rotate_left
                                          · intro w'
                                            go_simp
                                            with_reducible rfl
                                          rotate_left
                                          · simp only [Act.put, List.setIfInBounds_toArray, List.set_cons_zero, List.set_cons_succ, i64_w, i32_w]
                                            rfl
                                          refine pure_ (i := 13) (N := some 59) (v := ?_) (a' := ?_) #[true, true, true, true, true, false, true, true, true, true, true, false, true, true, false, false, false, false, false, false, false, false, false, false, false, false, false, false] rfl rfl (any_of HT_.out (by kernel_rfl)) (fun _ _ _ h => h) (Or.inl ⟨by rfl, ?_⟩) ?_ ?_
                                          rotate_left
                                          · intro w'
                                            go_simp
                                            with_reducible rfl
                                          rotate_left
                                          · simp only [Act.put, List.setIfInBounds_toArray, List.set_cons_zero, List.set_cons_succ, i64_w, i32_w]
                                            rfl
                                          refine pure_ (i := 14) (N := some 60) (v := ?_) (a' := ?_) #[true, true, true, true, true, false, true, true, true, true, true, false, true, true, true, false, false, false, false, false, false, false, false, false, false, false, false, false] rfl rfl (any_of HT_.out (by kernel_rfl)) (fun _ _ _ h => h) (Or.inl ⟨by rfl, ?_⟩) ?_ ?_
                                          rotate_left
                                          · intro w'
                                            go_simp
                                            with_reducible rfl
                                          rotate_left
                                          · simp only [Act.put, List.setIfInBounds_toArray, List.set_cons_zero, List.set_cons_succ, i64_w, i32_w]
                                            rfl
                                          refine pure_ (i := 15) (N := some 61) (v := ?_) (a' := ?_) #[true, true, true, true, true, false, true, true, true, true, true, false, true, true, true, true, false, false, false, false, false, false, false, false, false, false, false, false] rfl rfl (any_of HT_.out (by kernel_rfl)) (fun _ _ _ h => h) (Or.inl ⟨by rfl, ?_⟩) ?_ ?_
                                          rotate_left
                                          · intro w'
                                            go_simp
                                            with_reducible rfl
                                          rotate_left
                                          · simp only [Act.put, List.setIfInBounds_toArray, List.set_cons_zero, List.set_cons_succ, i64_w, i32_w]
                                            rfl
                                          refine pure_ (i := 16) (N := some 62) (v := ?_) (a' := ?_) #[true, true, true, true, true, false, true, true, true, true, true, false, true, true, true, true, true, false, false, false, false, false, false, false, false, false, false, false] rfl rfl (any_of HT_.out (by kernel_rfl)) (fun _ _ _ h => h) (Or.inl ⟨by rfl, ?_⟩) ?_ ?_
                                          rotate_left
                                          · intro w'
                                            go_simp
                                            with_reducible rfl
                                          rotate_left
                                          · simp only [Act.put, List.setIfInBounds_toArray, List.set_cons_zero, List.set_cons_succ, i64_w, i32_w]
                                            rfl
                                          refine pure_ (i := 17) (N := some 63) (v := ?_) (a' := ?_) #[true, true, true, true, true, false, true, true, true, true, true, false, true, true, true, true, true, true, false, false, false, false, false, false, false, false, false, false] rfl rfl (any_of HT_.out (by kernel_rfl)) (fun _ _ _ h => h) (Or.inl ⟨by rfl, ?_⟩) ?_ ?_
                                          rotate_left
                                          · intro w'
                                            go_simp
                                            with_reducible rfl
                                          rotate_left
                                          · simp only [Act.put, List.setIfInBounds_toArray, List.set_cons_zero, List.set_cons_succ, i64_w, i32_w]
                                            rfl
                                          refine pure_ (i := 19) (N := some 65) (v := ?_) (a' := ?_) #[true, true, true, true, true, false, true, true, true, true, true, false, true, true, true, true, true, true, false, true, false, false, false, false, false, false, false, false] rfl rfl (any_of HT_.out (by kernel_rfl)) (fun _ _ _ h => h) (Or.inl ⟨by rfl, ?_⟩) ?_ ?_
                                          rotate_left
                                          · intro w'
                                            go_simp
                                            with_reducible rfl
                                          rotate_left
                                          · simp only [Act.put, List.setIfInBounds_toArray, List.set_cons_zero, List.set_cons_succ, i64_w, i32_w]
                                            rfl
                                          refine pure_ (i := 20) (N := some 66) (v := ?_) (a' := ?_) #[true, true, true, true, true, false, true, true, true, true, true, false, true, true, true, true, true, true, false, true, true, false, false, false, false, false, false, false] rfl rfl (any_of HT_.out (by kernel_rfl)) (fun _ _ _ h => h) (Or.inl ⟨by rfl, ?_⟩) ?_ ?_
                                          rotate_left
                                          · intro w'
                                            go_simp
                                            with_reducible rfl
                                          rotate_left
                                          · simp only [Act.put, List.setIfInBounds_toArray, List.set_cons_zero, List.set_cons_succ, i64_w, i32_w]
                                            rfl
                                          refine pure_ (i := 21) (N := some 67) (v := ?_) (a' := ?_) #[true, true, true, true, true, false, true, true, true, true, true, false, true, true, true, true, true, true, false, true, true, true, false, false, false, false, false, false] rfl rfl (any_of HT_.out (by kernel_rfl)) (fun _ _ _ h => h) (Or.inl ⟨by rfl, ?_⟩) ?_ ?_
                                          rotate_left
                                          · intro w'
                                            go_simp
                                            with_reducible rfl
                                          rotate_left
                                          · simp only [Act.put, List.setIfInBounds_toArray, List.set_cons_zero, List.set_cons_succ, i64_w, i32_w]
                                            rfl
                                          refine pure_ (i := 22) (N := some 68) (v := ?_) (a' := ?_) #[true, true, true, true, true, false, true, true, true, true, true, false, true, true, true, true, true, true, false, true, true, true, true, false, false, false, false, false] rfl rfl (any_of HT_.out (by kernel_rfl)) (fun _ _ _ h => h) (Or.inl ⟨by rfl, ?_⟩) ?_ ?_
                                          rotate_left
                                          · intro w'
                                            go_simp
                                            with_reducible rfl
                                          rotate_left
                                          · simp only [Act.put, List.setIfInBounds_toArray, List.set_cons_zero, List.set_cons_succ, i64_w, i32_w]
                                            rfl
                                          refine pure_ (i := 23) (N := some 69) (v := ?_) (a' := ?_) #[true, true, true, true, true, false, true, true, true, true, true, false, true, true, true, true, true, true, false, true, true, true, true, true, false, false, false, false] rfl rfl (any_of HT_.out (by kernel_rfl)) (fun _ _ _ h => h) (Or.inl ⟨by rfl, ?_⟩) ?_ ?_
                                          rotate_left
                                          · intro w'
                                            go_simp
                                            with_reducible rfl
                                          rotate_left
                                          · simp only [Act.put, List.setIfInBounds_toArray, List.set_cons_zero, List.set_cons_succ, i64_w, i32_w]
                                            rfl
                                          refine pure_ (i := 24) (N := some 70) (v := ?_) (a' := ?_) #[true, true, true, true, true, false, true, true, true, true, true, false, true, true, true, true, true, true, false, true, true, true, true, true, true, false, false, false] rfl rfl (any_of HT_.out (by kernel_rfl)) (fun _ _ _ h => h) (Or.inl ⟨by rfl, ?_⟩) ?_ ?_
                                          rotate_left
                                          · intro w'
                                            go_simp
                                            with_reducible rfl
                                          rotate_left
                                          · simp only [Act.put, List.setIfInBounds_toArray, List.set_cons_zero, List.set_cons_succ, i64_w, i32_w]
                                            rfl
                                          refine take_ (i := 5) (N := some 51) (v := ?_) (a' := ?_) #[true, true, true, true, true, true, true, true, true, true, true, false, true, true, true, true, true, true, false, true, true, true, true, true, true, false, false, false] rfl rfl (take_ofW HT_.out HW_.out (by kernel_rfl)) (fun _ _ _ h => h) (Or.inl ⟨by rfl, ?_⟩) hHeld ?_ ?_
                                          rotate_left
                                          · rintro w' ⟨s0, s1, s2, s3⟩
                                            go_simp
                                            with_reducible rfl
                                          rotate_left
                                          · simp only [Act.put, List.setIfInBounds_toArray, List.set_cons_zero, List.set_cons_succ, i64_w, i32_w]
                                            rfl
                                          refine take_ (i := 11) (N := some 57) (v := ?_) (a' := ?_) #[true, true, true, true, true, true, true, true, true, true, true, true, true, true, true, true, true, true, false, true, true, true, true, true, true, false, false, false] rfl rfl (take_ofW HT_.out HW_.out (by kernel_rfl)) (fun _ _ _ h => h) (Or.inl ⟨by rfl, ?_⟩) hHeld ?_ ?_
                                          rotate_left
                                          · rintro w' ⟨s0, s1, s2, s3⟩
                                            go_simp
                                            with_reducible rfl
                                          rotate_left
                                          · simp only [Act.put, List.setIfInBounds_toArray, List.set_cons_zero, List.set_cons_succ, i64_w, i32_w]
                                            rfl
                                          refine take_ (i := 18) (N := some 64) (v := ?_) (a' := ?_) #[true, true, true, true, true, true, true, true, true, true, true, true, true, true, true, true, true, true, true, true, true, true, true, true, true, false, false, false] rfl rfl (take_ofW HT_.out HW_.out (by kernel_rfl)) (fun _ _ _ h => h) (Or.inl ⟨by rfl, ?_⟩) hHeld ?_ ?_
                                          rotate_left
                                          · rintro w' ⟨s0, s1, s2, s3⟩
                                            go_simp
                                            with_reducible rfl
                                          rotate_left
                                          · simp only [Act.put, List.setIfInBounds_toArray, List.set_cons_zero, List.set_cons_succ, i64_w, i32_w]
                                            rfl
                                          refine take_ (i := 25) (N := some 71) (v := ?_) (a' := ?_) #[true, true, true, true, true, true, true, true, true, true, true, true, true, true, true, true, true, true, true, true, true, true, true, true, true, true, false, false] rfl rfl (take_ofW HT_.out HW_.out (by kernel_rfl)) (fun _ _ _ h => h) (Or.inl ⟨by rfl, ?_⟩) hHeld ?_ ?_
                                          rotate_left
                                          · rintro w' ⟨s0, s1, s2, s3⟩
                                            go_simp
                                            with_reducible rfl
                                          rotate_left
                                          · simp only [Act.put, List.setIfInBounds_toArray, List.set_cons_zero, List.set_cons_succ, i64_w, i32_w]
                                            rfl
                                          refine one_ (i := 26) (N := some 72) #[true, true, true, true, true, true, true, true, true, true, true, true, true, true, true, true, true, true, true, true, true, true, true, true, true, true, true, false] rfl rfl (one_of HT_.out (by kernel_rfl)) (by decide) (fun K hK => ?_)
                                          refine goes_ Try.func35 (by kernel_rfl) rfl #[.int .i64 t270, .int .u32 (rd x7_1 (ji43)), .int .u32 (rd x7_1 (ji46)), .int .u32 (rd x7_1 (ji49)), .int .u32 (rd x7_1 (ji52))] (by rfl) rfl rfl (by (try simp only [List.map_toArray, List.map_cons, List.map_nil]); first | done | (simp only [hji43, hji46, hji49, hji52]; rfl) | rfl | (simp only [List.length_drop, List.length_take]; rfl)) ?_
                                          with_reducible refine (spec_foretold.calls k1 t270 (rd x7_1 (ji43)) (rd x7_1 (ji46)) (rd x7_1 (ji49)) (rd x7_1 (ji52)) t275 _ A55.out).mono ?_
                                          rintro e w63 ⟨rfl, hb⟩
                                          have HS0_ := (hb.cell (World.block_lt_of_cell? _ _ (hHeld.1))).trans (hHeld.1)
                                          have HS1_ := (hb.cell (World.block_lt_of_cell? _ _ (hHeld.2.1))).trans (hHeld.2.1)
                                          have HS2_ := (hb.cell (World.block_lt_of_cell? _ _ (hHeld.2.2.1))).trans (hHeld.2.2.1)
                                          have HS3_ := (hb.cell (World.block_lt_of_cell? _ _ (hHeld.2.2.2))).trans (hHeld.2.2.2)
                                          refine ⟨_, rfl, ?_⟩
                                          have n0_ := Aside0.mk (Kd.R_below (by (with_reducible repeat (first | apply Kd.R_alloc | apply Kd.R_drewN | apply Kd.R_drew)); exact HO_7.out) hb)
                                          have n1_ := Aside0.mk (blk_below (g := gb250) (o := .cells #[.int .i64 a2_0, .int .i64 a2_1, .slice (some ad269) l2_2.length c2_2] 47 (0, 0)) (by (with_reducible repeat (first | refine blk_drewN ?_ _ | refine blk_drew ?_ | refine blk_alloc ?_ _)); exact BK250.out) hb)
                                          have n2_ := Aside0.mk (below_step (by repeat (first | (with_reducible first | exact HB.out | apply below_alloc | apply pw_below_drewN | apply below_drew1 | refine below_set ?_ GE250.out) | exact HB.out)) hb)
                                          clear HO_7
                                          clear BK250
                                          clear HB
                                          have HO_7 := n0_
                                          have BK250 := n1_
                                          have HB := n2_
                                          clear n0_ n1_ n2_
                                          (try clear hb)
                                          (try clear hb2)
                                          (try clear hk)
                                          (try clear hi)
                                          refine hK.out _ _ ⟨HS0_, HS1_, HS2_, HS3_⟩ (fun hHeld => ?_)
                                          clear hK K
                                          refine norm_ (a' := ?_) ?_ ?_
                                          rotate_left
                                          · show Act.put _ (some 72) _ = _
                                            simp only [Act.put, List.setIfInBounds_toArray, List.set_cons_zero, List.set_cons_succ, i64_w, i32_w]
                                            rfl
                                          refine pure_ (i := 27) (N := some 12) (v := ?_) (a' := ?_) #[true, true, true, true, true, true, true, true, true, true, true, true, true, true, true, true, true, true, true, true, true, true, true, true, true, true, true, true] rfl rfl (any_of HT_.out (by kernel_rfl)) (fun _ _ _ h => h) (Or.inl ⟨by rfl, ?_⟩) ?_ ?_
                                          rotate_left
                                          · intro w'
                                            go_simp
                                            with_reducible rfl
                                          rotate_left
                                          · simp only [Act.put, List.setIfInBounds_toArray, List.set_cons_zero, List.set_cons_succ, i64_w, i32_w]
                                            rfl
                                          refine done_ (done_of HT_.out (by kernel_rfl)) ?_
                                          have p276 : 0 ≤ (x9_1 : Int) := of_decide_eq_true (by first | (with_reducible assumption) | assumption)
                                          have q276 : x9_1 < (l0.length : Int) := of_decide_eq_true (by first | (with_reducible assumption) | assumption)
                                          obtain ⟨ad276, e276, hx276_0⟩ := Kd.at_int HR0.out x9_1 p276 q276
                                          cases e276
                                          replace hx276_0 := (HB.out.cell (World.block_lt_of_cell? w _ hx276_0)).trans hx276_0
                                          replace p276 := eq_true p276
                                          replace q276 := eq_true q276
                                          try go_wp2_with (first | ((with_reducible refine gate_callee (f := 36) rfl ?_); refine goesL_ (some 99) rfl rfl Try.func36 (by kernel_rfl) rfl #[.int .u32 (rd l0 x9_1), .int .u32 t275] rfl (by (try simp only [List.map_toArray, List.map_cons, List.map_nil]); first | done | rfl | (simp only [List.length_drop, List.length_take]; rfl)) ?_; (with_reducible refine (spec_added.calls k1 (rd l0 x9_1) t275 t277 _ A57.out).mono ?_); rintro e w' ⟨rfl, ⟨nd, rfl⟩⟩; refine ⟨_, rfl, ?_⟩) | ((with_reducible refine gate_builtin (b := .append) (xs := #[.tmp 93, .tmp 100]) rfl ?_); at_builtin; refine Kd.R_append (Kd.int .u32) (w0 := w) w.heap.size rfl (.tmp 93) (.tmp 100) 31 38 (.int .u32 0) 4 rfl Try.underlying31 info38 rfl (by decide) (by omega) (.slice (some ad271) x7_1.length co62) x7_1 t277 [.int .u32 t277] (fun _ => True) (fun _ => False) rfl rfl ?aP (fun _ hk => hk.elim) ?aF ?aO ?aB ?aS ?aL ?_; (case aP => exact rfl); (case aB => exact (by repeat (first | (with_reducible first | exact HB.out | apply below_alloc | apply pw_below_drewN | apply below_drew1 | refine below_set ?_ GE250.out) | exact HB.out))); (case aF => exact (fun _ _ => trivial)); (case aO => exact (by (with_reducible repeat (first | apply Kd.R_alloc | apply Kd.R_drewN | apply Kd.R_drew)); exact HO_7.out)); (case aS => exact (below_size (by repeat (first | (with_reducible first | exact HB.out | apply below_alloc | apply pw_below_drewN | apply below_drew1 | refine below_set ?_ GE250.out) | exact HB.out)))); (case aL => have := LMc58.out; omega); intro v279 w64 ho hb hg hat; rw [← Ny278.out] at ho; have n0_ := Aside0.mk (blk_grown (g := gb250) (o := .cells #[.int .i64 a2_0, .int .i64 a2_1, .slice (some ad269) l2_2.length c2_2] 47 (0, 0)) (by (with_reducible repeat (first | refine blk_drewN ?_ _ | refine blk_drew ?_ | refine blk_alloc ?_ _)); exact BK250.out) hg (Kd.R_ne HO_7.out BK250.out (by decide))); have n1_ := Aside0.mk (hb); have n2_ := Aside0.mk (ho); clear BK250; clear HB; clear HO_7; have BK250 := n0_; have HB := n1_; have HO280 := n2_; clear n0_ n1_ n2_; clear ho hb hg hat))
                                          go_roundg k1
                                          case measure => have := HK1.out; omega
                                          case rel => exact ⟨(y278), (wrap64 (x9_1 + 1)), (by first | rfl | (simp; done) | (simp [*]; done)), H', ⟨by have := HK1.out; omega⟩, ⟨by (with_reducible repeat (first | apply Kd.R_alloc | apply Kd.R_drewN | apply Kd.R_drew)); exact HO280.out⟩, ⟨by (with_reducible repeat (first | refine blk_drewN ?_ _ | refine blk_drew ?_ | refine blk_alloc ?_ _)); exact BK250.out⟩, ⟨by repeat (first | (with_reducible first | exact HB.out | apply below_alloc | apply pw_below_drewN | apply below_drew1 | refine below_set ?_ GE250.out) | exact HB.out)⟩⟩
                                        · rw [if_neg c58] at H
                                          exact absurd H (by simp)
                                      · rw [if_neg c56] at H
                                        exact absurd H (by simp)
                                    · rw [if_neg c54] at H
                                      exact absurd H (by simp)
                                  · rw [if_neg c53] at H
                                    exact absurd H (by simp)
                                · rw [if_neg c51] at H
                                  exact absurd H (by simp)
                              · rw [if_neg c50] at H
                                exact absurd H (by simp)
                            · rw [if_neg c48] at H
                              exact absurd H (by simp)
                          · rw [if_neg c47] at H
                            exact absurd H (by simp)
                        · rw [if_neg c45] at H
                          exact absurd H (by simp)
                      · rw [if_neg c44] at H
                        exact absurd H (by simp)
                    · rw [if_neg c41] at H
                      exact absurd H (by simp)
                  · rw [if_neg c40] at H
                    exact absurd H (by simp)
                · rw [if_neg c35] at H
                  exact absurd H (by simp)
      · rw [if_neg c7] at H
        have c7b0 : decide (x9_1 < (l0.length : Int)) = false := decide_eq_false c7
        clear c7
        obtain rfl := Option.some.inj H
        go_wp2
        go_ret
        exact ⟨_, by first | rfl | (simp [errW_none, errW_some] <;> rfl) | (simp [*, errW_none, errW_some] <;> rfl), by (with_reducible repeat (first | apply Kd.R_alloc | apply Kd.R_drewN | apply Kd.R_drew)); exact HO_7.out, by repeat (first | (with_reducible first | exact HB.out | apply below_alloc | apply pw_below_drewN | apply below_drew1 | refine below_set ?_ GE250.out) | exact HB.out)⟩

end Go.Proofs.Ytgjcikajfnlocaa.PFnPredictor
