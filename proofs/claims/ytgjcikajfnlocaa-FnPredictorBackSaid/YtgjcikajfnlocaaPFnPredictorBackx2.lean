-- PRINTED BY print.sh 35421559b90ae4d0a3588c463048766b98c2df88dd9212a6774a882060cdf62d: not written by this session
import Derived.Test.YtgjcikajfnlocaaPFnPredictorBackx0
import Derived.Test.YtgjcikajfnlocaaPFnPredictorBackx1
namespace Go.Proofs.Ytgjcikajfnlocaa.PFnPredictorBack
open Go.RowKit Go.Proofs.YtgjcikajfnlocaaW.PrintWords Go.Proofs.YtgjcikajfnlocaaW.PrintLast Go.Proofs.YtgjcikajfnlocaaW.PrintMore
attribute [local go_sem] max2_int min2_int max_two min_two max_three min_three max_four min_four   -- for this text's walks alone
set_option linter.unusedVariables false
set_option linter.unusedSimpArgs false

/-! ### laws_joined4: function 12 -/
def laws_joined4.l0 : Nat → List Int → List Int → Int → Option (List Int)
  | 0, _, _, _ => none
  | k + 1, x0, x3, x4 => if (wrap64 (x4 + 3)) < (x0.length : Int) then (if 0 ≤ (wrap64 (x4 + 2)) then (if (wrap64 (x4 + 2)) < (x0.length : Int) then (if 0 ≤ (wrap64 (x4 + 1)) then (if (wrap64 (x4 + 1)) < (x0.length : Int) then (if 0 ≤ x4 then (if x4 < (x0.length : Int) then (if 0 ≤ (wrap64 (x4 + 3)) then ((laws_pixel.f (wrap64 (rd x0 (wrap64 (x4 + 2)))) (wrap64 (rd x0 (wrap64 (x4 + 1)))) (wrap64 (rd x0 x4)) (wrap64 (rd x0 (wrap64 (x4 + 3))))).bind fun t217 => (if x3.length < 35184372088832 then (laws_joined4.l0 k x0 (x3 ++ [t217]) (wrap64 (x4 + 4))) else (none))) else (none)) else (none)) else (none)) else (none)) else (none)) else (none)) else (none)) else (some x3)
def laws_joined4.f (k : Nat) (l0 : List Int) : Option (List Int) := laws_joined4.l0 k l0 ([] : List Int) 0
theorem laws_joined4.mono_l : ∀ k, (∀ y0 y1 y2, LeO (laws_joined4.l0 k y0 y1 y2) (laws_joined4.l0 (k + 1) y0 y1 y2))
  | 0 => fun _ _ _ r h => by simp [laws_joined4.l0] at h
  | k + 1 => by
    have ih0 := laws_joined4.mono_l k
    · intro y0 y1 y2
      unfold laws_joined4.l0
      repeat' first
      | (with_reducible exact ih0 _ _ _)
      | (with_reducible exact LeO.refl _)
      | (with_reducible exact LeO.none _)
      | (with_reducible refine LeO.ite ?_ ?_)
      | (with_reducible refine LeO.bind ?_ (fun _ => ?_))
      | exact ih0 _ _ _
      | exact LeO.none _
      | refine LeO.ite ?_ ?_
      | refine LeO.bind ?_ (fun _ => ?_)
theorem laws_joined4.mono : ∀ a0 k, LeO (laws_joined4.f k a0) (laws_joined4.f (k + 1) a0) := by
  intro a0 k
  have ih0 := laws_joined4.mono_l k
  unfold laws_joined4.f
  repeat' first
      | (with_reducible exact ih0 _ _ _)
      | (with_reducible exact LeO.refl _)
      | (with_reducible exact LeO.none _)
      | (with_reducible refine LeO.ite ?_ ?_)
      | (with_reducible refine LeO.bind ?_ (fun _ => ?_))
      | exact ih0 _ _ _
      | exact LeO.none _
      | refine LeO.ite ?_ ?_
      | refine LeO.bind ?_ (fun _ => ?_)
def laws_joined4.T5 : Bool × List (List Nat × List Nat) := (true, [([], []), ([], []), ([], []), ([2], [2]), ([1, 3], [1, 3]), ([4], [4]), ([5], [5]), ([], []), ([], []), ([8], [8]), ([7, 9], [7, 9]), ([10], [10]), ([11], [11]), ([], []), ([], []), ([13, 14], [13, 14]), ([15], [15]), ([16], [16]), ([], []), ([], []), ([19], [19]), ([18, 20], [18, 20]), ([21], [21]), ([22], [22]), ([6, 12, 17, 23], [6, 12, 17, 23]), ([24], [24]), ([0, 25, 24], [0, 25]), ([26, 26, 0, 1, 2, 3, 4, 5, 6, 7, 8, 9, 10, 11, 12, 13, 14, 15, 16, 17, 18, 19, 20, 21, 22, 23, 24, 25, 26], [0, 26])])
def laws_joined4.B5 : List Nat := [0, 0, 0, 4, 14, 30, 62, 0, 0, 256, 896, 1920, 3968, 0, 0, 24576, 57344, 122880, 0, 0, 524288, 1835008, 3932160, 8126464, 16777214, 33554430, 67108863, 134217727]
theorem laws_joined4.tab5 : rtab .any (opsOf Try.f12 5) = laws_joined4.T5 := by kernel_rfl
theorem laws_joined4.bits5 : waitsOk laws_joined4.T5.2 laws_joined4.B5 = true := by kernel_rfl
set_option maxHeartbeats 8000000 in
set_option maxRecDepth 100000 in
theorem laws_joined4.calls (k : Nat) (A0 : Option Addr) (c0 : Nat) (l0 : List Int) (r : List Int) (w : World) (hr0 : Kd.C (Kd.int .u8) w A0 l0.length l0) (hc0 : l0.length ≤ c0) (h : laws_joined4.f k l0 = some r) :
    Calls Try.prog 12 #[.slice A0 l0.length c0] w fun e w' => ∃ v0_ : Value, e = .returned (v0_) ∧ Kd.R (Kd.int .u32) 38 w' w.heap.size (fun _ => True) v0_ r ∧ Below w.heap.size w w' := by
  have HR0 := Aside0.mk hr0
  have HC0 := Aside0.mk hc0
  clear hr0 hc0
  have HB := Aside0.mk (Below.refl w.heap.size w)
  have H : (laws_joined4.l0 k l0 ([] : List Int) 0) = some r := h
  clear h
  have H' := Aside0.mk H
  clear H
  go_enter Try.func12, Try.ntmps12
  go_wp2
  go_loopg [3, 4] k (fun kq v3 v4 w' => ∃ (x3_1 : List Int) (x4_1 : Int), v4 = .int .i64 x4_1 ∧ Aside0 (laws_joined4.l0 kq l0 x3_1 x4_1 = some r) ∧ Aside0 (kq ≤ k) ∧ Aside0 (Kd.R (Kd.int .u32) 38 w' w.heap.size (fun _ => True) v3 x3_1) ∧ Aside0 (Below w.heap.size w w'))
  case atStart => exact ⟨(([] : List Int)), (0), (by first | rfl | (simp; done) | (simp [*]; done)), H', ⟨Nat.le_refl _⟩, ⟨by first | exact Kd.R_nil _ _ _ _ _ | exact Kd.N_nil _ _ _ _ _ | exact Kd.V_nil _ _ _ _ _ | exact Kd.Q_nil _ _ _ _ _ | exact Kd.S_nil _ _ _ _ _⟩, ⟨by repeat (first | (with_reducible first | exact HB.out | apply below_alloc | apply pw_below_drewN | apply below_drew1) | exact HB.out)⟩⟩
  case round =>
    clear H'
    try clear c1
    obtain ⟨x3_1, x4_1, rfl, HA, HK1, HO_3, HB⟩ := hrel
    cases gk with
    | zero => exact absurd HA.out (by simp [laws_joined4.l0])
    | succ k1 =>
      have H := HA.out
      clear HA
      simp only [laws_joined4.l0] at H
      by_cases c2 : (wrap64 (x4_1 + 3)) < (l0.length : Int)
      · rw [if_pos c2] at H
        have c2b0 : decide ((wrap64 (x4_1 + 3)) < (l0.length : Int)) = true := decide_eq_true c2
        clear c2
        obtain ⟨ji3, hji3⟩ : ∃ j_ : Int, (wrap64 (x4_1 + 2)) = j_ := ⟨_, rfl⟩
        replace H : (if 0 ≤ (ji3) then (if (ji3) < (l0.length : Int) then (if 0 ≤ (wrap64 (x4_1 + 1)) then (if (wrap64 (x4_1 + 1)) < (l0.length : Int) then (if 0 ≤ x4_1 then (if x4_1 < (l0.length : Int) then (if 0 ≤ (wrap64 (x4_1 + 3)) then ((laws_pixel.f (wrap64 (rd l0 (ji3))) (wrap64 (rd l0 (wrap64 (x4_1 + 1)))) (wrap64 (rd l0 x4_1)) (wrap64 (rd l0 (wrap64 (x4_1 + 3))))).bind fun t217 => (if x3_1.length < 35184372088832 then (laws_joined4.l0 k1 l0 (x3_1 ++ [t217]) (wrap64 (x4_1 + 4))) else (none))) else (none)) else (none)) else (none)) else (none)) else (none)) else (none)) else (none)) = some r := by first | (rw [hji3] at H; exact H) | (simp only [hji3] at H ⊢; exact H)
        have hji3w : (IntKind.i64.wrap (x4_1 + 2)) = ji3 := (i64_w _).trans hji3
        by_cases c4 : 0 ≤ (ji3)
        · rw [if_pos c4] at H
          have c4b0 : decide (0 ≤ (ji3)) = true := decide_eq_true c4
          clear c4
          by_cases c5 : (ji3) < (l0.length : Int)
          · rw [if_pos c5] at H
            have c5b0 : decide ((ji3) < (l0.length : Int)) = true := decide_eq_true c5
            clear c5
            obtain ⟨ji6, hji6⟩ : ∃ j_ : Int, (wrap64 (x4_1 + 1)) = j_ := ⟨_, rfl⟩
            replace H : (if 0 ≤ (ji6) then (if (ji6) < (l0.length : Int) then (if 0 ≤ x4_1 then (if x4_1 < (l0.length : Int) then (if 0 ≤ (wrap64 (x4_1 + 3)) then ((laws_pixel.f (wrap64 (rd l0 (ji3))) (wrap64 (rd l0 (ji6))) (wrap64 (rd l0 x4_1)) (wrap64 (rd l0 (wrap64 (x4_1 + 3))))).bind fun t217 => (if x3_1.length < 35184372088832 then (laws_joined4.l0 k1 l0 (x3_1 ++ [t217]) (wrap64 (x4_1 + 4))) else (none))) else (none)) else (none)) else (none)) else (none)) else (none)) = some r := by first | (rw [hji6] at H; exact H) | (simp only [hji6] at H ⊢; exact H)
            have hji6w : (IntKind.i64.wrap (x4_1 + 1)) = ji6 := (i64_w _).trans hji6
            by_cases c7 : 0 ≤ (ji6)
            · rw [if_pos c7] at H
              have c7b0 : decide (0 ≤ (ji6)) = true := decide_eq_true c7
              clear c7
              by_cases c8 : (ji6) < (l0.length : Int)
              · rw [if_pos c8] at H
                have c8b0 : decide ((ji6) < (l0.length : Int)) = true := decide_eq_true c8
                clear c8
                by_cases c9 : 0 ≤ x4_1
                · rw [if_pos c9] at H
                  have c9b0 : decide (0 ≤ x4_1) = true := decide_eq_true c9
                  clear c9
                  by_cases c10 : x4_1 < (l0.length : Int)
                  · rw [if_pos c10] at H
                    have c10b0 : decide (x4_1 < (l0.length : Int)) = true := decide_eq_true c10
                    clear c10
                    obtain ⟨ji11, hji11⟩ : ∃ j_ : Int, (wrap64 (x4_1 + 3)) = j_ := ⟨_, rfl⟩
                    replace H : (if 0 ≤ (ji11) then ((laws_pixel.f (wrap64 (rd l0 (ji3))) (wrap64 (rd l0 (ji6))) (wrap64 (rd l0 x4_1)) (wrap64 (rd l0 (ji11)))).bind fun t217 => (if x3_1.length < 35184372088832 then (laws_joined4.l0 k1 l0 (x3_1 ++ [t217]) (wrap64 (x4_1 + 4))) else (none))) else (none)) = some r := by first | (rw [hji11] at H; exact H) | (simp only [hji11] at H ⊢; exact H)
                    (try rw [hji11] at c2b0)
                    have hji11w : (IntKind.i64.wrap (x4_1 + 3)) = ji11 := (i64_w _).trans hji11
                    by_cases c12 : 0 ≤ (ji11)
                    · rw [if_pos c12] at H
                      have c12b0 : decide (0 ≤ (ji11)) = true := decide_eq_true c12
                      clear c12
                      replace H := Option.bind_eq_some_iff.mp H
                      obtain ⟨t217, A130, H⟩ := H
                      replace H : (if x3_1.length < 35184372088832 then (laws_joined4.l0 k1 l0 (x3_1 ++ [t217]) (wrap64 (x4_1 + 4))) else (none)) = some r := H
                      have A13 := Aside0.mk A130
                      clear A130
                      by_cases c14 : x3_1.length < 35184372088832
                      · rw [if_pos c14] at H
                        have LMc14 := Aside0.mk c14
                        clear c14
                        obtain ⟨y218, hy218⟩ : ∃ y_ : List Int, y_ = (x3_1 ++ [t217]) := ⟨_, rfl⟩
                        replace H : (laws_joined4.l0 k1 l0 y218 (wrap64 (x4_1 + 4))) = some r := by first | (rw [hy218]; with_reducible exact H) | (have H2_ := (Option.bind_some _ _).symm.trans H; rw [hy218]; with_reducible exact H2_) | (have H2_ := (Option.bind_some _ _).symm.trans H; with_reducible exact H2_) | with_reducible exact H | (rw [hy218]; exact H) | exact H
                        have Ny218 := Aside0.mk hy218
                        clear hy218
                        have H' := Aside0.mk H
                        clear H
                        try go_wp2
                        have n0_ := Aside0.mk (Kd.R_drew HO_3.out)
                        have n1_ := Aside0.mk (below_drew1 HB.out)
                        clear HO_3
                        clear HB
                        have HO_3 := n0_
                        have HB := n1_
                        clear n0_ n1_
                        have p213 : 0 ≤ ((ji3) : Int) := of_decide_eq_true (by first | (with_reducible assumption) | assumption)
                        have q213 : (ji3) < (l0.length : Int) := of_decide_eq_true (by first | (with_reducible assumption) | assumption)
                        obtain ⟨ad213, e213, hx213_0⟩ := Kd.at_int HR0.out (ji3) p213 q213
                        have hw213_0 := hx213_0
                        cases e213
                        replace hx213_0 := (HB.out.cell (World.block_lt_of_cell? w _ hx213_0)).trans hx213_0
                        replace p213 := eq_true p213
                        replace q213 := eq_true q213
                        have p214 : 0 ≤ ((ji6) : Int) := of_decide_eq_true (by first | (with_reducible assumption) | assumption)
                        have q214 : (ji6) < (l0.length : Int) := of_decide_eq_true (by first | (with_reducible assumption) | assumption)
                        obtain ⟨ad214, e214, hx214_0⟩ := Kd.at_int HR0.out (ji6) p214 q214
                        have hw214_0 := hx214_0
                        obtain rfl : ad213 = ad214 := (by injection e214)
                        replace hx214_0 := (HB.out.cell (World.block_lt_of_cell? w _ hx214_0)).trans hx214_0
                        replace p214 := eq_true p214
                        replace q214 := eq_true q214
                        have p215 : 0 ≤ (x4_1 : Int) := of_decide_eq_true (by first | (with_reducible assumption) | assumption)
                        have q215 : x4_1 < (l0.length : Int) := of_decide_eq_true (by first | (with_reducible assumption) | assumption)
                        obtain ⟨ad215, e215, hx215_0⟩ := Kd.at_int HR0.out x4_1 p215 q215
                        have hw215_0 := hx215_0
                        obtain rfl : ad213 = ad215 := (by injection e215)
                        replace hx215_0 := (HB.out.cell (World.block_lt_of_cell? w _ hx215_0)).trans hx215_0
                        replace p215 := eq_true p215
                        replace q215 := eq_true q215
                        have p216 : 0 ≤ ((ji11) : Int) := of_decide_eq_true (by first | (with_reducible assumption) | assumption)
                        have q216 : (ji11) < (l0.length : Int) := of_decide_eq_true (by first | (with_reducible assumption) | assumption)
                        obtain ⟨ad216, e216, hx216_0⟩ := Kd.at_int HR0.out (ji11) p216 q216
                        have hw216_0 := hx216_0
                        obtain rfl : ad213 = ad216 := (by injection e216)
                        replace hx216_0 := (HB.out.cell (World.block_lt_of_cell? w _ hx216_0)).trans hx216_0
                        replace p216 := eq_true p216
                        replace q216 := eq_true q216
                        refine start_ (n := 28) (S := fun w' => w'.cell? (ad213.add ((ji3)).toNat) = some (.int .u8 (rd l0 (ji3))) ∧ w'.cell? (ad213.add ((ji6)).toNat) = some (.int .u8 (rd l0 (ji6))) ∧ w'.cell? (ad213.add (x4_1).toNat) = some (.int .u8 (rd l0 x4_1)) ∧ w'.cell? (ad213.add ((ji11)).toNat) = some (.int .u8 (rd l0 (ji11)))) (ds := []) #[false, false, false, false, false, false, false, false, false, false, false, false, false, false, false, false, false, false, false, false, false, false, false, false, false, false, false, false] (by kernel_rfl) rfl rfl ⟨((HB.out.cell (World.block_lt_of_cell? w _ hw213_0)).trans hw213_0), ((HB.out.cell (World.block_lt_of_cell? w _ hw214_0)).trans hw214_0), ((HB.out.cell (World.block_lt_of_cell? w _ hw215_0)).trans hw215_0), ((HB.out.cell (World.block_lt_of_cell? w _ hw216_0)).trans hw216_0)⟩ (fun hHeld => ?_); refine with_tabW laws_joined4.tab5 laws_joined4.bits5 (fun HT_ HW_ => ?_)
                        generalize wr.drew = w15 at HO_3 HB hx213_0 hx214_0 hx215_0 hx216_0 hHeld ⊢
                        refine pure_ (i := 0) (N := some 12) (v := ?_) (a' := ?_) #[true, false, false, false, false, false, false, false, false, false, false, false, false, false, false, false, false, false, false, false, false, false, false, false, false, false, false, false] rfl rfl (any_of HT_.out (by kernel_rfl)) (fun _ _ _ h => h) (Or.inl ⟨by rfl, ?_⟩) ?_ ?_
                        rotate_left
                        · intro w'
                          go_simp
                          with_reducible rfl
                        rotate_left
                        · simp only [Act.put, List.setIfInBounds_toArray, List.set_cons_zero, List.set_cons_succ, i64_w, i32_w]
                          rfl
                        refine pure_ (i := 1) (N := some 13) (v := ?_) (a' := ?_) #[true, true, false, false, false, false, false, false, false, false, false, false, false, false, false, false, false, false, false, false, false, false, false, false, false, false, false, false] rfl rfl (any_of HT_.out (by kernel_rfl)) (fun _ _ _ h => h) (Or.inl ⟨by rfl, ?_⟩) ?_ ?_
                        rotate_left
                        · intro w'
                          go_simp
                          with_reducible rfl
                        rotate_left
                        · simp only [Act.put, List.setIfInBounds_toArray, List.set_cons_zero, List.set_cons_succ, i64_w, i32_w]
                          rfl
                        refine pure_ (i := 2) (N := some 14) (v := ?_) (a' := ?_) #[true, true, true, false, false, false, false, false, false, false, false, false, false, false, false, false, false, false, false, false, false, false, false, false, false, false, false, false] rfl rfl (any_of HT_.out (by kernel_rfl)) (fun _ _ _ h => h) (Or.inl ⟨by rfl, ?_⟩) ?_ ?_
                        rotate_left
                        · intro w'
                          go_simp
                          with_reducible rfl
                        rotate_left
                        · simp only [Act.put, List.setIfInBounds_toArray, List.set_cons_zero, List.set_cons_succ, i64_w, i32_w]
                          rfl
                        refine pure_ (i := 3) (N := some 15) (v := ?_) (a' := ?_) #[true, true, true, true, false, false, false, false, false, false, false, false, false, false, false, false, false, false, false, false, false, false, false, false, false, false, false, false] rfl rfl (any_of HT_.out (by kernel_rfl)) (fun _ _ _ h => h) (Or.inl ⟨by rfl, ?_⟩) ?_ ?_
                        rotate_left
                        · intro w'
                          go_simp
                          with_reducible rfl
                        rotate_left
                        · simp only [Act.put, List.setIfInBounds_toArray, List.set_cons_zero, List.set_cons_succ, i64_w, i32_w]
                          rfl
                        refine pure_ (i := 4) (N := some 16) (v := ?_) (a' := ?_) #[true, true, true, true, true, false, false, false, false, false, false, false, false, false, false, false, false, false, false, false, false, false, false, false, false, false, false, false] rfl rfl (any_of HT_.out (by kernel_rfl)) (fun _ _ _ h => h) (Or.inl ⟨by rfl, ?_⟩) ?_ ?_
                        rotate_left
                        · intro w'
                          go_simp
                          with_reducible rfl
                        rotate_left
                        · simp only [Act.put, List.setIfInBounds_toArray, List.set_cons_zero, List.set_cons_succ, i64_w, i32_w]
                          rfl
                        refine pure_ (i := 7) (N := some 19) (v := ?_) (a' := ?_) #[true, true, true, true, true, false, false, true, false, false, false, false, false, false, false, false, false, false, false, false, false, false, false, false, false, false, false, false] rfl rfl (any_of HT_.out (by kernel_rfl)) (fun _ _ _ h => h) (Or.inl ⟨by rfl, ?_⟩) ?_ ?_
                        rotate_left
                        · intro w'
                          go_simp
                          with_reducible rfl
                        rotate_left
                        · simp only [Act.put, List.setIfInBounds_toArray, List.set_cons_zero, List.set_cons_succ, i64_w, i32_w]
                          rfl
                        refine pure_ (i := 8) (N := some 20) (v := ?_) (a' := ?_) #[true, true, true, true, true, false, false, true, true, false, false, false, false, false, false, false, false, false, false, false, false, false, false, false, false, false, false, false] rfl rfl (any_of HT_.out (by kernel_rfl)) (fun _ _ _ h => h) (Or.inl ⟨by rfl, ?_⟩) ?_ ?_
                        rotate_left
                        · intro w'
                          go_simp
                          with_reducible rfl
                        rotate_left
                        · simp only [Act.put, List.setIfInBounds_toArray, List.set_cons_zero, List.set_cons_succ, i64_w, i32_w]
                          rfl
                        refine pure_ (i := 9) (N := some 21) (v := ?_) (a' := ?_) #[true, true, true, true, true, false, false, true, true, true, false, false, false, false, false, false, false, false, false, false, false, false, false, false, false, false, false, false] rfl rfl (any_of HT_.out (by kernel_rfl)) (fun _ _ _ h => h) (Or.inl ⟨by rfl, ?_⟩) ?_ ?_
                        rotate_left
                        · intro w'
                          go_simp
                          with_reducible rfl
                        rotate_left
                        · simp only [Act.put, List.setIfInBounds_toArray, List.set_cons_zero, List.set_cons_succ, i64_w, i32_w]
                          rfl
                        refine pure_ (i := 10) (N := some 22) (v := ?_) (a' := ?_) #[true, true, true, true, true, false, false, true, true, true, true, false, false, false, false, false, false, false, false, false, false, false, false, false, false, false, false, false] rfl rfl (any_of HT_.out (by kernel_rfl)) (fun _ _ _ h => h) (Or.inl ⟨by rfl, ?_⟩) ?_ ?_
                        rotate_left
                        · intro w'
                          go_simp
                          with_reducible rfl
                        rotate_left
                        · simp only [Act.put, List.setIfInBounds_toArray, List.set_cons_zero, List.set_cons_succ, i64_w, i32_w]
                          rfl
                        refine pure_ (i := 13) (N := some 25) (v := ?_) (a' := ?_) #[true, true, true, true, true, false, false, true, true, true, true, false, false, true, false, false, false, false, false, false, false, false, false, false, false, false, false, false] rfl rfl (any_of HT_.out (by kernel_rfl)) (fun _ _ _ h => h) (Or.inl ⟨by rfl, ?_⟩) ?_ ?_
                        rotate_left
                        · intro w'
                          go_simp
                          with_reducible rfl
                        rotate_left
                        · simp only [Act.put, List.setIfInBounds_toArray, List.set_cons_zero, List.set_cons_succ, i64_w, i32_w]
                          rfl
                        refine pure_ (i := 14) (N := some 26) (v := ?_) (a' := ?_) #[true, true, true, true, true, false, false, true, true, true, true, false, false, true, true, false, false, false, false, false, false, false, false, false, false, false, false, false] rfl rfl (any_of HT_.out (by kernel_rfl)) (fun _ _ _ h => h) (Or.inl ⟨by rfl, ?_⟩) ?_ ?_
                        rotate_left
                        · intro w'
                          go_simp
                          with_reducible rfl
                        rotate_left
                        · simp only [Act.put, List.setIfInBounds_toArray, List.set_cons_zero, List.set_cons_succ, i64_w, i32_w]
                          rfl
                        refine pure_ (i := 15) (N := some 27) (v := ?_) (a' := ?_) #[true, true, true, true, true, false, false, true, true, true, true, false, false, true, true, true, false, false, false, false, false, false, false, false, false, false, false, false] rfl rfl (any_of HT_.out (by kernel_rfl)) (fun _ _ _ h => h) (Or.inl ⟨by rfl, ?_⟩) ?_ ?_
                        rotate_left
                        · intro w'
                          go_simp
                          with_reducible rfl
                        rotate_left
                        · simp only [Act.put, List.setIfInBounds_toArray, List.set_cons_zero, List.set_cons_succ, i64_w, i32_w]
                          rfl
                        refine pure_ (i := 18) (N := some 30) (v := ?_) (a' := ?_) #[true, true, true, true, true, false, false, true, true, true, true, false, false, true, true, true, false, false, true, false, false, false, false, false, false, false, false, false] rfl rfl (any_of HT_.out (by kernel_rfl)) (fun _ _ _ h => h) (Or.inl ⟨by rfl, ?_⟩) ?_ ?_
                        rotate_left
                        · intro w'
                          go_simp
                          with_reducible rfl
                        rotate_left
                        · simp only [Act.put, List.setIfInBounds_toArray, List.set_cons_zero, List.set_cons_succ, i64_w, i32_w]
                          rfl
                        refine pure_ (i := 19) (N := some 31) (v := ?_) (a' := ?_) #[true, true, true, true, true, false, false, true, true, true, true, false, false, true, true, true, false, false, true, true, false, false, false, false, false, false, false, false] rfl rfl (any_of HT_.out (by kernel_rfl)) (fun _ _ _ h => h) (Or.inl ⟨by rfl, ?_⟩) ?_ ?_
                        rotate_left
                        · intro w'
                          go_simp
                          with_reducible rfl
                        rotate_left
                        · simp only [Act.put, List.setIfInBounds_toArray, List.set_cons_zero, List.set_cons_succ, i64_w, i32_w]
                          rfl
                        refine pure_ (i := 20) (N := some 32) (v := ?_) (a' := ?_) #[true, true, true, true, true, false, false, true, true, true, true, false, false, true, true, true, false, false, true, true, true, false, false, false, false, false, false, false] rfl rfl (any_of HT_.out (by kernel_rfl)) (fun _ _ _ h => h) (Or.inl ⟨by rfl, ?_⟩) ?_ ?_
                        rotate_left
                        · intro w'
                          go_simp
                          with_reducible rfl
                        rotate_left
                        · simp only [Act.put, List.setIfInBounds_toArray, List.set_cons_zero, List.set_cons_succ, i64_w, i32_w]
                          rfl
                        refine pure_ (i := 21) (N := some 33) (v := ?_) (a' := ?_) #[true, true, true, true, true, false, false, true, true, true, true, false, false, true, true, true, false, false, true, true, true, true, false, false, false, false, false, false] rfl rfl (any_of HT_.out (by kernel_rfl)) (fun _ _ _ h => h) (Or.inl ⟨by rfl, ?_⟩) ?_ ?_
                        rotate_left
                        · intro w'
                          go_simp
                          with_reducible rfl
                        rotate_left
                        · simp only [Act.put, List.setIfInBounds_toArray, List.set_cons_zero, List.set_cons_succ, i64_w, i32_w]
                          rfl
                        refine take_ (i := 5) (N := some 17) (v := ?_) (a' := ?_) #[true, true, true, true, true, true, false, true, true, true, true, false, false, true, true, true, false, false, true, true, true, true, false, false, false, false, false, false] rfl rfl (take_ofW HT_.out HW_.out (by kernel_rfl)) (fun _ _ _ h => h) (Or.inl ⟨by rfl, ?_⟩) hHeld ?_ ?_
                        rotate_left
                        · rintro w' ⟨s0, s1, s2, s3⟩
                          go_simp
                          with_reducible rfl
                        rotate_left
                        · simp only [Act.put, List.setIfInBounds_toArray, List.set_cons_zero, List.set_cons_succ, i64_w, i32_w]
                          rfl
                        refine pure_ (i := 6) (N := some 18) (v := ?_) (a' := ?_) #[true, true, true, true, true, true, true, true, true, true, true, false, false, true, true, true, false, false, true, true, true, true, false, false, false, false, false, false] rfl rfl (any_of HT_.out (by kernel_rfl)) (fun _ _ _ h => h) (Or.inl ⟨by rfl, ?_⟩) ?_ ?_
                        rotate_left
                        · intro w'
                          go_simp
                          with_reducible rfl
                        rotate_left
                        · simp only [Act.put, List.setIfInBounds_toArray, List.set_cons_zero, List.set_cons_succ, i64_w, i32_w]
                          rfl
                        refine take_ (i := 11) (N := some 23) (v := ?_) (a' := ?_) #[true, true, true, true, true, true, true, true, true, true, true, true, false, true, true, true, false, false, true, true, true, true, false, false, false, false, false, false] rfl rfl (take_ofW HT_.out HW_.out (by kernel_rfl)) (fun _ _ _ h => h) (Or.inl ⟨by rfl, ?_⟩) hHeld ?_ ?_
                        rotate_left
                        · rintro w' ⟨s0, s1, s2, s3⟩
                          go_simp
                          with_reducible rfl
                        rotate_left
                        · simp only [Act.put, List.setIfInBounds_toArray, List.set_cons_zero, List.set_cons_succ, i64_w, i32_w]
                          rfl
                        refine pure_ (i := 12) (N := some 24) (v := ?_) (a' := ?_) #[true, true, true, true, true, true, true, true, true, true, true, true, true, true, true, true, false, false, true, true, true, true, false, false, false, false, false, false] rfl rfl (any_of HT_.out (by kernel_rfl)) (fun _ _ _ h => h) (Or.inl ⟨by rfl, ?_⟩) ?_ ?_
                        rotate_left
                        · intro w'
                          go_simp
                          with_reducible rfl
                        rotate_left
                        · simp only [Act.put, List.setIfInBounds_toArray, List.set_cons_zero, List.set_cons_succ, i64_w, i32_w]
                          rfl
                        refine take_ (i := 16) (N := some 28) (v := ?_) (a' := ?_) #[true, true, true, true, true, true, true, true, true, true, true, true, true, true, true, true, true, false, true, true, true, true, false, false, false, false, false, false] rfl rfl (take_ofW HT_.out HW_.out (by kernel_rfl)) (fun _ _ _ h => h) (Or.inl ⟨by rfl, ?_⟩) hHeld ?_ ?_
                        rotate_left
                        · rintro w' ⟨s0, s1, s2, s3⟩
                          go_simp
                          with_reducible rfl
                        rotate_left
                        · simp only [Act.put, List.setIfInBounds_toArray, List.set_cons_zero, List.set_cons_succ, i64_w, i32_w]
                          rfl
                        refine pure_ (i := 17) (N := some 29) (v := ?_) (a' := ?_) #[true, true, true, true, true, true, true, true, true, true, true, true, true, true, true, true, true, true, true, true, true, true, false, false, false, false, false, false] rfl rfl (any_of HT_.out (by kernel_rfl)) (fun _ _ _ h => h) (Or.inl ⟨by rfl, ?_⟩) ?_ ?_
                        rotate_left
                        · intro w'
                          go_simp
                          with_reducible rfl
                        rotate_left
                        · simp only [Act.put, List.setIfInBounds_toArray, List.set_cons_zero, List.set_cons_succ, i64_w, i32_w]
                          rfl
                        refine take_ (i := 22) (N := some 34) (v := ?_) (a' := ?_) #[true, true, true, true, true, true, true, true, true, true, true, true, true, true, true, true, true, true, true, true, true, true, true, false, false, false, false, false] rfl rfl (take_ofW HT_.out HW_.out (by kernel_rfl)) (fun _ _ _ h => h) (Or.inl ⟨by rfl, ?_⟩) hHeld ?_ ?_
                        rotate_left
                        · rintro w' ⟨s0, s1, s2, s3⟩
                          go_simp
                          with_reducible rfl
                        rotate_left
                        · simp only [Act.put, List.setIfInBounds_toArray, List.set_cons_zero, List.set_cons_succ, i64_w, i32_w]
                          rfl
                        refine pure_ (i := 23) (N := some 35) (v := ?_) (a' := ?_) #[true, true, true, true, true, true, true, true, true, true, true, true, true, true, true, true, true, true, true, true, true, true, true, true, false, false, false, false] rfl rfl (any_of HT_.out (by kernel_rfl)) (fun _ _ _ h => h) (Or.inl ⟨by rfl, ?_⟩) ?_ ?_
                        rotate_left
                        · intro w'
                          go_simp
                          with_reducible rfl
                        rotate_left
                        · simp only [Act.put, List.setIfInBounds_toArray, List.set_cons_zero, List.set_cons_succ, i64_w, i32_w]
                          rfl
                        refine one_ (i := 24) (N := some 36) #[true, true, true, true, true, true, true, true, true, true, true, true, true, true, true, true, true, true, true, true, true, true, true, true, true, false, false, false] rfl rfl (one_of HT_.out (by kernel_rfl)) (by decide) (fun K hK => ?_)
                        refine goes_ Try.func26 (by kernel_rfl) rfl #[.int .i64 (wrap64 (rd l0 (ji3))), .int .i64 (wrap64 (rd l0 (ji6))), .int .i64 (wrap64 (rd l0 x4_1)), .int .i64 (wrap64 (rd l0 (ji11)))] (by rfl) rfl rfl (by (try simp only [List.map_toArray, List.map_cons, List.map_nil]); first | done | (simp only [hji11, hji3, hji6]; rfl) | rfl | (simp only [List.length_drop, List.length_take]; rfl)) ?_
                        with_reducible refine (laws_pixel.calls (wrap64 (rd l0 (ji3))) (wrap64 (rd l0 (ji6))) (wrap64 (rd l0 x4_1)) (wrap64 (rd l0 (ji11))) t217 _ A13.out).mono ?_
                        rintro e w' ⟨rfl, ⟨nd, rfl⟩⟩
                        refine ⟨_, rfl, ?_⟩
                        refine hK.out _ _ ⟨((HB.out.cell (World.block_lt_of_cell? w _ hw213_0)).trans hw213_0), ((HB.out.cell (World.block_lt_of_cell? w _ hw214_0)).trans hw214_0), ((HB.out.cell (World.block_lt_of_cell? w _ hw215_0)).trans hw215_0), ((HB.out.cell (World.block_lt_of_cell? w _ hw216_0)).trans hw216_0)⟩ (fun hHeld => ?_)
                        clear hK K
                        refine norm_ (a' := ?_) ?_ ?_
                        rotate_left
                        · show Act.put _ (some 36) _ = _
                          simp only [Act.put, List.setIfInBounds_toArray, List.set_cons_zero, List.set_cons_succ, i64_w, i32_w]
                          rfl
                        refine one_ (i := 25) (N := some 37) #[true, true, true, true, true, true, true, true, true, true, true, true, true, true, true, true, true, true, true, true, true, true, true, true, true, true, false, false] rfl rfl (one_of HT_.out (by kernel_rfl)) (by decide) (fun K hK => ?_)
                        refine value_ (w1 := ?_) (v := ?_) (by rfl) rfl ?_ ?_
                        rotate_left 2
                        · go_simp
                          constructor
                          · rfl
                          · rfl
                        refine hK.out _ _ ⟨(World.cell?_alloc_lt _ _ _ (World.block_lt_of_cell? _ _ (((HB.out.cell (World.block_lt_of_cell? w _ hw213_0)).trans hw213_0)))).trans (((HB.out.cell (World.block_lt_of_cell? w _ hw213_0)).trans hw213_0)), (World.cell?_alloc_lt _ _ _ (World.block_lt_of_cell? _ _ (((HB.out.cell (World.block_lt_of_cell? w _ hw214_0)).trans hw214_0)))).trans (((HB.out.cell (World.block_lt_of_cell? w _ hw214_0)).trans hw214_0)), (World.cell?_alloc_lt _ _ _ (World.block_lt_of_cell? _ _ (((HB.out.cell (World.block_lt_of_cell? w _ hw215_0)).trans hw215_0)))).trans (((HB.out.cell (World.block_lt_of_cell? w _ hw215_0)).trans hw215_0)), (World.cell?_alloc_lt _ _ _ (World.block_lt_of_cell? _ _ (((HB.out.cell (World.block_lt_of_cell? w _ hw216_0)).trans hw216_0)))).trans (((HB.out.cell (World.block_lt_of_cell? w _ hw216_0)).trans hw216_0))⟩ (fun hHeld => ?_)
                        clear hK K
                        refine norm_ (a' := ?_) ?_ ?_
                        rotate_left
                        · show Act.put _ (some 37) _ = _
                          simp only [Act.put, List.setIfInBounds_toArray, List.set_cons_zero, List.set_cons_succ, i64_w, i32_w]
                          rfl
                        refine one_ (i := 26) (N := some 38) #[true, true, true, true, true, true, true, true, true, true, true, true, true, true, true, true, true, true, true, true, true, true, true, true, true, true, true, false] rfl rfl (one_of HT_.out (by kernel_rfl)) (by decide) (fun K hK => ?_)
                        refine Kd.R_append_step (Kd.int .u32) (w0 := w) w.heap.size (by rfl) (.tmp 12) (.tmp 37) 31 38 (.int .u32 0) 4 rfl Try.underlying31 info38 rfl (by decide) (by omega) u3 x3_1 t217 [.int .u32 t217] (fun _ => True) (fun _ => False) rfl rfl ?aP (fun _ hk => hk.elim) ?aF ?aO ?aB ?aS ?aL ?_
                        (case aP => exact rfl)
                        (case aB => exact (by repeat (first | (with_reducible first | exact HB.out | apply below_alloc | apply pw_below_drewN | apply below_drew1) | exact HB.out)))
                        (case aF => exact (fun _ _ => trivial))
                        (case aO => exact (by (with_reducible repeat (first | apply Kd.R_alloc | apply Kd.R_drewN | apply Kd.R_drew)); exact HO_3.out))
                        (case aS => exact (below_size (by repeat (first | (with_reducible first | exact HB.out | apply below_alloc | apply pw_below_drewN | apply below_drew1) | exact HB.out))))
                        (case aL => have := LMc14.out; omega)
                        intro v219 w16 ho hb hg hat
                        rw [← Ny218.out] at ho
                        have n0_ := Aside0.mk (hb)
                        have n1_ := Aside0.mk (ho)
                        clear HB
                        clear HO_3
                        have HB := n0_
                        have HO220 := n1_
                        clear n0_ n1_
                        clear ho hb hg hat
                        refine hK.out _ _ ⟨((HB.out.cell (World.block_lt_of_cell? w _ hw213_0)).trans hw213_0), ((HB.out.cell (World.block_lt_of_cell? w _ hw214_0)).trans hw214_0), ((HB.out.cell (World.block_lt_of_cell? w _ hw215_0)).trans hw215_0), ((HB.out.cell (World.block_lt_of_cell? w _ hw216_0)).trans hw216_0)⟩ (fun hHeld => ?_)
                        clear hK K
                        refine norm_ (a' := ?_) ?_ ?_
                        rotate_left
                        · show Act.put _ (some 38) _ = _
                          simp only [Act.put, List.setIfInBounds_toArray, List.set_cons_zero, List.set_cons_succ, i64_w, i32_w]
                          rfl
                        refine pure_ (i := 27) (N := some 3) (v := ?_) (a' := ?_) #[true, true, true, true, true, true, true, true, true, true, true, true, true, true, true, true, true, true, true, true, true, true, true, true, true, true, true, true] rfl rfl (any_of HT_.out (by kernel_rfl)) (fun _ _ _ h => h) (Or.inl ⟨by rfl, ?_⟩) ?_ ?_
                        rotate_left
                        · intro w'
                          go_simp
                          with_reducible rfl
                        rotate_left
                        · simp only [Act.put, List.setIfInBounds_toArray, List.set_cons_zero, List.set_cons_succ, i64_w, i32_w]
                          rfl
                        refine done_ (done_of HT_.out (by kernel_rfl)) ?_
                        try go_wp2
                        go_roundg k1
                        case measure => have := HK1.out; omega
                        case rel => exact ⟨(y218), (wrap64 (x4_1 + 4)), (by first | rfl | (simp; done) | (simp [*]; done)), H', ⟨by have := HK1.out; omega⟩, ⟨by (with_reducible repeat (first | apply Kd.R_alloc | apply Kd.R_drewN | apply Kd.R_drew)); exact HO220.out⟩, ⟨by repeat (first | (with_reducible first | exact HB.out | apply below_alloc | apply pw_below_drewN | apply below_drew1) | exact HB.out)⟩⟩
                      · rw [if_neg c14] at H
                        exact absurd H (by simp)
                    · rw [if_neg c12] at H
                      exact absurd H (by simp)
                  · rw [if_neg c10] at H
                    exact absurd H (by simp)
                · rw [if_neg c9] at H
                  exact absurd H (by simp)
              · rw [if_neg c8] at H
                exact absurd H (by simp)
            · rw [if_neg c7] at H
              exact absurd H (by simp)
          · rw [if_neg c5] at H
            exact absurd H (by simp)
        · rw [if_neg c4] at H
          exact absurd H (by simp)
      · rw [if_neg c2] at H
        have c2b0 : decide ((wrap64 (x4_1 + 3)) < (l0.length : Int)) = false := decide_eq_false c2
        clear c2
        obtain rfl := Option.some.inj H
        go_wp2
        go_ret
        exact ⟨_, by first | rfl | (simp [errW_none, errW_some] <;> rfl) | (simp [*, errW_none, errW_some] <;> rfl), by (with_reducible repeat (first | apply Kd.R_alloc | apply Kd.R_drewN | apply Kd.R_drew)); exact HO_3.out, by repeat (first | (with_reducible first | exact HB.out | apply below_alloc | apply pw_below_drewN | apply below_drew1) | exact HB.out)⟩

/-! ### laws_part: function 27 -/
def laws_part.f (a0 : Int) (a1 : Int) : Option (Int) := if 0 ≤ (wrap64 (8 * a1)) then (some (wrap64 (Go.bits .and .u32 (shr .u32 a0 (wrap64 (8 * a1))) 255))) else (none)
set_option maxHeartbeats 8000000 in
set_option maxRecDepth 100000 in
theorem laws_part.calls (a0 : Int) (a1 : Int) (r : Int) (w : World) (h : laws_part.f a0 a1 = some r) :
    Calls Try.prog 27 #[.int .u32 a0, .int .i64 a1] w fun e w' => e = .returned (.int .i64 r) ∧ Drawn0 w w' := by
  have H : (if 0 ≤ (wrap64 (8 * a1)) then (some (wrap64 (Go.bits .and .u32 (shr .u32 a0 (wrap64 (8 * a1))) 255))) else (none)) = some r := h
  clear h
  obtain ⟨ji3, hji3⟩ : ∃ j_ : Int, (wrap64 (8 * a1)) = j_ := ⟨_, rfl⟩
  replace H : (if 0 ≤ (ji3) then (some (wrap64 (Go.bits .and .u32 (shr .u32 a0 (ji3)) 255))) else (none)) = some r := by first | (rw [hji3] at H; exact H) | (simp only [hji3] at H ⊢; exact H)
  have hji3w : (IntKind.i64.wrap (8 * a1)) = ji3 := (i64_w _).trans hji3
  by_cases c4 : 0 ≤ (ji3)
  · rw [if_pos c4] at H
    have c4b0 := eq_true c4
    have c4b1 : decide (0 ≤ (ji3)) = true := decide_eq_true c4
    clear c4
    obtain ⟨ji5, hji5⟩ : ∃ j_ : Int, (shr .u32 a0 (ji3)) = j_ := ⟨_, rfl⟩
    replace H : (some (wrap64 (Go.bits .and .u32 (ji5) 255))) = some r := by first | (rw [hji5] at H; exact H) | (simp only [hji5] at H ⊢; exact H)
    have hji5_ : (a0 / 2 ^ min (ji3).toNat 32) = ji5 := hji5
    have hji5z : (ji3) ≤ 32 → (a0 / 2 ^ (ji3).toNat) = ji5 := shr_small hji5
    obtain rfl := Option.some.inj H
    go_enter Try.func27, Try.ntmps27
    go_wp2
    go_ret
    exact ⟨by first | rfl | (simp; done) | (simp only [← hji3, ← hji5] <;> (first | rfl | simp)) | (simp [*]; done), by repeat (first | exact Drawn0.refl _ | apply Drawn0.step)⟩
  · rw [if_neg c4] at H
    exact absurd H (by simp)

/-! ### laws_less: function 13 -/
def laws_less.f (a0 : Int) (a1 : Int) : Option (Int) := (laws_part.f a0 0).bind fun t221 => ((laws_part.f a1 0).bind fun t222 => ((laws_part.f a0 1).bind fun t223 => ((laws_part.f a1 1).bind fun t224 => ((laws_part.f a0 2).bind fun t225 => ((laws_part.f a1 2).bind fun t226 => ((laws_part.f a0 3).bind fun t227 => ((laws_part.f a1 3).bind fun t228 => ((laws_pixel.f (wrap64 (t221 - t222)) (wrap64 (t223 - t224)) (wrap64 (t225 - t226)) (wrap64 (t227 - t228))).bind fun t229 => (some t229)))))))))
set_option maxHeartbeats 8000000 in
set_option maxRecDepth 100000 in
theorem laws_less.calls (a0 : Int) (a1 : Int) (r : Int) (w : World) (h : laws_less.f a0 a1 = some r) :
    Calls Try.prog 13 #[.int .u32 a0, .int .u32 a1] w fun e w' => e = .returned (.int .u32 r) ∧ Drawn0 w w' := by
  have H : ((laws_part.f a0 0).bind fun t221 => ((laws_part.f a1 0).bind fun t222 => ((laws_part.f a0 1).bind fun t223 => ((laws_part.f a1 1).bind fun t224 => ((laws_part.f a0 2).bind fun t225 => ((laws_part.f a1 2).bind fun t226 => ((laws_part.f a0 3).bind fun t227 => ((laws_part.f a1 3).bind fun t228 => ((laws_pixel.f (wrap64 (t221 - t222)) (wrap64 (t223 - t224)) (wrap64 (t225 - t226)) (wrap64 (t227 - t228))).bind fun t229 => (some t229)))))))))) = some r := h
  clear h
  replace H := Option.bind_eq_some_iff.mp H
  obtain ⟨t221, A30, H⟩ := H
  replace H : ((laws_part.f a1 0).bind fun t222 => ((laws_part.f a0 1).bind fun t223 => ((laws_part.f a1 1).bind fun t224 => ((laws_part.f a0 2).bind fun t225 => ((laws_part.f a1 2).bind fun t226 => ((laws_part.f a0 3).bind fun t227 => ((laws_part.f a1 3).bind fun t228 => ((laws_pixel.f (wrap64 (t221 - t222)) (wrap64 (t223 - t224)) (wrap64 (t225 - t226)) (wrap64 (t227 - t228))).bind fun t229 => (some t229))))))))) = some r := H
  have A3 := Aside0.mk A30
  clear A30
  replace H := Option.bind_eq_some_iff.mp H
  obtain ⟨t222, A40, H⟩ := H
  replace H : ((laws_part.f a0 1).bind fun t223 => ((laws_part.f a1 1).bind fun t224 => ((laws_part.f a0 2).bind fun t225 => ((laws_part.f a1 2).bind fun t226 => ((laws_part.f a0 3).bind fun t227 => ((laws_part.f a1 3).bind fun t228 => ((laws_pixel.f (wrap64 (t221 - t222)) (wrap64 (t223 - t224)) (wrap64 (t225 - t226)) (wrap64 (t227 - t228))).bind fun t229 => (some t229)))))))) = some r := H
  have A4 := Aside0.mk A40
  clear A40
  replace H := Option.bind_eq_some_iff.mp H
  obtain ⟨t223, A50, H⟩ := H
  replace H : ((laws_part.f a1 1).bind fun t224 => ((laws_part.f a0 2).bind fun t225 => ((laws_part.f a1 2).bind fun t226 => ((laws_part.f a0 3).bind fun t227 => ((laws_part.f a1 3).bind fun t228 => ((laws_pixel.f (wrap64 (t221 - t222)) (wrap64 (t223 - t224)) (wrap64 (t225 - t226)) (wrap64 (t227 - t228))).bind fun t229 => (some t229))))))) = some r := H
  have A5 := Aside0.mk A50
  clear A50
  replace H := Option.bind_eq_some_iff.mp H
  obtain ⟨t224, A60, H⟩ := H
  replace H : ((laws_part.f a0 2).bind fun t225 => ((laws_part.f a1 2).bind fun t226 => ((laws_part.f a0 3).bind fun t227 => ((laws_part.f a1 3).bind fun t228 => ((laws_pixel.f (wrap64 (t221 - t222)) (wrap64 (t223 - t224)) (wrap64 (t225 - t226)) (wrap64 (t227 - t228))).bind fun t229 => (some t229)))))) = some r := H
  have A6 := Aside0.mk A60
  clear A60
  replace H := Option.bind_eq_some_iff.mp H
  obtain ⟨t225, A70, H⟩ := H
  replace H : ((laws_part.f a1 2).bind fun t226 => ((laws_part.f a0 3).bind fun t227 => ((laws_part.f a1 3).bind fun t228 => ((laws_pixel.f (wrap64 (t221 - t222)) (wrap64 (t223 - t224)) (wrap64 (t225 - t226)) (wrap64 (t227 - t228))).bind fun t229 => (some t229))))) = some r := H
  have A7 := Aside0.mk A70
  clear A70
  replace H := Option.bind_eq_some_iff.mp H
  obtain ⟨t226, A80, H⟩ := H
  replace H : ((laws_part.f a0 3).bind fun t227 => ((laws_part.f a1 3).bind fun t228 => ((laws_pixel.f (wrap64 (t221 - t222)) (wrap64 (t223 - t224)) (wrap64 (t225 - t226)) (wrap64 (t227 - t228))).bind fun t229 => (some t229)))) = some r := H
  have A8 := Aside0.mk A80
  clear A80
  replace H := Option.bind_eq_some_iff.mp H
  obtain ⟨t227, A90, H⟩ := H
  replace H : ((laws_part.f a1 3).bind fun t228 => ((laws_pixel.f (wrap64 (t221 - t222)) (wrap64 (t223 - t224)) (wrap64 (t225 - t226)) (wrap64 (t227 - t228))).bind fun t229 => (some t229))) = some r := H
  have A9 := Aside0.mk A90
  clear A90
  replace H := Option.bind_eq_some_iff.mp H
  obtain ⟨t228, A100, H⟩ := H
  replace H : ((laws_pixel.f (wrap64 (t221 - t222)) (wrap64 (t223 - t224)) (wrap64 (t225 - t226)) (wrap64 (t227 - t228))).bind fun t229 => (some t229)) = some r := H
  have A10 := Aside0.mk A100
  clear A100
  replace H := Option.bind_eq_some_iff.mp H
  obtain ⟨t229, A110, H⟩ := H
  replace H : (some t229) = some r := H
  have A11 := Aside0.mk A110
  clear A110
  obtain rfl := Option.some.inj H
  go_enter Try.func13, Try.ntmps13
  go_wp2_with (first | ((with_reducible refine gate_callee (f := 27) rfl ?_); refine goesL_ (some 6) rfl rfl Try.func27 (by kernel_rfl) rfl #[.int .u32 a0, .int .i64 0] rfl (by (try simp only [List.map_toArray, List.map_cons, List.map_nil]); first | done | rfl | (simp only [List.length_drop, List.length_take]; rfl)) ?_; (with_reducible refine (laws_part.calls a0 0 t221 _ A3.out).mono ?_); rintro e w' ⟨rfl, ⟨nd, rfl⟩⟩; refine ⟨_, rfl, ?_⟩) | ((with_reducible refine gate_callee (f := 27) rfl ?_); refine goesL_ (some 8) rfl rfl Try.func27 (by kernel_rfl) rfl #[.int .u32 a1, .int .i64 0] rfl (by (try simp only [List.map_toArray, List.map_cons, List.map_nil]); first | done | rfl | (simp only [List.length_drop, List.length_take]; rfl)) ?_; (with_reducible refine (laws_part.calls a1 0 t222 _ A4.out).mono ?_); rintro e w' ⟨rfl, ⟨nd, rfl⟩⟩; refine ⟨_, rfl, ?_⟩) | ((with_reducible refine gate_callee (f := 27) rfl ?_); refine goesL_ (some 11) rfl rfl Try.func27 (by kernel_rfl) rfl #[.int .u32 a0, .int .i64 1] rfl (by (try simp only [List.map_toArray, List.map_cons, List.map_nil]); first | done | rfl | (simp only [List.length_drop, List.length_take]; rfl)) ?_; (with_reducible refine (laws_part.calls a0 1 t223 _ A5.out).mono ?_); rintro e w' ⟨rfl, ⟨nd, rfl⟩⟩; refine ⟨_, rfl, ?_⟩) | ((with_reducible refine gate_callee (f := 27) rfl ?_); refine goesL_ (some 13) rfl rfl Try.func27 (by kernel_rfl) rfl #[.int .u32 a1, .int .i64 1] rfl (by (try simp only [List.map_toArray, List.map_cons, List.map_nil]); first | done | rfl | (simp only [List.length_drop, List.length_take]; rfl)) ?_; (with_reducible refine (laws_part.calls a1 1 t224 _ A6.out).mono ?_); rintro e w' ⟨rfl, ⟨nd, rfl⟩⟩; refine ⟨_, rfl, ?_⟩) | ((with_reducible refine gate_callee (f := 27) rfl ?_); refine goesL_ (some 16) rfl rfl Try.func27 (by kernel_rfl) rfl #[.int .u32 a0, .int .i64 2] rfl (by (try simp only [List.map_toArray, List.map_cons, List.map_nil]); first | done | rfl | (simp only [List.length_drop, List.length_take]; rfl)) ?_; (with_reducible refine (laws_part.calls a0 2 t225 _ A7.out).mono ?_); rintro e w' ⟨rfl, ⟨nd, rfl⟩⟩; refine ⟨_, rfl, ?_⟩) | ((with_reducible refine gate_callee (f := 27) rfl ?_); refine goesL_ (some 18) rfl rfl Try.func27 (by kernel_rfl) rfl #[.int .u32 a1, .int .i64 2] rfl (by (try simp only [List.map_toArray, List.map_cons, List.map_nil]); first | done | rfl | (simp only [List.length_drop, List.length_take]; rfl)) ?_; (with_reducible refine (laws_part.calls a1 2 t226 _ A8.out).mono ?_); rintro e w' ⟨rfl, ⟨nd, rfl⟩⟩; refine ⟨_, rfl, ?_⟩) | ((with_reducible refine gate_callee (f := 27) rfl ?_); refine goesL_ (some 21) rfl rfl Try.func27 (by kernel_rfl) rfl #[.int .u32 a0, .int .i64 3] rfl (by (try simp only [List.map_toArray, List.map_cons, List.map_nil]); first | done | rfl | (simp only [List.length_drop, List.length_take]; rfl)) ?_; (with_reducible refine (laws_part.calls a0 3 t227 _ A9.out).mono ?_); rintro e w' ⟨rfl, ⟨nd, rfl⟩⟩; refine ⟨_, rfl, ?_⟩) | ((with_reducible refine gate_callee (f := 27) rfl ?_); refine goesL_ (some 23) rfl rfl Try.func27 (by kernel_rfl) rfl #[.int .u32 a1, .int .i64 3] rfl (by (try simp only [List.map_toArray, List.map_cons, List.map_nil]); first | done | rfl | (simp only [List.length_drop, List.length_take]; rfl)) ?_; (with_reducible refine (laws_part.calls a1 3 t228 _ A10.out).mono ?_); rintro e w' ⟨rfl, ⟨nd, rfl⟩⟩; refine ⟨_, rfl, ?_⟩) | ((with_reducible refine gate_callee (f := 26) rfl ?_); refine goesL_ (some 25) rfl rfl Try.func26 (by kernel_rfl) rfl #[.int .i64 (wrap64 (t221 - t222)), .int .i64 (wrap64 (t223 - t224)), .int .i64 (wrap64 (t225 - t226)), .int .i64 (wrap64 (t227 - t228))] rfl (by (try simp only [List.map_toArray, List.map_cons, List.map_nil]); first | done | rfl | (simp only [List.length_drop, List.length_take]; rfl)) ?_; (with_reducible refine (laws_pixel.calls (wrap64 (t221 - t222)) (wrap64 (t223 - t224)) (wrap64 (t225 - t226)) (wrap64 (t227 - t228)) t229 _ A11.out).mono ?_); rintro e w' ⟨rfl, ⟨nd, rfl⟩⟩; refine ⟨_, rfl, ?_⟩))
  go_ret
  exact ⟨by first | rfl | (simp; done) | (simp [*]; done), by repeat (first | exact Drawn0.refl _ | apply Drawn0.step)⟩

/-! ### laws_between: function 37 -/
def laws_between.f (a0 : Int) (a1 : Int) : Option (Int) := (laws_part.f a0 0).bind fun t230 => ((laws_part.f a1 0).bind fun t231 => ((laws_part.f a0 1).bind fun t232 => ((laws_part.f a1 1).bind fun t233 => ((laws_part.f a0 2).bind fun t234 => ((laws_part.f a1 2).bind fun t235 => ((laws_part.f a0 3).bind fun t236 => ((laws_part.f a1 3).bind fun t237 => ((laws_pixel.f (wrap64 (Int.tdiv (wrap64 (t230 + t231)) 2)) (wrap64 (Int.tdiv (wrap64 (t232 + t233)) 2)) (wrap64 (Int.tdiv (wrap64 (t234 + t235)) 2)) (wrap64 (Int.tdiv (wrap64 (t236 + t237)) 2))).bind fun t238 => (some t238)))))))))
set_option maxHeartbeats 8000000 in
set_option maxRecDepth 100000 in
theorem laws_between.calls (a0 : Int) (a1 : Int) (r : Int) (w : World) (h : laws_between.f a0 a1 = some r) :
    Calls Try.prog 37 #[.int .u32 a0, .int .u32 a1] w fun e w' => e = .returned (.int .u32 r) ∧ Drawn0 w w' := by
  have H : ((laws_part.f a0 0).bind fun t230 => ((laws_part.f a1 0).bind fun t231 => ((laws_part.f a0 1).bind fun t232 => ((laws_part.f a1 1).bind fun t233 => ((laws_part.f a0 2).bind fun t234 => ((laws_part.f a1 2).bind fun t235 => ((laws_part.f a0 3).bind fun t236 => ((laws_part.f a1 3).bind fun t237 => ((laws_pixel.f (wrap64 (Int.tdiv (wrap64 (t230 + t231)) 2)) (wrap64 (Int.tdiv (wrap64 (t232 + t233)) 2)) (wrap64 (Int.tdiv (wrap64 (t234 + t235)) 2)) (wrap64 (Int.tdiv (wrap64 (t236 + t237)) 2))).bind fun t238 => (some t238)))))))))) = some r := h
  clear h
  replace H := Option.bind_eq_some_iff.mp H
  obtain ⟨t230, A30, H⟩ := H
  replace H : ((laws_part.f a1 0).bind fun t231 => ((laws_part.f a0 1).bind fun t232 => ((laws_part.f a1 1).bind fun t233 => ((laws_part.f a0 2).bind fun t234 => ((laws_part.f a1 2).bind fun t235 => ((laws_part.f a0 3).bind fun t236 => ((laws_part.f a1 3).bind fun t237 => ((laws_pixel.f (wrap64 (Int.tdiv (wrap64 (t230 + t231)) 2)) (wrap64 (Int.tdiv (wrap64 (t232 + t233)) 2)) (wrap64 (Int.tdiv (wrap64 (t234 + t235)) 2)) (wrap64 (Int.tdiv (wrap64 (t236 + t237)) 2))).bind fun t238 => (some t238))))))))) = some r := H
  have A3 := Aside0.mk A30
  clear A30
  replace H := Option.bind_eq_some_iff.mp H
  obtain ⟨t231, A40, H⟩ := H
  replace H : ((laws_part.f a0 1).bind fun t232 => ((laws_part.f a1 1).bind fun t233 => ((laws_part.f a0 2).bind fun t234 => ((laws_part.f a1 2).bind fun t235 => ((laws_part.f a0 3).bind fun t236 => ((laws_part.f a1 3).bind fun t237 => ((laws_pixel.f (wrap64 (Int.tdiv (wrap64 (t230 + t231)) 2)) (wrap64 (Int.tdiv (wrap64 (t232 + t233)) 2)) (wrap64 (Int.tdiv (wrap64 (t234 + t235)) 2)) (wrap64 (Int.tdiv (wrap64 (t236 + t237)) 2))).bind fun t238 => (some t238)))))))) = some r := H
  have A4 := Aside0.mk A40
  clear A40
  replace H := Option.bind_eq_some_iff.mp H
  obtain ⟨t232, A50, H⟩ := H
  replace H : ((laws_part.f a1 1).bind fun t233 => ((laws_part.f a0 2).bind fun t234 => ((laws_part.f a1 2).bind fun t235 => ((laws_part.f a0 3).bind fun t236 => ((laws_part.f a1 3).bind fun t237 => ((laws_pixel.f (wrap64 (Int.tdiv (wrap64 (t230 + t231)) 2)) (wrap64 (Int.tdiv (wrap64 (t232 + t233)) 2)) (wrap64 (Int.tdiv (wrap64 (t234 + t235)) 2)) (wrap64 (Int.tdiv (wrap64 (t236 + t237)) 2))).bind fun t238 => (some t238))))))) = some r := H
  have A5 := Aside0.mk A50
  clear A50
  replace H := Option.bind_eq_some_iff.mp H
  obtain ⟨t233, A60, H⟩ := H
  replace H : ((laws_part.f a0 2).bind fun t234 => ((laws_part.f a1 2).bind fun t235 => ((laws_part.f a0 3).bind fun t236 => ((laws_part.f a1 3).bind fun t237 => ((laws_pixel.f (wrap64 (Int.tdiv (wrap64 (t230 + t231)) 2)) (wrap64 (Int.tdiv (wrap64 (t232 + t233)) 2)) (wrap64 (Int.tdiv (wrap64 (t234 + t235)) 2)) (wrap64 (Int.tdiv (wrap64 (t236 + t237)) 2))).bind fun t238 => (some t238)))))) = some r := H
  have A6 := Aside0.mk A60
  clear A60
  replace H := Option.bind_eq_some_iff.mp H
  obtain ⟨t234, A70, H⟩ := H
  replace H : ((laws_part.f a1 2).bind fun t235 => ((laws_part.f a0 3).bind fun t236 => ((laws_part.f a1 3).bind fun t237 => ((laws_pixel.f (wrap64 (Int.tdiv (wrap64 (t230 + t231)) 2)) (wrap64 (Int.tdiv (wrap64 (t232 + t233)) 2)) (wrap64 (Int.tdiv (wrap64 (t234 + t235)) 2)) (wrap64 (Int.tdiv (wrap64 (t236 + t237)) 2))).bind fun t238 => (some t238))))) = some r := H
  have A7 := Aside0.mk A70
  clear A70
  replace H := Option.bind_eq_some_iff.mp H
  obtain ⟨t235, A80, H⟩ := H
  replace H : ((laws_part.f a0 3).bind fun t236 => ((laws_part.f a1 3).bind fun t237 => ((laws_pixel.f (wrap64 (Int.tdiv (wrap64 (t230 + t231)) 2)) (wrap64 (Int.tdiv (wrap64 (t232 + t233)) 2)) (wrap64 (Int.tdiv (wrap64 (t234 + t235)) 2)) (wrap64 (Int.tdiv (wrap64 (t236 + t237)) 2))).bind fun t238 => (some t238)))) = some r := H
  have A8 := Aside0.mk A80
  clear A80
  replace H := Option.bind_eq_some_iff.mp H
  obtain ⟨t236, A90, H⟩ := H
  replace H : ((laws_part.f a1 3).bind fun t237 => ((laws_pixel.f (wrap64 (Int.tdiv (wrap64 (t230 + t231)) 2)) (wrap64 (Int.tdiv (wrap64 (t232 + t233)) 2)) (wrap64 (Int.tdiv (wrap64 (t234 + t235)) 2)) (wrap64 (Int.tdiv (wrap64 (t236 + t237)) 2))).bind fun t238 => (some t238))) = some r := H
  have A9 := Aside0.mk A90
  clear A90
  replace H := Option.bind_eq_some_iff.mp H
  obtain ⟨t237, A100, H⟩ := H
  replace H : ((laws_pixel.f (wrap64 (Int.tdiv (wrap64 (t230 + t231)) 2)) (wrap64 (Int.tdiv (wrap64 (t232 + t233)) 2)) (wrap64 (Int.tdiv (wrap64 (t234 + t235)) 2)) (wrap64 (Int.tdiv (wrap64 (t236 + t237)) 2))).bind fun t238 => (some t238)) = some r := H
  have A10 := Aside0.mk A100
  clear A100
  replace H := Option.bind_eq_some_iff.mp H
  obtain ⟨t238, A110, H⟩ := H
  replace H : (some t238) = some r := H
  have A11 := Aside0.mk A110
  clear A110
  obtain rfl := Option.some.inj H
  go_enter Try.func37, Try.ntmps37
  go_wp2_with (first | ((with_reducible refine gate_callee (f := 27) rfl ?_); refine goesL_ (some 6) rfl rfl Try.func27 (by kernel_rfl) rfl #[.int .u32 a0, .int .i64 0] rfl (by (try simp only [List.map_toArray, List.map_cons, List.map_nil]); first | done | rfl | (simp only [List.length_drop, List.length_take]; rfl)) ?_; (with_reducible refine (laws_part.calls a0 0 t230 _ A3.out).mono ?_); rintro e w' ⟨rfl, ⟨nd, rfl⟩⟩; refine ⟨_, rfl, ?_⟩) | ((with_reducible refine gate_callee (f := 27) rfl ?_); refine goesL_ (some 8) rfl rfl Try.func27 (by kernel_rfl) rfl #[.int .u32 a1, .int .i64 0] rfl (by (try simp only [List.map_toArray, List.map_cons, List.map_nil]); first | done | rfl | (simp only [List.length_drop, List.length_take]; rfl)) ?_; (with_reducible refine (laws_part.calls a1 0 t231 _ A4.out).mono ?_); rintro e w' ⟨rfl, ⟨nd, rfl⟩⟩; refine ⟨_, rfl, ?_⟩) | ((with_reducible refine gate_callee (f := 27) rfl ?_); refine goesL_ (some 12) rfl rfl Try.func27 (by kernel_rfl) rfl #[.int .u32 a0, .int .i64 1] rfl (by (try simp only [List.map_toArray, List.map_cons, List.map_nil]); first | done | rfl | (simp only [List.length_drop, List.length_take]; rfl)) ?_; (with_reducible refine (laws_part.calls a0 1 t232 _ A5.out).mono ?_); rintro e w' ⟨rfl, ⟨nd, rfl⟩⟩; refine ⟨_, rfl, ?_⟩) | ((with_reducible refine gate_callee (f := 27) rfl ?_); refine goesL_ (some 14) rfl rfl Try.func27 (by kernel_rfl) rfl #[.int .u32 a1, .int .i64 1] rfl (by (try simp only [List.map_toArray, List.map_cons, List.map_nil]); first | done | rfl | (simp only [List.length_drop, List.length_take]; rfl)) ?_; (with_reducible refine (laws_part.calls a1 1 t233 _ A6.out).mono ?_); rintro e w' ⟨rfl, ⟨nd, rfl⟩⟩; refine ⟨_, rfl, ?_⟩) | ((with_reducible refine gate_callee (f := 27) rfl ?_); refine goesL_ (some 18) rfl rfl Try.func27 (by kernel_rfl) rfl #[.int .u32 a0, .int .i64 2] rfl (by (try simp only [List.map_toArray, List.map_cons, List.map_nil]); first | done | rfl | (simp only [List.length_drop, List.length_take]; rfl)) ?_; (with_reducible refine (laws_part.calls a0 2 t234 _ A7.out).mono ?_); rintro e w' ⟨rfl, ⟨nd, rfl⟩⟩; refine ⟨_, rfl, ?_⟩) | ((with_reducible refine gate_callee (f := 27) rfl ?_); refine goesL_ (some 20) rfl rfl Try.func27 (by kernel_rfl) rfl #[.int .u32 a1, .int .i64 2] rfl (by (try simp only [List.map_toArray, List.map_cons, List.map_nil]); first | done | rfl | (simp only [List.length_drop, List.length_take]; rfl)) ?_; (with_reducible refine (laws_part.calls a1 2 t235 _ A8.out).mono ?_); rintro e w' ⟨rfl, ⟨nd, rfl⟩⟩; refine ⟨_, rfl, ?_⟩) | ((with_reducible refine gate_callee (f := 27) rfl ?_); refine goesL_ (some 24) rfl rfl Try.func27 (by kernel_rfl) rfl #[.int .u32 a0, .int .i64 3] rfl (by (try simp only [List.map_toArray, List.map_cons, List.map_nil]); first | done | rfl | (simp only [List.length_drop, List.length_take]; rfl)) ?_; (with_reducible refine (laws_part.calls a0 3 t236 _ A9.out).mono ?_); rintro e w' ⟨rfl, ⟨nd, rfl⟩⟩; refine ⟨_, rfl, ?_⟩) | ((with_reducible refine gate_callee (f := 27) rfl ?_); refine goesL_ (some 26) rfl rfl Try.func27 (by kernel_rfl) rfl #[.int .u32 a1, .int .i64 3] rfl (by (try simp only [List.map_toArray, List.map_cons, List.map_nil]); first | done | rfl | (simp only [List.length_drop, List.length_take]; rfl)) ?_; (with_reducible refine (laws_part.calls a1 3 t237 _ A10.out).mono ?_); rintro e w' ⟨rfl, ⟨nd, rfl⟩⟩; refine ⟨_, rfl, ?_⟩) | ((with_reducible refine gate_callee (f := 26) rfl ?_); refine goesL_ (some 29) rfl rfl Try.func26 (by kernel_rfl) rfl #[.int .i64 (wrap64 (Int.tdiv (wrap64 (t230 + t231)) 2)), .int .i64 (wrap64 (Int.tdiv (wrap64 (t232 + t233)) 2)), .int .i64 (wrap64 (Int.tdiv (wrap64 (t234 + t235)) 2)), .int .i64 (wrap64 (Int.tdiv (wrap64 (t236 + t237)) 2))] rfl (by (try simp only [List.map_toArray, List.map_cons, List.map_nil]); first | done | rfl | (simp only [List.length_drop, List.length_take]; rfl)) ?_; (with_reducible refine (laws_pixel.calls (wrap64 (Int.tdiv (wrap64 (t230 + t231)) 2)) (wrap64 (Int.tdiv (wrap64 (t232 + t233)) 2)) (wrap64 (Int.tdiv (wrap64 (t234 + t235)) 2)) (wrap64 (Int.tdiv (wrap64 (t236 + t237)) 2)) t238 _ A11.out).mono ?_); rintro e w' ⟨rfl, ⟨nd, rfl⟩⟩; refine ⟨_, rfl, ?_⟩))
  go_ret
  exact ⟨by first | rfl | (simp; done) | (simp [*]; done), by repeat (first | exact Drawn0.refl _ | apply Drawn0.step)⟩

/-! ### laws_size: function 50 -/
def laws_size.f (a0 : Int) : Option (Int) := some (mx a0 (wrap64 (-a0)))
set_option maxHeartbeats 8000000 in
set_option maxRecDepth 100000 in
theorem laws_size.calls (a0 : Int) (r : Int) (w : World) (h : laws_size.f a0 = some r) :
    Calls Try.prog 50 #[.int .i64 a0] w fun e w' => e = .returned (.int .i64 r) ∧ Below w.heap.size w w' := by
  have HB := Aside0.mk (Below.refl w.heap.size w)
  have H : (some (mx a0 (wrap64 (-a0)))) = some r := h
  clear h
  obtain ⟨ji2, hji2⟩ : ∃ j_ : Int, (mx a0 (wrap64 (-a0))) = j_ := ⟨_, rfl⟩
  replace H : (some ji2) = some r := by first | (rw [hji2] at H; exact H) | (simp only [hji2] at H ⊢; exact H)
  have hji2_ : (if a0 < (wrap64 (-a0)) then (wrap64 (-a0)) else a0) = ji2 := hji2
  obtain rfl := Option.some.inj H
  go_enter Try.func50, Try.ntmps50
  go_wp2
  go_ret
  exact ⟨by first | rfl | (simp [errW_none, errW_some] <;> rfl) | (simp only [← hji2]; first | rfl | (simp [errW_none, errW_some] <;> rfl)) | (simp [*, errW_none, errW_some] <;> rfl), by repeat (first | (with_reducible first | exact HB.out | apply below_alloc | apply pw_below_drewN | apply below_drew1) | exact HB.out)⟩

/-! ### laws_chosen: function 38 -/
def laws_chosen.l0 : Nat → Int → Int → Int → Int → Int → Int → Option (Int)
  | 0, _, _, _, _, _, _ => none
  | k + 1, x0, x1, x2, x7, x8, x9 => if x9 < 4 then ((laws_part.f x0 x9).bind fun t239 => ((laws_part.f x1 x9).bind fun t240 => ((laws_part.f x2 x9).bind fun t241 => ((laws_part.f x0 x9).bind fun t242 => ((laws_size.f (wrap64 ((wrap64 ((wrap64 (t239 + t240)) - t241)) - t242))).bind fun t243 => ((laws_part.f x1 x9).bind fun t244 => ((laws_size.f (wrap64 ((wrap64 ((wrap64 (t239 + t240)) - t241)) - t244))).bind fun t245 => (laws_chosen.l0 k x0 x1 x2 (wrap64 (x7 + t243)) (wrap64 (x8 + t245)) (wrap64 (x9 + 1)))))))))) else (if x7 < x8 then (some x0) else (some x1))
def laws_chosen.f (k : Nat) (a0 : Int) (a1 : Int) (a2 : Int) : Option (Int) := laws_chosen.l0 k a0 a1 a2 0 0 0
theorem laws_chosen.mono_l : ∀ k, (∀ y0 y1 y2 y3 y4 y5, LeO (laws_chosen.l0 k y0 y1 y2 y3 y4 y5) (laws_chosen.l0 (k + 1) y0 y1 y2 y3 y4 y5))
  | 0 => fun _ _ _ _ _ _ r h => by simp [laws_chosen.l0] at h
  | k + 1 => by
    have ih0 := laws_chosen.mono_l k
    · intro y0 y1 y2 y3 y4 y5
      unfold laws_chosen.l0
      repeat' first
      | (with_reducible exact ih0 _ _ _ _ _ _)
      | (with_reducible exact LeO.refl _)
      | (with_reducible exact LeO.none _)
      | (with_reducible refine LeO.ite ?_ ?_)
      | (with_reducible refine LeO.bind ?_ (fun _ => ?_))
      | exact ih0 _ _ _ _ _ _
      | exact LeO.none _
      | refine LeO.ite ?_ ?_
      | refine LeO.bind ?_ (fun _ => ?_)
theorem laws_chosen.mono : ∀ a0 a1 a2 k, LeO (laws_chosen.f k a0 a1 a2) (laws_chosen.f (k + 1) a0 a1 a2) := by
  intro a0 a1 a2 k
  have ih0 := laws_chosen.mono_l k
  unfold laws_chosen.f
  repeat' first
      | (with_reducible exact ih0 _ _ _ _ _ _)
      | (with_reducible exact LeO.refl _)
      | (with_reducible exact LeO.none _)
      | (with_reducible refine LeO.ite ?_ ?_)
      | (with_reducible refine LeO.bind ?_ (fun _ => ?_))
      | exact ih0 _ _ _ _ _ _
      | exact LeO.none _
      | refine LeO.ite ?_ ?_
      | refine LeO.bind ?_ (fun _ => ?_)
set_option maxHeartbeats 8000000 in
set_option maxRecDepth 100000 in
theorem laws_chosen.calls (k : Nat) (a0 : Int) (a1 : Int) (a2 : Int) (r : Int) (w : World) (h : laws_chosen.f k a0 a1 a2 = some r) :
    Calls Try.prog 38 #[.int .u32 a0, .int .u32 a1, .int .u32 a2] w fun e w' => e = .returned (.int .u32 r) ∧ Below w.heap.size w w' := by
  have HB := Aside0.mk (Below.refl w.heap.size w)
  have H : (laws_chosen.l0 k a0 a1 a2 0 0 0) = some r := h
  clear h
  have H' := Aside0.mk H
  clear H
  go_enter Try.func38, Try.ntmps38
  go_wp2
  go_loopg [7, 8, 9] k (fun kq v7 v8 v9 w' => ∃ (x7_1 : Int) (x8_1 : Int) (x9_1 : Int), v7 = .int .i64 x7_1 ∧ v8 = .int .i64 x8_1 ∧ v9 = .int .i64 x9_1 ∧ Aside0 (laws_chosen.l0 kq a0 a1 a2 x7_1 x8_1 x9_1 = some r) ∧ Aside0 (kq ≤ k) ∧ Aside0 (Below w.heap.size w w'))
  case atStart => exact ⟨(0), (0), (0), (by first | rfl | (simp; done) | (simp [*]; done)), (by first | rfl | (simp; done) | (simp [*]; done)), (by first | rfl | (simp; done) | (simp [*]; done)), H', ⟨Nat.le_refl _⟩, ⟨by repeat (first | (with_reducible first | exact HB.out | apply below_alloc | apply pw_below_drewN | apply below_drew1) | exact HB.out)⟩⟩
  case round =>
    clear H'
    try clear p2
    try clear c3
    obtain ⟨x7_1, x8_1, x9_1, rfl, rfl, rfl, HA, HK1, HB⟩ := hrel
    cases gk with
    | zero => exact absurd HA.out (by simp [laws_chosen.l0])
    | succ k1 =>
      have H := HA.out
      clear HA
      simp only [laws_chosen.l0] at H
      by_cases c4 : x9_1 < 4
      · rw [if_pos c4] at H
        have c4b0 : decide (x9_1 < 4) = true := decide_eq_true c4
        clear c4
        replace H := Option.bind_eq_some_iff.mp H
        obtain ⟨t239, A50, H⟩ := H
        replace H : ((laws_part.f a1 x9_1).bind fun t240 => ((laws_part.f a2 x9_1).bind fun t241 => ((laws_part.f a0 x9_1).bind fun t242 => ((laws_size.f (wrap64 ((wrap64 ((wrap64 (t239 + t240)) - t241)) - t242))).bind fun t243 => ((laws_part.f a1 x9_1).bind fun t244 => ((laws_size.f (wrap64 ((wrap64 ((wrap64 (t239 + t240)) - t241)) - t244))).bind fun t245 => (laws_chosen.l0 k1 a0 a1 a2 (wrap64 (x7_1 + t243)) (wrap64 (x8_1 + t245)) (wrap64 (x9_1 + 1))))))))) = some r := H
        have A5 := Aside0.mk A50
        clear A50
        replace H := Option.bind_eq_some_iff.mp H
        obtain ⟨t240, A60, H⟩ := H
        replace H : ((laws_part.f a2 x9_1).bind fun t241 => ((laws_part.f a0 x9_1).bind fun t242 => ((laws_size.f (wrap64 ((wrap64 ((wrap64 (t239 + t240)) - t241)) - t242))).bind fun t243 => ((laws_part.f a1 x9_1).bind fun t244 => ((laws_size.f (wrap64 ((wrap64 ((wrap64 (t239 + t240)) - t241)) - t244))).bind fun t245 => (laws_chosen.l0 k1 a0 a1 a2 (wrap64 (x7_1 + t243)) (wrap64 (x8_1 + t245)) (wrap64 (x9_1 + 1)))))))) = some r := H
        have A6 := Aside0.mk A60
        clear A60
        replace H := Option.bind_eq_some_iff.mp H
        obtain ⟨t241, A70, H⟩ := H
        replace H : ((laws_part.f a0 x9_1).bind fun t242 => ((laws_size.f (wrap64 ((wrap64 ((wrap64 (t239 + t240)) - t241)) - t242))).bind fun t243 => ((laws_part.f a1 x9_1).bind fun t244 => ((laws_size.f (wrap64 ((wrap64 ((wrap64 (t239 + t240)) - t241)) - t244))).bind fun t245 => (laws_chosen.l0 k1 a0 a1 a2 (wrap64 (x7_1 + t243)) (wrap64 (x8_1 + t245)) (wrap64 (x9_1 + 1))))))) = some r := H
        have A7 := Aside0.mk A70
        clear A70
        replace H := Option.bind_eq_some_iff.mp H
        obtain ⟨t242, A80, H⟩ := H
        replace H : ((laws_size.f (wrap64 ((wrap64 ((wrap64 (t239 + t240)) - t241)) - t242))).bind fun t243 => ((laws_part.f a1 x9_1).bind fun t244 => ((laws_size.f (wrap64 ((wrap64 ((wrap64 (t239 + t240)) - t241)) - t244))).bind fun t245 => (laws_chosen.l0 k1 a0 a1 a2 (wrap64 (x7_1 + t243)) (wrap64 (x8_1 + t245)) (wrap64 (x9_1 + 1)))))) = some r := H
        have A8 := Aside0.mk A80
        clear A80
        replace H := Option.bind_eq_some_iff.mp H
        obtain ⟨t243, A90, H⟩ := H
        replace H : ((laws_part.f a1 x9_1).bind fun t244 => ((laws_size.f (wrap64 ((wrap64 ((wrap64 (t239 + t240)) - t241)) - t244))).bind fun t245 => (laws_chosen.l0 k1 a0 a1 a2 (wrap64 (x7_1 + t243)) (wrap64 (x8_1 + t245)) (wrap64 (x9_1 + 1))))) = some r := H
        have A9 := Aside0.mk A90
        clear A90
        replace H := Option.bind_eq_some_iff.mp H
        obtain ⟨t244, A100, H⟩ := H
        replace H : ((laws_size.f (wrap64 ((wrap64 ((wrap64 (t239 + t240)) - t241)) - t244))).bind fun t245 => (laws_chosen.l0 k1 a0 a1 a2 (wrap64 (x7_1 + t243)) (wrap64 (x8_1 + t245)) (wrap64 (x9_1 + 1)))) = some r := H
        have A10 := Aside0.mk A100
        clear A100
        replace H := Option.bind_eq_some_iff.mp H
        obtain ⟨t245, A110, H⟩ := H
        replace H : (laws_chosen.l0 k1 a0 a1 a2 (wrap64 (x7_1 + t243)) (wrap64 (x8_1 + t245)) (wrap64 (x9_1 + 1))) = some r := H
        have A11 := Aside0.mk A110
        clear A110
        have H' := Aside0.mk H
        clear H
        go_wp2_with (first | ((with_reducible refine gate_callee (f := 27) rfl ?_); refine goesL_ (some 17) rfl rfl Try.func27 (by kernel_rfl) rfl #[.int .u32 a0, .int .i64 x9_1] rfl (by (try simp only [List.map_toArray, List.map_cons, List.map_nil]); first | done | rfl | (simp only [List.length_drop, List.length_take]; rfl)) ?_; (with_reducible refine (laws_part.calls a0 x9_1 t239 _ A5.out).mono ?_); rintro e w' ⟨rfl, ⟨nd, rfl⟩⟩; refine ⟨_, rfl, ?_⟩) | ((with_reducible refine gate_callee (f := 27) rfl ?_); refine goesL_ (some 20) rfl rfl Try.func27 (by kernel_rfl) rfl #[.int .u32 a1, .int .i64 x9_1] rfl (by (try simp only [List.map_toArray, List.map_cons, List.map_nil]); first | done | rfl | (simp only [List.length_drop, List.length_take]; rfl)) ?_; (with_reducible refine (laws_part.calls a1 x9_1 t240 _ A6.out).mono ?_); rintro e w' ⟨rfl, ⟨nd, rfl⟩⟩; refine ⟨_, rfl, ?_⟩) | ((with_reducible refine gate_callee (f := 27) rfl ?_); refine goesL_ (some 24) rfl rfl Try.func27 (by kernel_rfl) rfl #[.int .u32 a2, .int .i64 x9_1] rfl (by (try simp only [List.map_toArray, List.map_cons, List.map_nil]); first | done | rfl | (simp only [List.length_drop, List.length_take]; rfl)) ?_; (with_reducible refine (laws_part.calls a2 x9_1 t241 _ A7.out).mono ?_); rintro e w' ⟨rfl, ⟨nd, rfl⟩⟩; refine ⟨_, rfl, ?_⟩) | ((with_reducible refine gate_callee (f := 27) rfl ?_); refine goesL_ (some 30) rfl rfl Try.func27 (by kernel_rfl) rfl #[.int .u32 a0, .int .i64 x9_1] rfl (by (try simp only [List.map_toArray, List.map_cons, List.map_nil]); first | done | rfl | (simp only [List.length_drop, List.length_take]; rfl)) ?_; (with_reducible refine (laws_part.calls a0 x9_1 t242 _ A8.out).mono ?_); rintro e w' ⟨rfl, ⟨nd, rfl⟩⟩; refine ⟨_, rfl, ?_⟩) | ((with_reducible refine gate_callee (f := 50) rfl ?_); refine goesL_ (some 32) rfl rfl Try.func50 (by kernel_rfl) rfl #[.int .i64 (wrap64 ((wrap64 ((wrap64 (t239 + t240)) - t241)) - t242))] rfl (by (try simp only [List.map_toArray, List.map_cons, List.map_nil]); first | done | rfl | (simp only [List.length_drop, List.length_take]; rfl)) ?_; (with_reducible refine (laws_size.calls (wrap64 ((wrap64 ((wrap64 (t239 + t240)) - t241)) - t242)) t243 _ A9.out).mono ?_); rintro e w12 ⟨rfl, hb⟩; refine ⟨_, rfl, ?_⟩; have n0_ := Aside0.mk (below_step (by repeat (first | (with_reducible first | exact HB.out | apply below_alloc | apply pw_below_drewN | apply below_drew1) | exact HB.out)) hb); clear HB; have HB := n0_; clear n0_; (try clear hb); (try clear hb2); (try clear hk); (try clear hi)) | ((with_reducible refine gate_callee (f := 27) rfl ?_); refine goesL_ (some 38) rfl rfl Try.func27 (by kernel_rfl) rfl #[.int .u32 a1, .int .i64 x9_1] rfl (by (try simp only [List.map_toArray, List.map_cons, List.map_nil]); first | done | rfl | (simp only [List.length_drop, List.length_take]; rfl)) ?_; (with_reducible refine (laws_part.calls a1 x9_1 t244 _ A10.out).mono ?_); rintro e w' ⟨rfl, ⟨nd, rfl⟩⟩; refine ⟨_, rfl, ?_⟩) | ((with_reducible refine gate_callee (f := 50) rfl ?_); refine goesL_ (some 40) rfl rfl Try.func50 (by kernel_rfl) rfl #[.int .i64 (wrap64 ((wrap64 ((wrap64 (t239 + t240)) - t241)) - t244))] rfl (by (try simp only [List.map_toArray, List.map_cons, List.map_nil]); first | done | rfl | (simp only [List.length_drop, List.length_take]; rfl)) ?_; (with_reducible refine (laws_size.calls (wrap64 ((wrap64 ((wrap64 (t239 + t240)) - t241)) - t244)) t245 _ A11.out).mono ?_); rintro e w13 ⟨rfl, hb⟩; refine ⟨_, rfl, ?_⟩; have n0_ := Aside0.mk (below_step (by repeat (first | (with_reducible first | exact HB.out | apply below_alloc | apply pw_below_drewN | apply below_drew1) | exact HB.out)) hb); clear HB; have HB := n0_; clear n0_; (try clear hb); (try clear hb2); (try clear hk); (try clear hi)))
        go_roundg k1
        case measure => have := HK1.out; omega
        case rel => exact ⟨(wrap64 (x7_1 + t243)), (wrap64 (x8_1 + t245)), (wrap64 (x9_1 + 1)), (by first | rfl | (simp; done) | (simp [*]; done)), (by first | rfl | (simp; done) | (simp [*]; done)), (by first | rfl | (simp; done) | (simp [*]; done)), H', ⟨by have := HK1.out; omega⟩, ⟨by repeat (first | (with_reducible first | exact HB.out | apply below_alloc | apply pw_below_drewN | apply below_drew1) | exact HB.out)⟩⟩
      · rw [if_neg c4] at H
        have c4b0 : decide (x9_1 < 4) = false := decide_eq_false c4
        clear c4
        by_cases c14 : x7_1 < x8_1
        · rw [if_pos c14] at H
          have c14b0 : decide (x7_1 < x8_1) = true := decide_eq_true c14
          clear c14
          obtain rfl := Option.some.inj H
          go_wp2
          go_ret
          exact ⟨by first | rfl | (simp [errW_none, errW_some] <;> rfl) | (simp [*, errW_none, errW_some] <;> rfl), by repeat (first | (with_reducible first | exact HB.out | apply below_alloc | apply pw_below_drewN | apply below_drew1) | exact HB.out)⟩
        · rw [if_neg c14] at H
          have c14b0 : decide (x7_1 < x8_1) = false := decide_eq_false c14
          clear c14
          obtain rfl := Option.some.inj H
          go_wp2
          go_ret
          exact ⟨by first | rfl | (simp [errW_none, errW_some] <;> rfl) | (simp [*, errW_none, errW_some] <;> rfl), by repeat (first | (with_reducible first | exact HB.out | apply below_alloc | apply pw_below_drewN | apply below_drew1) | exact HB.out)⟩

/-! ### laws_held: function 51 -/
def laws_held.f (a0 : Int) : Option (Int) := some (mn (mx a0 0) 255)
set_option maxHeartbeats 8000000 in
set_option maxRecDepth 100000 in
theorem laws_held.calls (a0 : Int) (r : Int) (w : World) (h : laws_held.f a0 = some r) :
    Calls Try.prog 51 #[.int .i64 a0] w fun e w' => e = .returned (.int .i64 r) ∧ Below w.heap.size w w' := by
  have HB := Aside0.mk (Below.refl w.heap.size w)
  have H : (some (mn (mx a0 0) 255)) = some r := h
  clear h
  obtain ⟨ji2, hji2⟩ : ∃ j_ : Int, (mx a0 0) = j_ := ⟨_, rfl⟩
  replace H : (some (mn (ji2) 255)) = some r := by first | (rw [hji2] at H; exact H) | (simp only [hji2] at H ⊢; exact H)
  (try (have hji2l : 0 ≤ ji2 := by (rw [← hji2]; unfold mx; (repeat' split) <;> omega)))
  (try (have hji2m : 0 ≤ ji2 := by omega))
  have hji2_ : (if a0 < 0 then 0 else a0) = ji2 := hji2
  obtain ⟨ji3, hji3⟩ : ∃ j_ : Int, (mn (ji2) 255) = j_ := ⟨_, rfl⟩
  replace H : (some ji3) = some r := by first | (rw [hji3] at H; exact H) | (simp only [hji3] at H ⊢; exact H)
  have hji3_ : (if 255 < (ji2) then 255 else (ji2)) = ji3 := hji3
  obtain rfl := Option.some.inj H
  go_enter Try.func51, Try.ntmps51
  go_wp2
  go_ret
  exact ⟨by first | rfl | (simp [errW_none, errW_some] <;> rfl) | (simp only [← hji2, ← hji3]; first | rfl | (simp [errW_none, errW_some] <;> rfl)) | (simp [*, errW_none, errW_some] <;> rfl), by repeat (first | (with_reducible first | exact HB.out | apply below_alloc | apply pw_below_drewN | apply below_drew1) | exact HB.out)⟩

-- NOT PRINTED: function 39 (laws_full)

-- NOT PRINTED: function 40 (laws_half)

-- NOT PRINTED: function 28 (laws_guess)

-- NOT PRINTED: function 14 (laws_predicted)

-- NOT PRINTED: function 15 (laws_writer_block)

end Go.Proofs.Ytgjcikajfnlocaa.PFnPredictorBack
