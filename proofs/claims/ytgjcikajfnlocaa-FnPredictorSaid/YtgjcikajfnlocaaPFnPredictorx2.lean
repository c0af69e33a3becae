-- PRINTED BY print.sh 35421559b90ae4d0a3588c463048766b98c2df88dd9212a6774a882060cdf62d: not written by this session
import Derived.Test.YtgjcikajfnlocaaPFnPredictorx0
import Derived.Test.YtgjcikajfnlocaaPFnPredictorx1
namespace Go.Proofs.Ytgjcikajfnlocaa.PFnPredictor
open Go.RowKit Go.Proofs.YtgjcikajfnlocaaW.PrintWords Go.Proofs.YtgjcikajfnlocaaW.PrintLast Go.Proofs.YtgjcikajfnlocaaW.PrintMore
attribute [local go_sem] max2_int min2_int max_two min_two max_three min_three max_four min_four   -- for this text's walks alone
set_option linter.unusedVariables false
set_option linter.unusedSimpArgs false

/-! ### spec_mean: function 46 -/
def spec_mean.l0 : Nat → Int → Int → Int → Int → Option (Int)
  | 0, _, _, _, _ => none
  | k + 1, x0, x1, x5, x6 => if x6 < 4 then ((spec_part.f x0 x6).bind fun t220 => ((spec_part.f x1 x6).bind fun t221 => (if 0 ≤ (wrap64 (8 * x6)) then (spec_mean.l0 k x0 x1 (Go.bits .or .u32 x5 (shl .u32 ((wrap64 (Int.tdiv (wrap64 (t220 + t221)) 2)) % 4294967296) (wrap64 (8 * x6)))) (wrap64 (x6 + 1))) else (none)))) else (some x5)
def spec_mean.f (k : Nat) (a0 : Int) (a1 : Int) : Option (Int) := spec_mean.l0 k a0 a1 0 0
theorem spec_mean.mono_l : ∀ k, (∀ y0 y1 y2 y3, LeO (spec_mean.l0 k y0 y1 y2 y3) (spec_mean.l0 (k + 1) y0 y1 y2 y3))
  | 0 => fun _ _ _ _ r h => by simp [spec_mean.l0] at h
  | k + 1 => by
    have ih0 := spec_mean.mono_l k
    · intro y0 y1 y2 y3
      unfold spec_mean.l0
      repeat' first
      | (with_reducible exact ih0 _ _ _ _)
      | (with_reducible exact LeO.refl _)
      | (with_reducible exact LeO.none _)
      | (with_reducible refine LeO.ite ?_ ?_)
      | (with_reducible refine LeO.bind ?_ (fun _ => ?_))
      | exact ih0 _ _ _ _
      | exact LeO.none _
      | refine LeO.ite ?_ ?_
      | refine LeO.bind ?_ (fun _ => ?_)
theorem spec_mean.mono : ∀ a0 a1 k, LeO (spec_mean.f k a0 a1) (spec_mean.f (k + 1) a0 a1) := by
  intro a0 a1 k
  have ih0 := spec_mean.mono_l k
  unfold spec_mean.f
  repeat' first
      | (with_reducible exact ih0 _ _ _ _)
      | (with_reducible exact LeO.refl _)
      | (with_reducible exact LeO.none _)
      | (with_reducible refine LeO.ite ?_ ?_)
      | (with_reducible refine LeO.bind ?_ (fun _ => ?_))
      | exact ih0 _ _ _ _
      | exact LeO.none _
      | refine LeO.ite ?_ ?_
      | refine LeO.bind ?_ (fun _ => ?_)
set_option maxHeartbeats 8000000 in
set_option maxRecDepth 100000 in
theorem spec_mean.calls (k : Nat) (a0 : Int) (a1 : Int) (r : Int) (w : World) (h : spec_mean.f k a0 a1 = some r) :
    Calls Try.prog 46 #[.int .u32 a0, .int .u32 a1] w fun e w' => e = .returned (.int .u32 r) ∧ Drawn0 w w' := by
  have H : (spec_mean.l0 k a0 a1 0 0) = some r := h
  clear h
  have H' := Aside0.mk H
  clear H
  go_enter Try.func46, Try.ntmps46
  go_wp2
  go_loopg [5, 6] k (fun kq v5 v6 w' => ∃ (x5_1 : Int) (x6_1 : Int), v5 = .int .u32 x5_1 ∧ v6 = .int .i64 x6_1 ∧ Aside0 (spec_mean.l0 kq a0 a1 x5_1 x6_1 = some r) ∧ Aside0 (kq ≤ k) ∧ Drawn0 w w')
  case atStart => exact ⟨(0), (0), (by first | rfl | (simp; done) | (simp [*]; done)), (by first | rfl | (simp; done) | (simp [*]; done)), H', ⟨Nat.le_refl _⟩, by repeat (first | exact Drawn0.refl _ | apply Drawn0.step)⟩
  case round =>
    clear H'
    try clear p2
    obtain ⟨x5_1, x6_1, rfl, rfl, HA, HK1, ⟨m1, rfl⟩⟩ := hrel
    cases gk with
    | zero => exact absurd HA.out (by simp [spec_mean.l0])
    | succ k1 =>
      have H := HA.out
      clear HA
      simp only [spec_mean.l0] at H
      by_cases c3 : x6_1 < 4
      · rw [if_pos c3] at H
        have c3b0 : decide (x6_1 < 4) = true := decide_eq_true c3
        clear c3
        replace H := Option.bind_eq_some_iff.mp H
        obtain ⟨t220, A40, H⟩ := H
        replace H : ((spec_part.f a1 x6_1).bind fun t221 => (if 0 ≤ (wrap64 (8 * x6_1)) then (spec_mean.l0 k1 a0 a1 (Go.bits .or .u32 x5_1 (shl .u32 ((wrap64 (Int.tdiv (wrap64 (t220 + t221)) 2)) % 4294967296) (wrap64 (8 * x6_1)))) (wrap64 (x6_1 + 1))) else (none))) = some r := H
        have A4 := Aside0.mk A40
        clear A40
        replace H := Option.bind_eq_some_iff.mp H
        obtain ⟨t221, A50, H⟩ := H
        replace H : (if 0 ≤ (wrap64 (8 * x6_1)) then (spec_mean.l0 k1 a0 a1 (Go.bits .or .u32 x5_1 (shl .u32 ((wrap64 (Int.tdiv (wrap64 (t220 + t221)) 2)) % 4294967296) (wrap64 (8 * x6_1)))) (wrap64 (x6_1 + 1))) else (none)) = some r := H
        have A5 := Aside0.mk A50
        clear A50
        obtain ⟨ji6, hji6⟩ : ∃ j_ : Int, (wrap64 (8 * x6_1)) = j_ := ⟨_, rfl⟩
        replace H : (if 0 ≤ (ji6) then (spec_mean.l0 k1 a0 a1 (Go.bits .or .u32 x5_1 (shl .u32 ((wrap64 (Int.tdiv (wrap64 (t220 + t221)) 2)) % 4294967296) (ji6))) (wrap64 (x6_1 + 1))) else (none)) = some r := by first | (rw [hji6] at H; exact H) | (simp only [hji6] at H ⊢; exact H)
        (try rw [hji6] at A4)
        (try rw [hji6] at A5)
        have hji6w : (IntKind.i64.wrap (8 * x6_1)) = ji6 := (i64_w _).trans hji6
        by_cases c7 : 0 ≤ (ji6)
        · rw [if_pos c7] at H
          have c7b0 := eq_true c7
          have c7b1 : decide (0 ≤ (ji6)) = true := decide_eq_true c7
          clear c7
          obtain ⟨ji8, hji8⟩ : ∃ j_ : Int, (shl .u32 ((wrap64 (Int.tdiv (wrap64 (t220 + t221)) 2)) % 4294967296) (ji6)) = j_ := ⟨_, rfl⟩
          replace H : (spec_mean.l0 k1 a0 a1 (Go.bits .or .u32 x5_1 (ji8)) (wrap64 (x6_1 + 1))) = some r := by first | (rw [hji8] at H; exact H) | (simp only [hji8] at H ⊢; exact H)
          (try rw [hji8] at A4)
          (try rw [hji8] at A5)
          have hji8_ : (IntKind.u32.wrap (((wrap64 (Int.tdiv (wrap64 (t220 + t221)) 2)) % 4294967296) * 2 ^ min (ji6).toNat 32)) = ji8 := hji8
          have hji8z : (ji6) ≤ 32 → (IntKind.u32.wrap (((wrap64 (Int.tdiv (wrap64 (t220 + t221)) 2)) % 4294967296) * 2 ^ (ji6).toNat)) = ji8 := shl_small hji8
          have H' := Aside0.mk H
          clear H
          go_wp2_with (first | ((with_reducible refine gate_callee (f := 34) rfl ?_); refine goesL_ (some 14) rfl rfl Try.func34 (by kernel_rfl) rfl #[.int .u32 a0, .int .i64 x6_1] rfl (by (try simp only [List.map_toArray, List.map_cons, List.map_nil]); first | done | rfl | (simp only [List.length_drop, List.length_take]; rfl)) ?_; (with_reducible refine (spec_part.calls a0 x6_1 t220 _ A4.out).mono ?_); rintro e w' ⟨rfl, ⟨nd, rfl⟩⟩; refine ⟨_, rfl, ?_⟩) | ((with_reducible refine gate_callee (f := 34) rfl ?_); refine goesL_ (some 17) rfl rfl Try.func34 (by kernel_rfl) rfl #[.int .u32 a1, .int .i64 x6_1] rfl (by (try simp only [List.map_toArray, List.map_cons, List.map_nil]); first | done | rfl | (simp only [List.length_drop, List.length_take]; rfl)) ?_; (with_reducible refine (spec_part.calls a1 x6_1 t221 _ A5.out).mono ?_); rintro e w' ⟨rfl, ⟨nd, rfl⟩⟩; refine ⟨_, rfl, ?_⟩))
          go_roundg k1
          case measure => have := HK1.out; omega
          case rel => exact ⟨(Go.bits .or .u32 x5_1 (ji8)), (wrap64 (x6_1 + 1)), (by first | rfl | (simp; done) | (simp only [← hji8] <;> (first | rfl | simp)) | (simp [*]; done)), (by first | rfl | (simp; done) | (simp [*]; done)), H', ⟨by have := HK1.out; omega⟩, by repeat (first | exact Drawn0.refl _ | apply Drawn0.step)⟩
        · rw [if_neg c7] at H
          exact absurd H (by simp)
      · rw [if_neg c3] at H
        have c3b0 : decide (x6_1 < 4) = false := decide_eq_false c3
        clear c3
        obtain rfl := Option.some.inj H
        go_wp2
        go_ret
        exact ⟨by first | rfl | (simp; done) | (simp [*]; done), by repeat (first | exact Drawn0.refl _ | apply Drawn0.step)⟩

/-! ### spec_size: function 52 -/
def spec_size.f (a0 : Int) : Option (Int) := some (mx a0 (wrap64 (-a0)))
set_option maxHeartbeats 8000000 in
set_option maxRecDepth 100000 in
theorem spec_size.calls (a0 : Int) (r : Int) (w : World) (h : spec_size.f a0 = some r) :
    Calls Try.prog 52 #[.int .i64 a0] w fun e w' => e = .returned (.int .i64 r) ∧ Below w.heap.size w w' := by
  have HB := Aside0.mk (Below.refl w.heap.size w)
  have H : (some (mx a0 (wrap64 (-a0)))) = some r := h
  clear h
  obtain ⟨ji2, hji2⟩ : ∃ j_ : Int, (mx a0 (wrap64 (-a0))) = j_ := ⟨_, rfl⟩
  replace H : (some ji2) = some r := by first | (rw [hji2] at H; exact H) | (simp only [hji2] at H ⊢; exact H)
  have hji2_ : (if a0 < (wrap64 (-a0)) then (wrap64 (-a0)) else a0) = ji2 := hji2
  obtain rfl := Option.some.inj H
  go_enter Try.func52, Try.ntmps52
  go_wp2
  go_ret
  exact ⟨by first | rfl | (simp [errW_none, errW_some] <;> rfl) | (simp only [← hji2]; first | rfl | (simp [errW_none, errW_some] <;> rfl)) | (simp [*, errW_none, errW_some] <;> rfl), by repeat (first | (with_reducible first | exact HB.out | apply below_alloc | apply pw_below_drewN | apply below_drew1) | exact HB.out)⟩

/-! ### spec_chosen: function 47 -/
def spec_chosen.l0 : Nat → Int → Int → Int → Int → Int → Int → Option (Int)
  | 0, _, _, _, _, _, _ => none
  | k + 1, x0, x1, x2, x7, x8, x9 => if x9 < 4 then ((spec_part.f x0 x9).bind fun t222 => ((spec_part.f x1 x9).bind fun t223 => ((spec_part.f x2 x9).bind fun t224 => ((spec_part.f x0 x9).bind fun t225 => ((spec_size.f (wrap64 ((wrap64 ((wrap64 (t222 + t223)) - t224)) - t225))).bind fun t226 => ((spec_part.f x1 x9).bind fun t227 => ((spec_size.f (wrap64 ((wrap64 ((wrap64 (t222 + t223)) - t224)) - t227))).bind fun t228 => (spec_chosen.l0 k x0 x1 x2 (wrap64 (x7 + t226)) (wrap64 (x8 + t228)) (wrap64 (x9 + 1)))))))))) else (if x7 < x8 then (some x0) else (some x1))
def spec_chosen.f (k : Nat) (a0 : Int) (a1 : Int) (a2 : Int) : Option (Int) := spec_chosen.l0 k a0 a1 a2 0 0 0
theorem spec_chosen.mono_l : ∀ k, (∀ y0 y1 y2 y3 y4 y5, LeO (spec_chosen.l0 k y0 y1 y2 y3 y4 y5) (spec_chosen.l0 (k + 1) y0 y1 y2 y3 y4 y5))
  | 0 => fun _ _ _ _ _ _ r h => by simp [spec_chosen.l0] at h
  | k + 1 => by
    have ih0 := spec_chosen.mono_l k
    · intro y0 y1 y2 y3 y4 y5
      unfold spec_chosen.l0
      repeat' first
      | (with_reducible exact ih0 _ _ _ _ _ _)
      | (with_reducible exact LeO.refl _)
      | (with_reducible exact LeO.none _)
      | (with_reducible refine LeO.ite ?_ ?_)
      | (with_reducible refine LeO.bind ?_ (fun _ => ?_))
      | exact ih0 _ _ _ _ _ _
      | exact LeO.none _
      | refine LeO.ite ?_ ?_
      | refine LeO.bind ?_ (fun _ => ?_)
theorem spec_chosen.mono : ∀ a0 a1 a2 k, LeO (spec_chosen.f k a0 a1 a2) (spec_chosen.f (k + 1) a0 a1 a2) := by
  intro a0 a1 a2 k
  have ih0 := spec_chosen.mono_l k
  unfold spec_chosen.f
  repeat' first
      | (with_reducible exact ih0 _ _ _ _ _ _)
      | (with_reducible exact LeO.refl _)
      | (with_reducible exact LeO.none _)
      | (with_reducible refine LeO.ite ?_ ?_)
      | (with_reducible refine LeO.bind ?_ (fun _ => ?_))
      | exact ih0 _ _ _ _ _ _
      | exact LeO.none _
      | refine LeO.ite ?_ ?_
      | refine LeO.bind ?_ (fun _ => ?_)
set_option maxHeartbeats 8000000 in
set_option maxRecDepth 100000 in
theorem spec_chosen.calls (k : Nat) (a0 : Int) (a1 : Int) (a2 : Int) (r : Int) (w : World) (h : spec_chosen.f k a0 a1 a2 = some r) :
    Calls Try.prog 47 #[.int .u32 a0, .int .u32 a1, .int .u32 a2] w fun e w' => e = .returned (.int .u32 r) ∧ Below w.heap.size w w' := by
  have HB := Aside0.mk (Below.refl w.heap.size w)
  have H : (spec_chosen.l0 k a0 a1 a2 0 0 0) = some r := h
  clear h
  have H' := Aside0.mk H
  clear H
  go_enter Try.func47, Try.ntmps47
  go_wp2
  go_loopg [7, 8, 9] k (fun kq v7 v8 v9 w' => ∃ (x7_1 : Int) (x8_1 : Int) (x9_1 : Int), v7 = .int .i64 x7_1 ∧ v8 = .int .i64 x8_1 ∧ v9 = .int .i64 x9_1 ∧ Aside0 (spec_chosen.l0 kq a0 a1 a2 x7_1 x8_1 x9_1 = some r) ∧ Aside0 (kq ≤ k) ∧ Aside0 (Below w.heap.size w w'))
  case atStart => exact ⟨(0), (0), (0), (by first | rfl | (simp; done) | (simp [*]; done)), (by first | rfl | (simp; done) | (simp [*]; done)), (by first | rfl | (simp; done) | (simp [*]; done)), H', ⟨Nat.le_refl _⟩, ⟨by repeat (first | (with_reducible first | exact HB.out | apply below_alloc | apply pw_below_drewN | apply below_drew1) | exact HB.out)⟩⟩
  case round =>
    clear H'
    try clear p2
    obtain ⟨x7_1, x8_1, x9_1, rfl, rfl, rfl, HA, HK1, HB⟩ := hrel
    cases gk with
    | zero => exact absurd HA.out (by simp [spec_chosen.l0])
    | succ k1 =>
      have H := HA.out
      clear HA
      simp only [spec_chosen.l0] at H
      by_cases c4 : x9_1 < 4
      · rw [if_pos c4] at H
        have c4b0 : decide (x9_1 < 4) = true := decide_eq_true c4
        clear c4
        replace H := Option.bind_eq_some_iff.mp H
        obtain ⟨t222, A50, H⟩ := H
        replace H : ((spec_part.f a1 x9_1).bind fun t223 => ((spec_part.f a2 x9_1).bind fun t224 => ((spec_part.f a0 x9_1).bind fun t225 => ((spec_size.f (wrap64 ((wrap64 ((wrap64 (t222 + t223)) - t224)) - t225))).bind fun t226 => ((spec_part.f a1 x9_1).bind fun t227 => ((spec_size.f (wrap64 ((wrap64 ((wrap64 (t222 + t223)) - t224)) - t227))).bind fun t228 => (spec_chosen.l0 k1 a0 a1 a2 (wrap64 (x7_1 + t226)) (wrap64 (x8_1 + t228)) (wrap64 (x9_1 + 1))))))))) = some r := H
        have A5 := Aside0.mk A50
        clear A50
        replace H := Option.bind_eq_some_iff.mp H
        obtain ⟨t223, A60, H⟩ := H
        replace H : ((spec_part.f a2 x9_1).bind fun t224 => ((spec_part.f a0 x9_1).bind fun t225 => ((spec_size.f (wrap64 ((wrap64 ((wrap64 (t222 + t223)) - t224)) - t225))).bind fun t226 => ((spec_part.f a1 x9_1).bind fun t227 => ((spec_size.f (wrap64 ((wrap64 ((wrap64 (t222 + t223)) - t224)) - t227))).bind fun t228 => (spec_chosen.l0 k1 a0 a1 a2 (wrap64 (x7_1 + t226)) (wrap64 (x8_1 + t228)) (wrap64 (x9_1 + 1)))))))) = some r := H
        have A6 := Aside0.mk A60
        clear A60
        replace H := Option.bind_eq_some_iff.mp H
        obtain ⟨t224, A70, H⟩ := H
        replace H : ((spec_part.f a0 x9_1).bind fun t225 => ((spec_size.f (wrap64 ((wrap64 ((wrap64 (t222 + t223)) - t224)) - t225))).bind fun t226 => ((spec_part.f a1 x9_1).bind fun t227 => ((spec_size.f (wrap64 ((wrap64 ((wrap64 (t222 + t223)) - t224)) - t227))).bind fun t228 => (spec_chosen.l0 k1 a0 a1 a2 (wrap64 (x7_1 + t226)) (wrap64 (x8_1 + t228)) (wrap64 (x9_1 + 1))))))) = some r := H
        have A7 := Aside0.mk A70
        clear A70
        replace H := Option.bind_eq_some_iff.mp H
        obtain ⟨t225, A80, H⟩ := H
        replace H : ((spec_size.f (wrap64 ((wrap64 ((wrap64 (t222 + t223)) - t224)) - t225))).bind fun t226 => ((spec_part.f a1 x9_1).bind fun t227 => ((spec_size.f (wrap64 ((wrap64 ((wrap64 (t222 + t223)) - t224)) - t227))).bind fun t228 => (spec_chosen.l0 k1 a0 a1 a2 (wrap64 (x7_1 + t226)) (wrap64 (x8_1 + t228)) (wrap64 (x9_1 + 1)))))) = some r := H
        have A8 := Aside0.mk A80
        clear A80
        replace H := Option.bind_eq_some_iff.mp H
        obtain ⟨t226, A90, H⟩ := H
        replace H : ((spec_part.f a1 x9_1).bind fun t227 => ((spec_size.f (wrap64 ((wrap64 ((wrap64 (t222 + t223)) - t224)) - t227))).bind fun t228 => (spec_chosen.l0 k1 a0 a1 a2 (wrap64 (x7_1 + t226)) (wrap64 (x8_1 + t228)) (wrap64 (x9_1 + 1))))) = some r := H
        have A9 := Aside0.mk A90
        clear A90
        replace H := Option.bind_eq_some_iff.mp H
        obtain ⟨t227, A100, H⟩ := H
        replace H : ((spec_size.f (wrap64 ((wrap64 ((wrap64 (t222 + t223)) - t224)) - t227))).bind fun t228 => (spec_chosen.l0 k1 a0 a1 a2 (wrap64 (x7_1 + t226)) (wrap64 (x8_1 + t228)) (wrap64 (x9_1 + 1)))) = some r := H
        have A10 := Aside0.mk A100
        clear A100
        replace H := Option.bind_eq_some_iff.mp H
        obtain ⟨t228, A110, H⟩ := H
        replace H : (spec_chosen.l0 k1 a0 a1 a2 (wrap64 (x7_1 + t226)) (wrap64 (x8_1 + t228)) (wrap64 (x9_1 + 1))) = some r := H
        have A11 := Aside0.mk A110
        clear A110
        have H' := Aside0.mk H
        clear H
        go_wp2_with (first | ((with_reducible refine gate_callee (f := 34) rfl ?_); refine goesL_ (some 17) rfl rfl Try.func34 (by kernel_rfl) rfl #[.int .u32 a0, .int .i64 x9_1] rfl (by (try simp only [List.map_toArray, List.map_cons, List.map_nil]); first | done | rfl | (simp only [List.length_drop, List.length_take]; rfl)) ?_; (with_reducible refine (spec_part.calls a0 x9_1 t222 _ A5.out).mono ?_); rintro e w' ⟨rfl, ⟨nd, rfl⟩⟩; refine ⟨_, rfl, ?_⟩) | ((with_reducible refine gate_callee (f := 34) rfl ?_); refine goesL_ (some 20) rfl rfl Try.func34 (by kernel_rfl) rfl #[.int .u32 a1, .int .i64 x9_1] rfl (by (try simp only [List.map_toArray, List.map_cons, List.map_nil]); first | done | rfl | (simp only [List.length_drop, List.length_take]; rfl)) ?_; (with_reducible refine (spec_part.calls a1 x9_1 t223 _ A6.out).mono ?_); rintro e w' ⟨rfl, ⟨nd, rfl⟩⟩; refine ⟨_, rfl, ?_⟩) | ((with_reducible refine gate_callee (f := 34) rfl ?_); refine goesL_ (some 24) rfl rfl Try.func34 (by kernel_rfl) rfl #[.int .u32 a2, .int .i64 x9_1] rfl (by (try simp only [List.map_toArray, List.map_cons, List.map_nil]); first | done | rfl | (simp only [List.length_drop, List.length_take]; rfl)) ?_; (with_reducible refine (spec_part.calls a2 x9_1 t224 _ A7.out).mono ?_); rintro e w' ⟨rfl, ⟨nd, rfl⟩⟩; refine ⟨_, rfl, ?_⟩) | ((with_reducible refine gate_callee (f := 34) rfl ?_); refine goesL_ (some 30) rfl rfl Try.func34 (by kernel_rfl) rfl #[.int .u32 a0, .int .i64 x9_1] rfl (by (try simp only [List.map_toArray, List.map_cons, List.map_nil]); first | done | rfl | (simp only [List.length_drop, List.length_take]; rfl)) ?_; (with_reducible refine (spec_part.calls a0 x9_1 t225 _ A8.out).mono ?_); rintro e w' ⟨rfl, ⟨nd, rfl⟩⟩; refine ⟨_, rfl, ?_⟩) | ((with_reducible refine gate_callee (f := 52) rfl ?_); refine goesL_ (some 32) rfl rfl Try.func52 (by kernel_rfl) rfl #[.int .i64 (wrap64 ((wrap64 ((wrap64 (t222 + t223)) - t224)) - t225))] rfl (by (try simp only [List.map_toArray, List.map_cons, List.map_nil]); first | done | rfl | (simp only [List.length_drop, List.length_take]; rfl)) ?_; (with_reducible refine (spec_size.calls (wrap64 ((wrap64 ((wrap64 (t222 + t223)) - t224)) - t225)) t226 _ A9.out).mono ?_); rintro e w12 ⟨rfl, hb⟩; refine ⟨_, rfl, ?_⟩; have n0_ := Aside0.mk (below_step (by repeat (first | (with_reducible first | exact HB.out | apply below_alloc | apply pw_below_drewN | apply below_drew1) | exact HB.out)) hb); clear HB; have HB := n0_; clear n0_; (try clear hb); (try clear hb2); (try clear hk); (try clear hi)) | ((with_reducible refine gate_callee (f := 34) rfl ?_); refine goesL_ (some 38) rfl rfl Try.func34 (by kernel_rfl) rfl #[.int .u32 a1, .int .i64 x9_1] rfl (by (try simp only [List.map_toArray, List.map_cons, List.map_nil]); first | done | rfl | (simp only [List.length_drop, List.length_take]; rfl)) ?_; (with_reducible refine (spec_part.calls a1 x9_1 t227 _ A10.out).mono ?_); rintro e w' ⟨rfl, ⟨nd, rfl⟩⟩; refine ⟨_, rfl, ?_⟩) | ((with_reducible refine gate_callee (f := 52) rfl ?_); refine goesL_ (some 40) rfl rfl Try.func52 (by kernel_rfl) rfl #[.int .i64 (wrap64 ((wrap64 ((wrap64 (t222 + t223)) - t224)) - t227))] rfl (by (try simp only [List.map_toArray, List.map_cons, List.map_nil]); first | done | rfl | (simp only [List.length_drop, List.length_take]; rfl)) ?_; (with_reducible refine (spec_size.calls (wrap64 ((wrap64 ((wrap64 (t222 + t223)) - t224)) - t227)) t228 _ A11.out).mono ?_); rintro e w13 ⟨rfl, hb⟩; refine ⟨_, rfl, ?_⟩; have n0_ := Aside0.mk (below_step (by repeat (first | (with_reducible first | exact HB.out | apply below_alloc | apply pw_below_drewN | apply below_drew1) | exact HB.out)) hb); clear HB; have HB := n0_; clear n0_; (try clear hb); (try clear hb2); (try clear hk); (try clear hi)))
        go_roundg k1
        case measure => have := HK1.out; omega
        case rel => exact ⟨(wrap64 (x7_1 + t226)), (wrap64 (x8_1 + t228)), (wrap64 (x9_1 + 1)), (by first | rfl | (simp; done) | (simp [*]; done)), (by first | rfl | (simp; done) | (simp [*]; done)), (by first | rfl | (simp; done) | (simp [*]; done)), H', ⟨by have := HK1.out; omega⟩, ⟨by repeat (first | (with_reducible first | exact HB.out | apply below_alloc | apply pw_below_drewN | apply below_drew1) | exact HB.out)⟩⟩
      · rw [if_neg c4] at H
        have c4b0 : decide (x9_1 < 4) = false := decide_eq_false c4
        clear c4
        by_cases c14 : x7_1 < x8_1
        · rw [if_pos c14] at H
          have c14b0 : decide (x7_1 < x8_1) = true := decide_eq_true c14
          clear c14
          obtain rfl := Option.some.inj H
          go_wp2
          go_ret
          exact ⟨by first | rfl | (simp [errW_none, errW_some] <;> rfl) | (simp [*, errW_none, errW_some] <;> rfl), by repeat (first | (with_reducible first | exact HB.out | apply below_alloc | apply pw_below_drewN | apply below_drew1) | exact HB.out)⟩
        · rw [if_neg c14] at H
          have c14b0 : decide (x7_1 < x8_1) = false := decide_eq_false c14
          clear c14
          obtain rfl := Option.some.inj H
          go_wp2
          go_ret
          exact ⟨by first | rfl | (simp [errW_none, errW_some] <;> rfl) | (simp [*, errW_none, errW_some] <;> rfl), by repeat (first | (with_reducible first | exact HB.out | apply below_alloc | apply pw_below_drewN | apply below_drew1) | exact HB.out)⟩

/-! ### spec_clamped: function 53 -/
def spec_clamped.f (a0 : Int) : Option (Int) := some (mn (mx a0 0) 255)
set_option maxHeartbeats 8000000 in
set_option maxRecDepth 100000 in
theorem spec_clamped.calls (a0 : Int) (r : Int) (w : World) (h : spec_clamped.f a0 = some r) :
    Calls Try.prog 53 #[.int .i64 a0] w fun e w' => e = .returned (.int .u32 r) ∧ Below w.heap.size w w' := by
  have HB := Aside0.mk (Below.refl w.heap.size w)
  have H : (some (mn (mx a0 0) 255)) = some r := h
  clear h
  obtain ⟨ji2, hji2⟩ : ∃ j_ : Int, (mx a0 0) = j_ := ⟨_, rfl⟩
  replace H : (some (mn (ji2) 255)) = some r := by first | (rw [hji2] at H; exact H) | (simp only [hji2] at H ⊢; exact H)
  (try (have hji2l : 0 ≤ ji2 := by (rw [← hji2]; unfold mx; (repeat' split) <;> omega)))
  (try (have hji2m : 0 ≤ ji2 := by omega))
  have hji2_ : (if a0 < 0 then 0 else a0) = ji2 := hji2
  obtain ⟨ji3, hji3⟩ : ∃ j_ : Int, (mn (ji2) 255) = j_ := ⟨_, rfl⟩
  replace H : (some ji3) = some r := by first | (rw [hji3] at H; exact H) | (simp only [hji3] at H ⊢; exact H)
  have hji3_ : (if 255 < (ji2) then 255 else (ji2)) = ji3 := hji3
  obtain rfl := Option.some.inj H
  go_enter Try.func53, Try.ntmps53
  go_wp2
  go_ret
  exact ⟨by first | rfl | (simp [errW_none, errW_some] <;> rfl) | (simp only [← hji2, ← hji3]; first | rfl | (simp [errW_none, errW_some] <;> rfl)) | (simp [*, errW_none, errW_some] <;> rfl), by repeat (first | (with_reducible first | exact HB.out | apply below_alloc | apply pw_below_drewN | apply below_drew1) | exact HB.out)⟩

/-! ### spec_full: function 48 -/
def spec_full.l0 : Nat → Int → Int → Int → Int → Int → Option (Int)
  | 0, _, _, _, _, _ => none
  | k + 1, x0, x1, x2, x7, x8 => if x8 < 4 then ((spec_part.f x0 x8).bind fun t229 => ((spec_part.f x1 x8).bind fun t230 => ((spec_part.f x2 x8).bind fun t231 => ((spec_clamped.f (wrap64 ((wrap64 (t229 + t230)) - t231))).bind fun t232 => (if 0 ≤ (wrap64 (8 * x8)) then (spec_full.l0 k x0 x1 x2 (Go.bits .or .u32 x7 (shl .u32 t232 (wrap64 (8 * x8)))) (wrap64 (x8 + 1))) else (none)))))) else (some x7)
def spec_full.f (k : Nat) (a0 : Int) (a1 : Int) (a2 : Int) : Option (Int) := spec_full.l0 k a0 a1 a2 0 0
theorem spec_full.mono_l : ∀ k, (∀ y0 y1 y2 y3 y4, LeO (spec_full.l0 k y0 y1 y2 y3 y4) (spec_full.l0 (k + 1) y0 y1 y2 y3 y4))
  | 0 => fun _ _ _ _ _ r h => by simp [spec_full.l0] at h
  | k + 1 => by
    have ih0 := spec_full.mono_l k
    · intro y0 y1 y2 y3 y4
      unfold spec_full.l0
      repeat' first
      | (with_reducible exact ih0 _ _ _ _ _)
      | (with_reducible exact LeO.refl _)
      | (with_reducible exact LeO.none _)
      | (with_reducible refine LeO.ite ?_ ?_)
      | (with_reducible refine LeO.bind ?_ (fun _ => ?_))
      | exact ih0 _ _ _ _ _
      | exact LeO.none _
      | refine LeO.ite ?_ ?_
      | refine LeO.bind ?_ (fun _ => ?_)
theorem spec_full.mono : ∀ a0 a1 a2 k, LeO (spec_full.f k a0 a1 a2) (spec_full.f (k + 1) a0 a1 a2) := by
  intro a0 a1 a2 k
  have ih0 := spec_full.mono_l k
  unfold spec_full.f
  repeat' first
      | (with_reducible exact ih0 _ _ _ _ _)
      | (with_reducible exact LeO.refl _)
      | (with_reducible exact LeO.none _)
      | (with_reducible refine LeO.ite ?_ ?_)
      | (with_reducible refine LeO.bind ?_ (fun _ => ?_))
      | exact ih0 _ _ _ _ _
      | exact LeO.none _
      | refine LeO.ite ?_ ?_
      | refine LeO.bind ?_ (fun _ => ?_)
set_option maxHeartbeats 8000000 in
set_option maxRecDepth 100000 in
theorem spec_full.calls (k : Nat) (a0 : Int) (a1 : Int) (a2 : Int) (r : Int) (w : World) (h : spec_full.f k a0 a1 a2 = some r) :
    Calls Try.prog 48 #[.int .u32 a0, .int .u32 a1, .int .u32 a2] w fun e w' => e = .returned (.int .u32 r) ∧ Below w.heap.size w w' := by
  have HB := Aside0.mk (Below.refl w.heap.size w)
  have H : (spec_full.l0 k a0 a1 a2 0 0) = some r := h
  clear h
  have H' := Aside0.mk H
  clear H
  go_enter Try.func48, Try.ntmps48
  go_wp2
  go_loopg [7, 8] k (fun kq v7 v8 w' => ∃ (x7_1 : Int) (x8_1 : Int), v7 = .int .u32 x7_1 ∧ v8 = .int .i64 x8_1 ∧ Aside0 (spec_full.l0 kq a0 a1 a2 x7_1 x8_1 = some r) ∧ Aside0 (kq ≤ k) ∧ Aside0 (Below w.heap.size w w'))
  case atStart => exact ⟨(0), (0), (by first | rfl | (simp; done) | (simp [*]; done)), (by first | rfl | (simp; done) | (simp [*]; done)), H', ⟨Nat.le_refl _⟩, ⟨by repeat (first | (with_reducible first | exact HB.out | apply below_alloc | apply pw_below_drewN | apply below_drew1) | exact HB.out)⟩⟩
  case round =>
    clear H'
    try clear p2
    obtain ⟨x7_1, x8_1, rfl, rfl, HA, HK1, HB⟩ := hrel
    cases gk with
    | zero => exact absurd HA.out (by simp [spec_full.l0])
    | succ k1 =>
      have H := HA.out
      clear HA
      simp only [spec_full.l0] at H
      by_cases c4 : x8_1 < 4
      · rw [if_pos c4] at H
        have c4b0 : decide (x8_1 < 4) = true := decide_eq_true c4
        clear c4
        replace H := Option.bind_eq_some_iff.mp H
        obtain ⟨t229, A50, H⟩ := H
        replace H : ((spec_part.f a1 x8_1).bind fun t230 => ((spec_part.f a2 x8_1).bind fun t231 => ((spec_clamped.f (wrap64 ((wrap64 (t229 + t230)) - t231))).bind fun t232 => (if 0 ≤ (wrap64 (8 * x8_1)) then (spec_full.l0 k1 a0 a1 a2 (Go.bits .or .u32 x7_1 (shl .u32 t232 (wrap64 (8 * x8_1)))) (wrap64 (x8_1 + 1))) else (none))))) = some r := H
        have A5 := Aside0.mk A50
        clear A50
        replace H := Option.bind_eq_some_iff.mp H
        obtain ⟨t230, A60, H⟩ := H
        replace H : ((spec_part.f a2 x8_1).bind fun t231 => ((spec_clamped.f (wrap64 ((wrap64 (t229 + t230)) - t231))).bind fun t232 => (if 0 ≤ (wrap64 (8 * x8_1)) then (spec_full.l0 k1 a0 a1 a2 (Go.bits .or .u32 x7_1 (shl .u32 t232 (wrap64 (8 * x8_1)))) (wrap64 (x8_1 + 1))) else (none)))) = some r := H
        have A6 := Aside0.mk A60
        clear A60
        replace H := Option.bind_eq_some_iff.mp H
        obtain ⟨t231, A70, H⟩ := H
        replace H : ((spec_clamped.f (wrap64 ((wrap64 (t229 + t230)) - t231))).bind fun t232 => (if 0 ≤ (wrap64 (8 * x8_1)) then (spec_full.l0 k1 a0 a1 a2 (Go.bits .or .u32 x7_1 (shl .u32 t232 (wrap64 (8 * x8_1)))) (wrap64 (x8_1 + 1))) else (none))) = some r := H
        have A7 := Aside0.mk A70
        clear A70
        replace H := Option.bind_eq_some_iff.mp H
        obtain ⟨t232, A80, H⟩ := H
        replace H : (if 0 ≤ (wrap64 (8 * x8_1)) then (spec_full.l0 k1 a0 a1 a2 (Go.bits .or .u32 x7_1 (shl .u32 t232 (wrap64 (8 * x8_1)))) (wrap64 (x8_1 + 1))) else (none)) = some r := H
        have A8 := Aside0.mk A80
        clear A80
        obtain ⟨ji9, hji9⟩ : ∃ j_ : Int, (wrap64 (8 * x8_1)) = j_ := ⟨_, rfl⟩
        replace H : (if 0 ≤ (ji9) then (spec_full.l0 k1 a0 a1 a2 (Go.bits .or .u32 x7_1 (shl .u32 t232 (ji9))) (wrap64 (x8_1 + 1))) else (none)) = some r := by first | (rw [hji9] at H; exact H) | (simp only [hji9] at H ⊢; exact H)
        (try rw [hji9] at A5)
        (try rw [hji9] at A6)
        (try rw [hji9] at A7)
        (try rw [hji9] at A8)
        have hji9w : (IntKind.i64.wrap (8 * x8_1)) = ji9 := (i64_w _).trans hji9
        by_cases c10 : 0 ≤ (ji9)
        · rw [if_pos c10] at H
          have c10b0 := eq_true c10
          have c10b1 : decide (0 ≤ (ji9)) = true := decide_eq_true c10
          clear c10
          obtain ⟨ji11, hji11⟩ : ∃ j_ : Int, (shl .u32 t232 (ji9)) = j_ := ⟨_, rfl⟩
          replace H : (spec_full.l0 k1 a0 a1 a2 (Go.bits .or .u32 x7_1 (ji11)) (wrap64 (x8_1 + 1))) = some r := by first | (rw [hji11] at H; exact H) | (simp only [hji11] at H ⊢; exact H)
          (try rw [hji11] at A5)
          (try rw [hji11] at A6)
          (try rw [hji11] at A7)
          (try rw [hji11] at A8)
          have hji11_ : (IntKind.u32.wrap (t232 * 2 ^ min (ji9).toNat 32)) = ji11 := hji11
          have hji11z : (ji9) ≤ 32 → (IntKind.u32.wrap (t232 * 2 ^ (ji9).toNat)) = ji11 := shl_small hji11
          have H' := Aside0.mk H
          clear H
          go_wp2_with (first | ((with_reducible refine gate_callee (f := 34) rfl ?_); refine goesL_ (some 16) rfl rfl Try.func34 (by kernel_rfl) rfl #[.int .u32 a0, .int .i64 x8_1] rfl (by (try simp only [List.map_toArray, List.map_cons, List.map_nil]); first | done | rfl | (simp only [List.length_drop, List.length_take]; rfl)) ?_; (with_reducible refine (spec_part.calls a0 x8_1 t229 _ A5.out).mono ?_); rintro e w' ⟨rfl, ⟨nd, rfl⟩⟩; refine ⟨_, rfl, ?_⟩) | ((with_reducible refine gate_callee (f := 34) rfl ?_); refine goesL_ (some 19) rfl rfl Try.func34 (by kernel_rfl) rfl #[.int .u32 a1, .int .i64 x8_1] rfl (by (try simp only [List.map_toArray, List.map_cons, List.map_nil]); first | done | rfl | (simp only [List.length_drop, List.length_take]; rfl)) ?_; (with_reducible refine (spec_part.calls a1 x8_1 t230 _ A6.out).mono ?_); rintro e w' ⟨rfl, ⟨nd, rfl⟩⟩; refine ⟨_, rfl, ?_⟩) | ((with_reducible refine gate_callee (f := 34) rfl ?_); refine goesL_ (some 23) rfl rfl Try.func34 (by kernel_rfl) rfl #[.int .u32 a2, .int .i64 x8_1] rfl (by (try simp only [List.map_toArray, List.map_cons, List.map_nil]); first | done | rfl | (simp only [List.length_drop, List.length_take]; rfl)) ?_; (with_reducible refine (spec_part.calls a2 x8_1 t231 _ A7.out).mono ?_); rintro e w' ⟨rfl, ⟨nd, rfl⟩⟩; refine ⟨_, rfl, ?_⟩) | ((with_reducible refine gate_callee (f := 53) rfl ?_); refine goesL_ (some 25) rfl rfl Try.func53 (by kernel_rfl) rfl #[.int .i64 (wrap64 ((wrap64 (t229 + t230)) - t231))] rfl (by (try simp only [List.map_toArray, List.map_cons, List.map_nil]); first | done | rfl | (simp only [List.length_drop, List.length_take]; rfl)) ?_; (with_reducible refine (spec_clamped.calls (wrap64 ((wrap64 (t229 + t230)) - t231)) t232 _ A8.out).mono ?_); rintro e w12 ⟨rfl, hb⟩; refine ⟨_, rfl, ?_⟩; have n0_ := Aside0.mk (below_step (by repeat (first | (with_reducible first | exact HB.out | apply below_alloc | apply pw_below_drewN | apply below_drew1) | exact HB.out)) hb); clear HB; have HB := n0_; clear n0_; (try clear hb); (try clear hb2); (try clear hk); (try clear hi)))
          go_roundg k1
          case measure => have := HK1.out; omega
          case rel => exact ⟨(Go.bits .or .u32 x7_1 (ji11)), (wrap64 (x8_1 + 1)), (by first | rfl | (simp; done) | (simp only [← hji11] <;> (first | rfl | simp)) | (simp [*]; done)), (by first | rfl | (simp; done) | (simp [*]; done)), H', ⟨by have := HK1.out; omega⟩, ⟨by repeat (first | (with_reducible first | exact HB.out | apply below_alloc | apply pw_below_drewN | apply below_drew1) | exact HB.out)⟩⟩
        · rw [if_neg c10] at H
          exact absurd H (by simp)
      · rw [if_neg c4] at H
        have c4b0 : decide (x8_1 < 4) = false := decide_eq_false c4
        clear c4
        obtain rfl := Option.some.inj H
        go_wp2
        go_ret
        exact ⟨by first | rfl | (simp [errW_none, errW_some] <;> rfl) | (simp [*, errW_none, errW_some] <;> rfl), by repeat (first | (with_reducible first | exact HB.out | apply below_alloc | apply pw_below_drewN | apply below_drew1) | exact HB.out)⟩

/-! ### spec_half: function 49 -/
def spec_half.l0 : Nat → Int → Int → Int → Int → Option (Int)
  | 0, _, _, _, _ => none
  | k + 1, x0, x1, x5, x6 => if x6 < 4 then ((spec_part.f x0 x6).bind fun t233 => ((spec_part.f x0 x6).bind fun t234 => ((spec_part.f x1 x6).bind fun t235 => ((spec_clamped.f (wrap64 (t233 + (wrap64 (Int.tdiv (wrap64 (t234 - t235)) 2))))).bind fun t236 => (if 0 ≤ (wrap64 (8 * x6)) then (spec_half.l0 k x0 x1 (Go.bits .or .u32 x5 (shl .u32 t236 (wrap64 (8 * x6)))) (wrap64 (x6 + 1))) else (none)))))) else (some x5)
def spec_half.f (k : Nat) (a0 : Int) (a1 : Int) : Option (Int) := spec_half.l0 k a0 a1 0 0
theorem spec_half.mono_l : ∀ k, (∀ y0 y1 y2 y3, LeO (spec_half.l0 k y0 y1 y2 y3) (spec_half.l0 (k + 1) y0 y1 y2 y3))
  | 0 => fun _ _ _ _ r h => by simp [spec_half.l0] at h
  | k + 1 => by
    have ih0 := spec_half.mono_l k
    · intro y0 y1 y2 y3
      unfold spec_half.l0
      repeat' first
      | (with_reducible exact ih0 _ _ _ _)
      | (with_reducible exact LeO.refl _)
      | (with_reducible exact LeO.none _)
      | (with_reducible refine LeO.ite ?_ ?_)
      | (with_reducible refine LeO.bind ?_ (fun _ => ?_))
      | exact ih0 _ _ _ _
      | exact LeO.none _
      | refine LeO.ite ?_ ?_
      | refine LeO.bind ?_ (fun _ => ?_)
theorem spec_half.mono : ∀ a0 a1 k, LeO (spec_half.f k a0 a1) (spec_half.f (k + 1) a0 a1) := by
  intro a0 a1 k
  have ih0 := spec_half.mono_l k
  unfold spec_half.f
  repeat' first
      | (with_reducible exact ih0 _ _ _ _)
      | (with_reducible exact LeO.refl _)
      | (with_reducible exact LeO.none _)
      | (with_reducible refine LeO.ite ?_ ?_)
      | (with_reducible refine LeO.bind ?_ (fun _ => ?_))
      | exact ih0 _ _ _ _
      | exact LeO.none _
      | refine LeO.ite ?_ ?_
      | refine LeO.bind ?_ (fun _ => ?_)
set_option maxHeartbeats 8000000 in
set_option maxRecDepth 100000 in
theorem spec_half.calls (k : Nat) (a0 : Int) (a1 : Int) (r : Int) (w : World) (h : spec_half.f k a0 a1 = some r) :
    Calls Try.prog 49 #[.int .u32 a0, .int .u32 a1] w fun e w' => e = .returned (.int .u32 r) ∧ Below w.heap.size w w' := by
  have HB := Aside0.mk (Below.refl w.heap.size w)
  have H : (spec_half.l0 k a0 a1 0 0) = some r := h
  clear h
  have H' := Aside0.mk H
  clear H
  go_enter Try.func49, Try.ntmps49
  go_wp2
  go_loopg [5, 6] k (fun kq v5 v6 w' => ∃ (x5_1 : Int) (x6_1 : Int), v5 = .int .u32 x5_1 ∧ v6 = .int .i64 x6_1 ∧ Aside0 (spec_half.l0 kq a0 a1 x5_1 x6_1 = some r) ∧ Aside0 (kq ≤ k) ∧ Aside0 (Below w.heap.size w w'))
  case atStart => exact ⟨(0), (0), (by first | rfl | (simp; done) | (simp [*]; done)), (by first | rfl | (simp; done) | (simp [*]; done)), H', ⟨Nat.le_refl _⟩, ⟨by repeat (first | (with_reducible first | exact HB.out | apply below_alloc | apply pw_below_drewN | apply below_drew1) | exact HB.out)⟩⟩
  case round =>
    clear H'
    try clear p2
    obtain ⟨x5_1, x6_1, rfl, rfl, HA, HK1, HB⟩ := hrel
    cases gk with
    | zero => exact absurd HA.out (by simp [spec_half.l0])
    | succ k1 =>
      have H := HA.out
      clear HA
      simp only [spec_half.l0] at H
      by_cases c3 : x6_1 < 4
      · rw [if_pos c3] at H
        have c3b0 : decide (x6_1 < 4) = true := decide_eq_true c3
        clear c3
        replace H := Option.bind_eq_some_iff.mp H
        obtain ⟨t233, A40, H⟩ := H
        replace H : ((spec_part.f a0 x6_1).bind fun t234 => ((spec_part.f a1 x6_1).bind fun t235 => ((spec_clamped.f (wrap64 (t233 + (wrap64 (Int.tdiv (wrap64 (t234 - t235)) 2))))).bind fun t236 => (if 0 ≤ (wrap64 (8 * x6_1)) then (spec_half.l0 k1 a0 a1 (Go.bits .or .u32 x5_1 (shl .u32 t236 (wrap64 (8 * x6_1)))) (wrap64 (x6_1 + 1))) else (none))))) = some r := H
        have A4 := Aside0.mk A40
        clear A40
        replace H := Option.bind_eq_some_iff.mp H
        obtain ⟨t234, A50, H⟩ := H
        replace H : ((spec_part.f a1 x6_1).bind fun t235 => ((spec_clamped.f (wrap64 (t233 + (wrap64 (Int.tdiv (wrap64 (t234 - t235)) 2))))).bind fun t236 => (if 0 ≤ (wrap64 (8 * x6_1)) then (spec_half.l0 k1 a0 a1 (Go.bits .or .u32 x5_1 (shl .u32 t236 (wrap64 (8 * x6_1)))) (wrap64 (x6_1 + 1))) else (none)))) = some r := H
        have A5 := Aside0.mk A50
        clear A50
        replace H := Option.bind_eq_some_iff.mp H
        obtain ⟨t235, A60, H⟩ := H
        replace H : ((spec_clamped.f (wrap64 (t233 + (wrap64 (Int.tdiv (wrap64 (t234 - t235)) 2))))).bind fun t236 => (if 0 ≤ (wrap64 (8 * x6_1)) then (spec_half.l0 k1 a0 a1 (Go.bits .or .u32 x5_1 (shl .u32 t236 (wrap64 (8 * x6_1)))) (wrap64 (x6_1 + 1))) else (none))) = some r := H
        have A6 := Aside0.mk A60
        clear A60
        replace H := Option.bind_eq_some_iff.mp H
        obtain ⟨t236, A70, H⟩ := H
        replace H : (if 0 ≤ (wrap64 (8 * x6_1)) then (spec_half.l0 k1 a0 a1 (Go.bits .or .u32 x5_1 (shl .u32 t236 (wrap64 (8 * x6_1)))) (wrap64 (x6_1 + 1))) else (none)) = some r := H
        have A7 := Aside0.mk A70
        clear A70
        obtain ⟨ji8, hji8⟩ : ∃ j_ : Int, (wrap64 (8 * x6_1)) = j_ := ⟨_, rfl⟩
        replace H : (if 0 ≤ (ji8) then (spec_half.l0 k1 a0 a1 (Go.bits .or .u32 x5_1 (shl .u32 t236 (ji8))) (wrap64 (x6_1 + 1))) else (none)) = some r := by first | (rw [hji8] at H; exact H) | (simp only [hji8] at H ⊢; exact H)
        (try rw [hji8] at A4)
        (try rw [hji8] at A5)
        (try rw [hji8] at A6)
        (try rw [hji8] at A7)
        have hji8w : (IntKind.i64.wrap (8 * x6_1)) = ji8 := (i64_w _).trans hji8
        by_cases c9 : 0 ≤ (ji8)
        · rw [if_pos c9] at H
          have c9b0 := eq_true c9
          have c9b1 : decide (0 ≤ (ji8)) = true := decide_eq_true c9
          clear c9
          obtain ⟨ji10, hji10⟩ : ∃ j_ : Int, (shl .u32 t236 (ji8)) = j_ := ⟨_, rfl⟩
          replace H : (spec_half.l0 k1 a0 a1 (Go.bits .or .u32 x5_1 (ji10)) (wrap64 (x6_1 + 1))) = some r := by first | (rw [hji10] at H; exact H) | (simp only [hji10] at H ⊢; exact H)
          (try rw [hji10] at A4)
          (try rw [hji10] at A5)
          (try rw [hji10] at A6)
          (try rw [hji10] at A7)
          have hji10_ : (IntKind.u32.wrap (t236 * 2 ^ min (ji8).toNat 32)) = ji10 := hji10
          have hji10z : (ji8) ≤ 32 → (IntKind.u32.wrap (t236 * 2 ^ (ji8).toNat)) = ji10 := shl_small hji10
          have H' := Aside0.mk H
          clear H
          go_wp2_with (first | ((with_reducible refine gate_callee (f := 34) rfl ?_); refine goesL_ (some 14) rfl rfl Try.func34 (by kernel_rfl) rfl #[.int .u32 a0, .int .i64 x6_1] rfl (by (try simp only [List.map_toArray, List.map_cons, List.map_nil]); first | done | rfl | (simp only [List.length_drop, List.length_take]; rfl)) ?_; (with_reducible refine (spec_part.calls a0 x6_1 t233 _ A4.out).mono ?_); rintro e w' ⟨rfl, ⟨nd, rfl⟩⟩; refine ⟨_, rfl, ?_⟩) | ((with_reducible refine gate_callee (f := 34) rfl ?_); refine goesL_ (some 17) rfl rfl Try.func34 (by kernel_rfl) rfl #[.int .u32 a0, .int .i64 x6_1] rfl (by (try simp only [List.map_toArray, List.map_cons, List.map_nil]); first | done | rfl | (simp only [List.length_drop, List.length_take]; rfl)) ?_; (with_reducible refine (spec_part.calls a0 x6_1 t234 _ A5.out).mono ?_); rintro e w' ⟨rfl, ⟨nd, rfl⟩⟩; refine ⟨_, rfl, ?_⟩) | ((with_reducible refine gate_callee (f := 34) rfl ?_); refine goesL_ (some 20) rfl rfl Try.func34 (by kernel_rfl) rfl #[.int .u32 a1, .int .i64 x6_1] rfl (by (try simp only [List.map_toArray, List.map_cons, List.map_nil]); first | done | rfl | (simp only [List.length_drop, List.length_take]; rfl)) ?_; (with_reducible refine (spec_part.calls a1 x6_1 t235 _ A6.out).mono ?_); rintro e w' ⟨rfl, ⟨nd, rfl⟩⟩; refine ⟨_, rfl, ?_⟩) | ((with_reducible refine gate_callee (f := 53) rfl ?_); refine goesL_ (some 24) rfl rfl Try.func53 (by kernel_rfl) rfl #[.int .i64 (wrap64 (t233 + (wrap64 (Int.tdiv (wrap64 (t234 - t235)) 2))))] rfl (by (try simp only [List.map_toArray, List.map_cons, List.map_nil]); first | done | rfl | (simp only [List.length_drop, List.length_take]; rfl)) ?_; (with_reducible refine (spec_clamped.calls (wrap64 (t233 + (wrap64 (Int.tdiv (wrap64 (t234 - t235)) 2)))) t236 _ A7.out).mono ?_); rintro e w11 ⟨rfl, hb⟩; refine ⟨_, rfl, ?_⟩; have n0_ := Aside0.mk (below_step (by repeat (first | (with_reducible first | exact HB.out | apply below_alloc | apply pw_below_drewN | apply below_drew1) | exact HB.out)) hb); clear HB; have HB := n0_; clear n0_; (try clear hb); (try clear hb2); (try clear hk); (try clear hi)))
          go_roundg k1
          case measure => have := HK1.out; omega
          case rel => exact ⟨(Go.bits .or .u32 x5_1 (ji10)), (wrap64 (x6_1 + 1)), (by first | rfl | (simp; done) | (simp only [← hji10] <;> (first | rfl | simp)) | (simp [*]; done)), (by first | rfl | (simp; done) | (simp [*]; done)), H', ⟨by have := HK1.out; omega⟩, ⟨by repeat (first | (with_reducible first | exact HB.out | apply below_alloc | apply pw_below_drewN | apply below_drew1) | exact HB.out)⟩⟩
        · rw [if_neg c9] at H
          exact absurd H (by simp)
      · rw [if_neg c3] at H
        have c3b0 : decide (x6_1 < 4) = false := decide_eq_false c3
        clear c3
        obtain rfl := Option.some.inj H
        go_wp2
        go_ret
        exact ⟨by first | rfl | (simp [errW_none, errW_some] <;> rfl) | (simp [*, errW_none, errW_some] <;> rfl), by repeat (first | (with_reducible first | exact HB.out | apply below_alloc | apply pw_below_drewN | apply below_drew1) | exact HB.out)⟩

/-! ### spec_foretold: function 35 -/
def spec_foretold.f (k : Nat) (a0 : Int) (a1 : Int) (a2 : Int) (a3 : Int) (a4 : Int) : Option (Int) := if a0 = 1 then (some a1) else (if a0 = 2 then (some a2) else (if a0 = 3 then (some a3) else (if a0 = 4 then (some a4) else (if a0 = 5 then ((spec_mean.f k a1 a3).bind fun t237 => ((spec_mean.f k t237 a2).bind fun t238 => (some t238))) else (if a0 = 6 then ((spec_mean.f k a1 a4).bind fun t239 => (some t239)) else (if a0 = 7 then ((spec_mean.f k a1 a2).bind fun t240 => (some t240)) else (if a0 = 8 then ((spec_mean.f k a4 a2).bind fun t241 => (some t241)) else (if a0 = 9 then ((spec_mean.f k a2 a3).bind fun t242 => (some t242)) else (if a0 = 10 then ((spec_mean.f k a1 a4).bind fun t243 => ((spec_mean.f k a2 a3).bind fun t244 => ((spec_mean.f k t243 t244).bind fun t245 => (some t245)))) else (if a0 = 11 then ((spec_chosen.f k a1 a2 a4).bind fun t246 => (some t246)) else (if a0 = 12 then ((spec_full.f k a1 a2 a4).bind fun t247 => (some t247)) else (if a0 = 13 then ((spec_mean.f k a1 a2).bind fun t248 => ((spec_half.f k t248 a4).bind fun t249 => (some t249))) else (some 4278190080)))))))))))))
theorem spec_foretold.mono : ∀ a0 a1 a2 a3 a4 k, LeO (spec_foretold.f k a0 a1 a2 a3 a4) (spec_foretold.f (k + 1) a0 a1 a2 a3 a4) := by
  intro a0 a1 a2 a3 a4 k
  unfold spec_foretold.f
  repeat' first
      | (with_reducible exact spec_chosen.mono _ _ _ _)
      | (with_reducible exact spec_full.mono _ _ _ _)
      | (with_reducible exact spec_half.mono _ _ _)
      | (with_reducible exact spec_mean.mono _ _ _)
      | (with_reducible exact LeO.refl _)
      | (with_reducible exact LeO.none _)
      | (with_reducible refine LeO.ite ?_ ?_)
      | (with_reducible refine LeO.bind ?_ (fun _ => ?_))
      | exact spec_chosen.mono _ _ _ _
      | exact spec_full.mono _ _ _ _
      | exact spec_half.mono _ _ _
      | exact spec_mean.mono _ _ _
      | exact LeO.none _
      | refine LeO.ite ?_ ?_
      | refine LeO.bind ?_ (fun _ => ?_)
set_option maxHeartbeats 8000000 in
set_option maxRecDepth 100000 in
theorem spec_foretold.calls (k : Nat) (a0 : Int) (a1 : Int) (a2 : Int) (a3 : Int) (a4 : Int) (r : Int) (w : World) (h : spec_foretold.f k a0 a1 a2 a3 a4 = some r) :
    Calls Try.prog 35 #[.int .i64 a0, .int .u32 a1, .int .u32 a2, .int .u32 a3, .int .u32 a4] w fun e w' => e = .returned (.int .u32 r) ∧ Below w.heap.size w w' := by
  have HB := Aside0.mk (Below.refl w.heap.size w)
  have H : (if a0 = 1 then (some a1) else (if a0 = 2 then (some a2) else (if a0 = 3 then (some a3) else (if a0 = 4 then (some a4) else (if a0 = 5 then ((spec_mean.f k a1 a3).bind fun t237 => ((spec_mean.f k t237 a2).bind fun t238 => (some t238))) else (if a0 = 6 then ((spec_mean.f k a1 a4).bind fun t239 => (some t239)) else (if a0 = 7 then ((spec_mean.f k a1 a2).bind fun t240 => (some t240)) else (if a0 = 8 then ((spec_mean.f k a4 a2).bind fun t241 => (some t241)) else (if a0 = 9 then ((spec_mean.f k a2 a3).bind fun t242 => (some t242)) else (if a0 = 10 then ((spec_mean.f k a1 a4).bind fun t243 => ((spec_mean.f k a2 a3).bind fun t244 => ((spec_mean.f k t243 t244).bind fun t245 => (some t245)))) else (if a0 = 11 then ((spec_chosen.f k a1 a2 a4).bind fun t246 => (some t246)) else (if a0 = 12 then ((spec_full.f k a1 a2 a4).bind fun t247 => (some t247)) else (if a0 = 13 then ((spec_mean.f k a1 a2).bind fun t248 => ((spec_half.f k t248 a4).bind fun t249 => (some t249))) else (some 4278190080)))))))))))))) = some r := h
  clear h
  by_cases c6 : a0 = 1
  · rw [if_pos c6] at H
    have c6b0 : (a0 == 1) = true := beq_iff_eq.mpr c6
    have c6b1 : (a0 != 1) = false := bne_eq_false_iff_eq.mpr c6
    clear c6
    obtain rfl := Option.some.inj H
    go_enter Try.func35, Try.ntmps35
    go_wp2
    go_ret
    exact ⟨by first | rfl | (simp [errW_none, errW_some] <;> rfl) | (simp [*, errW_none, errW_some] <;> rfl), by repeat (first | (with_reducible first | exact HB.out | apply below_alloc | apply pw_below_drewN | apply below_drew1) | exact HB.out)⟩
  · rw [if_neg c6] at H
    have c6b0 : (a0 == 1) = false := beq_eq_false_iff_ne.mpr c6
    have c6b1 : (a0 != 1) = true := bne_iff_ne.mpr c6
    by_cases c7 : a0 = 2
    · rw [if_pos c7] at H
      have c7b0 : (a0 == 2) = true := beq_iff_eq.mpr c7
      have c7b1 : (a0 != 2) = false := bne_eq_false_iff_eq.mpr c7
      clear c7
      obtain rfl := Option.some.inj H
      go_enter Try.func35, Try.ntmps35
      go_wp2
      go_ret
      exact ⟨by first | rfl | (simp [errW_none, errW_some] <;> rfl) | (simp [*, errW_none, errW_some] <;> rfl), by repeat (first | (with_reducible first | exact HB.out | apply below_alloc | apply pw_below_drewN | apply below_drew1) | exact HB.out)⟩
    · rw [if_neg c7] at H
      have c7b0 : (a0 == 2) = false := beq_eq_false_iff_ne.mpr c7
      have c7b1 : (a0 != 2) = true := bne_iff_ne.mpr c7
      by_cases c8 : a0 = 3
      · rw [if_pos c8] at H
        have c8b0 : (a0 == 3) = true := beq_iff_eq.mpr c8
        have c8b1 : (a0 != 3) = false := bne_eq_false_iff_eq.mpr c8
        clear c8
        obtain rfl := Option.some.inj H
        go_enter Try.func35, Try.ntmps35
        go_wp2
        go_ret
        exact ⟨by first | rfl | (simp [errW_none, errW_some] <;> rfl) | (simp [*, errW_none, errW_some] <;> rfl), by repeat (first | (with_reducible first | exact HB.out | apply below_alloc | apply pw_below_drewN | apply below_drew1) | exact HB.out)⟩
      · rw [if_neg c8] at H
        have c8b0 : (a0 == 3) = false := beq_eq_false_iff_ne.mpr c8
        have c8b1 : (a0 != 3) = true := bne_iff_ne.mpr c8
        by_cases c9 : a0 = 4
        · rw [if_pos c9] at H
          have c9b0 : (a0 == 4) = true := beq_iff_eq.mpr c9
          have c9b1 : (a0 != 4) = false := bne_eq_false_iff_eq.mpr c9
          clear c9
          obtain rfl := Option.some.inj H
          go_enter Try.func35, Try.ntmps35
          go_wp2
          go_ret
          exact ⟨by first | rfl | (simp [errW_none, errW_some] <;> rfl) | (simp [*, errW_none, errW_some] <;> rfl), by repeat (first | (with_reducible first | exact HB.out | apply below_alloc | apply pw_below_drewN | apply below_drew1) | exact HB.out)⟩
        · rw [if_neg c9] at H
          have c9b0 : (a0 == 4) = false := beq_eq_false_iff_ne.mpr c9
          have c9b1 : (a0 != 4) = true := bne_iff_ne.mpr c9
          by_cases c10 : a0 = 5
          · rw [if_pos c10] at H
            have c10b0 : (a0 == 5) = true := beq_iff_eq.mpr c10
            have c10b1 : (a0 != 5) = false := bne_eq_false_iff_eq.mpr c10
            clear c10
            replace H := Option.bind_eq_some_iff.mp H
            obtain ⟨t237, A110, H⟩ := H
            replace H : ((spec_mean.f k t237 a2).bind fun t238 => (some t238)) = some r := H
            have A11 := Aside0.mk A110
            clear A110
            replace H := Option.bind_eq_some_iff.mp H
            obtain ⟨t238, A120, H⟩ := H
            replace H : (some t238) = some r := H
            have A12 := Aside0.mk A120
            clear A120
            obtain rfl := Option.some.inj H
            go_enter Try.func35, Try.ntmps35
            go_wp2_with (first | ((with_reducible refine gate_callee (f := 46) rfl ?_); refine goesL_ (some 28) rfl rfl Try.func46 (by kernel_rfl) rfl #[.int .u32 a1, .int .u32 a3] rfl (by (try simp only [List.map_toArray, List.map_cons, List.map_nil]); first | done | rfl | (simp only [List.length_drop, List.length_take]; rfl)) ?_; (with_reducible refine (spec_mean.calls k a1 a3 t237 _ A11.out).mono ?_); rintro e w' ⟨rfl, ⟨nd, rfl⟩⟩; refine ⟨_, rfl, ?_⟩) | ((with_reducible refine gate_callee (f := 46) rfl ?_); refine goesL_ (some 30) rfl rfl Try.func46 (by kernel_rfl) rfl #[.int .u32 t237, .int .u32 a2] rfl (by (try simp only [List.map_toArray, List.map_cons, List.map_nil]); first | done | rfl | (simp only [List.length_drop, List.length_take]; rfl)) ?_; (with_reducible refine (spec_mean.calls k t237 a2 t238 _ A12.out).mono ?_); rintro e w' ⟨rfl, ⟨nd, rfl⟩⟩; refine ⟨_, rfl, ?_⟩))
            go_ret
            exact ⟨by first | rfl | (simp [errW_none, errW_some] <;> rfl) | (simp [*, errW_none, errW_some] <;> rfl), by repeat (first | (with_reducible first | exact HB.out | apply below_alloc | apply pw_below_drewN | apply below_drew1) | exact HB.out)⟩
          · rw [if_neg c10] at H
            have c10b0 : (a0 == 5) = false := beq_eq_false_iff_ne.mpr c10
            have c10b1 : (a0 != 5) = true := bne_iff_ne.mpr c10
            by_cases c13 : a0 = 6
            · rw [if_pos c13] at H
              have c13b0 : (a0 == 6) = true := beq_iff_eq.mpr c13
              have c13b1 : (a0 != 6) = false := bne_eq_false_iff_eq.mpr c13
              clear c13
              replace H := Option.bind_eq_some_iff.mp H
              obtain ⟨t239, A140, H⟩ := H
              replace H : (some t239) = some r := H
              have A14 := Aside0.mk A140
              clear A140
              obtain rfl := Option.some.inj H
              go_enter Try.func35, Try.ntmps35
              go_wp2_with (first | ((with_reducible refine gate_callee (f := 46) rfl ?_); refine goesL_ (some 35) rfl rfl Try.func46 (by kernel_rfl) rfl #[.int .u32 a1, .int .u32 a4] rfl (by (try simp only [List.map_toArray, List.map_cons, List.map_nil]); first | done | rfl | (simp only [List.length_drop, List.length_take]; rfl)) ?_; (with_reducible refine (spec_mean.calls k a1 a4 t239 _ A14.out).mono ?_); rintro e w' ⟨rfl, ⟨nd, rfl⟩⟩; refine ⟨_, rfl, ?_⟩))
              go_ret
              exact ⟨by first | rfl | (simp [errW_none, errW_some] <;> rfl) | (simp [*, errW_none, errW_some] <;> rfl), by repeat (first | (with_reducible first | exact HB.out | apply below_alloc | apply pw_below_drewN | apply below_drew1) | exact HB.out)⟩
            · rw [if_neg c13] at H
              have c13b0 : (a0 == 6) = false := beq_eq_false_iff_ne.mpr c13
              have c13b1 : (a0 != 6) = true := bne_iff_ne.mpr c13
              by_cases c15 : a0 = 7
              · rw [if_pos c15] at H
                have c15b0 : (a0 == 7) = true := beq_iff_eq.mpr c15
                have c15b1 : (a0 != 7) = false := bne_eq_false_iff_eq.mpr c15
                clear c15
                replace H := Option.bind_eq_some_iff.mp H
                obtain ⟨t240, A160, H⟩ := H
                replace H : (some t240) = some r := H
                have A16 := Aside0.mk A160
                clear A160
                obtain rfl := Option.some.inj H
                go_enter Try.func35, Try.ntmps35
                go_wp2_with (first | ((with_reducible refine gate_callee (f := 46) rfl ?_); refine goesL_ (some 40) rfl rfl Try.func46 (by kernel_rfl) rfl #[.int .u32 a1, .int .u32 a2] rfl (by (try simp only [List.map_toArray, List.map_cons, List.map_nil]); first | done | rfl | (simp only [List.length_drop, List.length_take]; rfl)) ?_; (with_reducible refine (spec_mean.calls k a1 a2 t240 _ A16.out).mono ?_); rintro e w' ⟨rfl, ⟨nd, rfl⟩⟩; refine ⟨_, rfl, ?_⟩))
                go_ret
                exact ⟨by first | rfl | (simp [errW_none, errW_some] <;> rfl) | (simp [*, errW_none, errW_some] <;> rfl), by repeat (first | (with_reducible first | exact HB.out | apply below_alloc | apply pw_below_drewN | apply below_drew1) | exact HB.out)⟩
              · rw [if_neg c15] at H
                have c15b0 : (a0 == 7) = false := beq_eq_false_iff_ne.mpr c15
                have c15b1 : (a0 != 7) = true := bne_iff_ne.mpr c15
                by_cases c17 : a0 = 8
                · rw [if_pos c17] at H
                  have c17b0 : (a0 == 8) = true := beq_iff_eq.mpr c17
                  have c17b1 : (a0 != 8) = false := bne_eq_false_iff_eq.mpr c17
                  clear c17
                  replace H := Option.bind_eq_some_iff.mp H
                  obtain ⟨t241, A180, H⟩ := H
                  replace H : (some t241) = some r := H
                  have A18 := Aside0.mk A180
                  clear A180
                  obtain rfl := Option.some.inj H
                  go_enter Try.func35, Try.ntmps35
                  go_wp2_with (first | ((with_reducible refine gate_callee (f := 46) rfl ?_); refine goesL_ (some 45) rfl rfl Try.func46 (by kernel_rfl) rfl #[.int .u32 a4, .int .u32 a2] rfl (by (try simp only [List.map_toArray, List.map_cons, List.map_nil]); first | done | rfl | (simp only [List.length_drop, List.length_take]; rfl)) ?_; (with_reducible refine (spec_mean.calls k a4 a2 t241 _ A18.out).mono ?_); rintro e w' ⟨rfl, ⟨nd, rfl⟩⟩; refine ⟨_, rfl, ?_⟩))
                  go_ret
                  exact ⟨by first | rfl | (simp [errW_none, errW_some] <;> rfl) | (simp [*, errW_none, errW_some] <;> rfl), by repeat (first | (with_reducible first | exact HB.out | apply below_alloc | apply pw_below_drewN | apply below_drew1) | exact HB.out)⟩
                · rw [if_neg c17] at H
                  have c17b0 : (a0 == 8) = false := beq_eq_false_iff_ne.mpr c17
                  have c17b1 : (a0 != 8) = true := bne_iff_ne.mpr c17
                  by_cases c19 : a0 = 9
                  · rw [if_pos c19] at H
                    have c19b0 : (a0 == 9) = true := beq_iff_eq.mpr c19
                    have c19b1 : (a0 != 9) = false := bne_eq_false_iff_eq.mpr c19
                    clear c19
                    replace H := Option.bind_eq_some_iff.mp H
                    obtain ⟨t242, A200, H⟩ := H
                    replace H : (some t242) = some r := H
                    have A20 := Aside0.mk A200
                    clear A200
                    obtain rfl := Option.some.inj H
                    go_enter Try.func35, Try.ntmps35
                    go_wp2_with (first | ((with_reducible refine gate_callee (f := 46) rfl ?_); refine goesL_ (some 50) rfl rfl Try.func46 (by kernel_rfl) rfl #[.int .u32 a2, .int .u32 a3] rfl (by (try simp only [List.map_toArray, List.map_cons, List.map_nil]); first | done | rfl | (simp only [List.length_drop, List.length_take]; rfl)) ?_; (with_reducible refine (spec_mean.calls k a2 a3 t242 _ A20.out).mono ?_); rintro e w' ⟨rfl, ⟨nd, rfl⟩⟩; refine ⟨_, rfl, ?_⟩))
                    go_ret
                    exact ⟨by first | rfl | (simp [errW_none, errW_some] <;> rfl) | (simp [*, errW_none, errW_some] <;> rfl), by repeat (first | (with_reducible first | exact HB.out | apply below_alloc | apply pw_below_drewN | apply below_drew1) | exact HB.out)⟩
                  · rw [if_neg c19] at H
                    have c19b0 : (a0 == 9) = false := beq_eq_false_iff_ne.mpr c19
                    have c19b1 : (a0 != 9) = true := bne_iff_ne.mpr c19
                    by_cases c21 : a0 = 10
                    · rw [if_pos c21] at H
                      have c21b0 : (a0 == 10) = true := beq_iff_eq.mpr c21
                      have c21b1 : (a0 != 10) = false := bne_eq_false_iff_eq.mpr c21
                      clear c21
                      replace H := Option.bind_eq_some_iff.mp H
                      obtain ⟨t243, A220, H⟩ := H
                      replace H : ((spec_mean.f k a2 a3).bind fun t244 => ((spec_mean.f k t243 t244).bind fun t245 => (some t245))) = some r := H
                      have A22 := Aside0.mk A220
                      clear A220
                      replace H := Option.bind_eq_some_iff.mp H
                      obtain ⟨t244, A230, H⟩ := H
                      replace H : ((spec_mean.f k t243 t244).bind fun t245 => (some t245)) = some r := H
                      have A23 := Aside0.mk A230
                      clear A230
                      replace H := Option.bind_eq_some_iff.mp H
                      obtain ⟨t245, A240, H⟩ := H
                      replace H : (some t245) = some r := H
                      have A24 := Aside0.mk A240
                      clear A240
                      obtain rfl := Option.some.inj H
                      go_enter Try.func35, Try.ntmps35
                      go_wp2_with (first | ((with_reducible refine gate_callee (f := 46) rfl ?_); refine goesL_ (some 55) rfl rfl Try.func46 (by kernel_rfl) rfl #[.int .u32 a1, .int .u32 a4] rfl (by (try simp only [List.map_toArray, List.map_cons, List.map_nil]); first | done | rfl | (simp only [List.length_drop, List.length_take]; rfl)) ?_; (with_reducible refine (spec_mean.calls k a1 a4 t243 _ A22.out).mono ?_); rintro e w' ⟨rfl, ⟨nd, rfl⟩⟩; refine ⟨_, rfl, ?_⟩) | ((with_reducible refine gate_callee (f := 46) rfl ?_); refine goesL_ (some 58) rfl rfl Try.func46 (by kernel_rfl) rfl #[.int .u32 a2, .int .u32 a3] rfl (by (try simp only [List.map_toArray, List.map_cons, List.map_nil]); first | done | rfl | (simp only [List.length_drop, List.length_take]; rfl)) ?_; (with_reducible refine (spec_mean.calls k a2 a3 t244 _ A23.out).mono ?_); rintro e w' ⟨rfl, ⟨nd, rfl⟩⟩; refine ⟨_, rfl, ?_⟩) | ((with_reducible refine gate_callee (f := 46) rfl ?_); refine goesL_ (some 59) rfl rfl Try.func46 (by kernel_rfl) rfl #[.int .u32 t243, .int .u32 t244] rfl (by (try simp only [List.map_toArray, List.map_cons, List.map_nil]); first | done | rfl | (simp only [List.length_drop, List.length_take]; rfl)) ?_; (with_reducible refine (spec_mean.calls k t243 t244 t245 _ A24.out).mono ?_); rintro e w' ⟨rfl, ⟨nd, rfl⟩⟩; refine ⟨_, rfl, ?_⟩))
                      go_ret
                      exact ⟨by first | rfl | (simp [errW_none, errW_some] <;> rfl) | (simp [*, errW_none, errW_some] <;> rfl), by repeat (first | (with_reducible first | exact HB.out | apply below_alloc | apply pw_below_drewN | apply below_drew1) | exact HB.out)⟩
                    · rw [if_neg c21] at H
                      have c21b0 : (a0 == 10) = false := beq_eq_false_iff_ne.mpr c21
                      have c21b1 : (a0 != 10) = true := bne_iff_ne.mpr c21
                      by_cases c25 : a0 = 11
                      · rw [if_pos c25] at H
                        have c25b0 : (a0 == 11) = true := beq_iff_eq.mpr c25
                        have c25b1 : (a0 != 11) = false := bne_eq_false_iff_eq.mpr c25
                        clear c25
                        replace H := Option.bind_eq_some_iff.mp H
                        obtain ⟨t246, A260, H⟩ := H
                        replace H : (some t246) = some r := H
                        have A26 := Aside0.mk A260
                        clear A260
                        obtain rfl := Option.some.inj H
                        go_enter Try.func35, Try.ntmps35
                        go_wp2_with (first | ((with_reducible refine gate_callee (f := 47) rfl ?_); refine goesL_ (some 65) rfl rfl Try.func47 (by kernel_rfl) rfl #[.int .u32 a1, .int .u32 a2, .int .u32 a4] rfl (by (try simp only [List.map_toArray, List.map_cons, List.map_nil]); first | done | rfl | (simp only [List.length_drop, List.length_take]; rfl)) ?_; (with_reducible refine (spec_chosen.calls k a1 a2 a4 t246 _ A26.out).mono ?_); rintro e w27 ⟨rfl, hb⟩; refine ⟨_, rfl, ?_⟩; have n0_ := Aside0.mk (below_step (by repeat (first | (with_reducible first | exact HB.out | apply below_alloc | apply pw_below_drewN | apply below_drew1) | exact HB.out)) hb); clear HB; have HB := n0_; clear n0_; (try clear hb); (try clear hb2); (try clear hk); (try clear hi)))
                        go_ret
                        exact ⟨by first | rfl | (simp [errW_none, errW_some] <;> rfl) | (simp [*, errW_none, errW_some] <;> rfl), by repeat (first | (with_reducible first | exact HB.out | apply below_alloc | apply pw_below_drewN | apply below_drew1) | exact HB.out)⟩
                      · rw [if_neg c25] at H
                        have c25b0 : (a0 == 11) = false := beq_eq_false_iff_ne.mpr c25
                        have c25b1 : (a0 != 11) = true := bne_iff_ne.mpr c25
                        by_cases c28 : a0 = 12
                        · rw [if_pos c28] at H
                          have c28b0 : (a0 == 12) = true := beq_iff_eq.mpr c28
                          have c28b1 : (a0 != 12) = false := bne_eq_false_iff_eq.mpr c28
                          clear c28
                          replace H := Option.bind_eq_some_iff.mp H
                          obtain ⟨t247, A290, H⟩ := H
                          replace H : (some t247) = some r := H
                          have A29 := Aside0.mk A290
                          clear A290
                          obtain rfl := Option.some.inj H
                          go_enter Try.func35, Try.ntmps35
                          go_wp2_with (first | ((with_reducible refine gate_callee (f := 48) rfl ?_); refine goesL_ (some 71) rfl rfl Try.func48 (by kernel_rfl) rfl #[.int .u32 a1, .int .u32 a2, .int .u32 a4] rfl (by (try simp only [List.map_toArray, List.map_cons, List.map_nil]); first | done | rfl | (simp only [List.length_drop, List.length_take]; rfl)) ?_; (with_reducible refine (spec_full.calls k a1 a2 a4 t247 _ A29.out).mono ?_); rintro e w30 ⟨rfl, hb⟩; refine ⟨_, rfl, ?_⟩; have n0_ := Aside0.mk (below_step (by repeat (first | (with_reducible first | exact HB.out | apply below_alloc | apply pw_below_drewN | apply below_drew1) | exact HB.out)) hb); clear HB; have HB := n0_; clear n0_; (try clear hb); (try clear hb2); (try clear hk); (try clear hi)))
                          go_ret
                          exact ⟨by first | rfl | (simp [errW_none, errW_some] <;> rfl) | (simp [*, errW_none, errW_some] <;> rfl), by repeat (first | (with_reducible first | exact HB.out | apply below_alloc | apply pw_below_drewN | apply below_drew1) | exact HB.out)⟩
                        · rw [if_neg c28] at H
                          have c28b0 : (a0 == 12) = false := beq_eq_false_iff_ne.mpr c28
                          have c28b1 : (a0 != 12) = true := bne_iff_ne.mpr c28
                          by_cases c31 : a0 = 13
                          · rw [if_pos c31] at H
                            have c31b0 : (a0 == 13) = true := beq_iff_eq.mpr c31
                            have c31b1 : (a0 != 13) = false := bne_eq_false_iff_eq.mpr c31
                            clear c31
                            replace H := Option.bind_eq_some_iff.mp H
                            obtain ⟨t248, A320, H⟩ := H
                            replace H : ((spec_half.f k t248 a4).bind fun t249 => (some t249)) = some r := H
                            have A32 := Aside0.mk A320
                            clear A320
                            replace H := Option.bind_eq_some_iff.mp H
                            obtain ⟨t249, A330, H⟩ := H
                            replace H : (some t249) = some r := H
                            have A33 := Aside0.mk A330
                            clear A330
                            obtain rfl := Option.some.inj H
                            go_enter Try.func35, Try.ntmps35
                            go_wp2_with (first | ((with_reducible refine gate_callee (f := 46) rfl ?_); refine goesL_ (some 76) rfl rfl Try.func46 (by kernel_rfl) rfl #[.int .u32 a1, .int .u32 a2] rfl (by (try simp only [List.map_toArray, List.map_cons, List.map_nil]); first | done | rfl | (simp only [List.length_drop, List.length_take]; rfl)) ?_; (with_reducible refine (spec_mean.calls k a1 a2 t248 _ A32.out).mono ?_); rintro e w' ⟨rfl, ⟨nd, rfl⟩⟩; refine ⟨_, rfl, ?_⟩) | ((with_reducible refine gate_callee (f := 49) rfl ?_); refine goesL_ (some 78) rfl rfl Try.func49 (by kernel_rfl) rfl #[.int .u32 t248, .int .u32 a4] rfl (by (try simp only [List.map_toArray, List.map_cons, List.map_nil]); first | done | rfl | (simp only [List.length_drop, List.length_take]; rfl)) ?_; (with_reducible refine (spec_half.calls k t248 a4 t249 _ A33.out).mono ?_); rintro e w34 ⟨rfl, hb⟩; refine ⟨_, rfl, ?_⟩; have n0_ := Aside0.mk (below_step (by repeat (first | (with_reducible first | exact HB.out | apply below_alloc | apply pw_below_drewN | apply below_drew1) | exact HB.out)) hb); clear HB; have HB := n0_; clear n0_; (try clear hb); (try clear hb2); (try clear hk); (try clear hi)))
                            go_ret
                            exact ⟨by first | rfl | (simp [errW_none, errW_some] <;> rfl) | (simp [*, errW_none, errW_some] <;> rfl), by repeat (first | (with_reducible first | exact HB.out | apply below_alloc | apply pw_below_drewN | apply below_drew1) | exact HB.out)⟩
                          · rw [if_neg c31] at H
                            have c31b0 : (a0 == 13) = false := beq_eq_false_iff_ne.mpr c31
                            have c31b1 : (a0 != 13) = true := bne_iff_ne.mpr c31
                            obtain rfl := Option.some.inj H
                            go_enter Try.func35, Try.ntmps35
                            go_wp2
                            go_ret
                            exact ⟨by first | rfl | (simp [errW_none, errW_some] <;> rfl) | (simp [*, errW_none, errW_some] <;> rfl), by repeat (first | (with_reducible first | exact HB.out | apply below_alloc | apply pw_below_drewN | apply below_drew1) | exact HB.out)⟩

/-! ### spec_added: function 36 -/
def spec_added.l0 : Nat → Int → Int → Int → Int → Option (Int)
  | 0, _, _, _, _ => none
  | k + 1, x0, x1, x5, x6 => if x6 < 4 then (if 0 ≤ (wrap64 (8 * x6)) then (spec_added.l0 k x0 x1 (Go.bits .or .u32 x5 (shl .u32 (Go.bits .and .u32 (((shr .u32 x0 (wrap64 (8 * x6))) + (shr .u32 x1 (wrap64 (8 * x6)))) % 4294967296) 255) (wrap64 (8 * x6)))) (wrap64 (x6 + 1))) else (none)) else (some x5)
def spec_added.f (k : Nat) (a0 : Int) (a1 : Int) : Option (Int) := spec_added.l0 k a0 a1 0 0
theorem spec_added.mono_l : ∀ k, (∀ y0 y1 y2 y3, LeO (spec_added.l0 k y0 y1 y2 y3) (spec_added.l0 (k + 1) y0 y1 y2 y3))
  | 0 => fun _ _ _ _ r h => by simp [spec_added.l0] at h
  | k + 1 => by
    have ih0 := spec_added.mono_l k
    · intro y0 y1 y2 y3
      unfold spec_added.l0
      repeat' first
      | (with_reducible exact ih0 _ _ _ _)
      | (with_reducible exact LeO.refl _)
      | (with_reducible exact LeO.none _)
      | (with_reducible refine LeO.ite ?_ ?_)
      | (with_reducible refine LeO.bind ?_ (fun _ => ?_))
      | exact ih0 _ _ _ _
      | exact LeO.none _
      | refine LeO.ite ?_ ?_
      | refine LeO.bind ?_ (fun _ => ?_)
theorem spec_added.mono : ∀ a0 a1 k, LeO (spec_added.f k a0 a1) (spec_added.f (k + 1) a0 a1) := by
  intro a0 a1 k
  have ih0 := spec_added.mono_l k
  unfold spec_added.f
  repeat' first
      | (with_reducible exact ih0 _ _ _ _)
      | (with_reducible exact LeO.refl _)
      | (with_reducible exact LeO.none _)
      | (with_reducible refine LeO.ite ?_ ?_)
      | (with_reducible refine LeO.bind ?_ (fun _ => ?_))
      | exact ih0 _ _ _ _
      | exact LeO.none _
      | refine LeO.ite ?_ ?_
      | refine LeO.bind ?_ (fun _ => ?_)
set_option maxHeartbeats 8000000 in
set_option maxRecDepth 100000 in
theorem spec_added.calls (k : Nat) (a0 : Int) (a1 : Int) (r : Int) (w : World) (h : spec_added.f k a0 a1 = some r) :
    Calls Try.prog 36 #[.int .u32 a0, .int .u32 a1] w fun e w' => e = .returned (.int .u32 r) ∧ Drawn0 w w' := by
  have H : (spec_added.l0 k a0 a1 0 0) = some r := h
  clear h
  have H' := Aside0.mk H
  clear H
  go_enter Try.func36, Try.ntmps36
  go_wp2
  repeat (go_quiet (fail); try go_wp2)
  go_loopg [5, 6] k (fun kq v5 v6 w' => ∃ (x5_1 : Int) (x6_1 : Int), v5 = .int .u32 x5_1 ∧ v6 = .int .i64 x6_1 ∧ Aside0 (spec_added.l0 kq a0 a1 x5_1 x6_1 = some r) ∧ Aside0 (kq ≤ k) ∧ Drawn0 w w')
  case atStart => exact ⟨(0), (0), (by first | rfl | (simp; done) | (simp [*]; done)), (by first | rfl | (simp; done) | (simp [*]; done)), H', ⟨Nat.le_refl _⟩, by repeat (first | exact Drawn0.refl _ | apply Drawn0.step)⟩
  case round =>
    clear H'
    try clear p2
    obtain ⟨x5_1, x6_1, rfl, rfl, HA, HK1, ⟨m1, rfl⟩⟩ := hrel
    cases gk with
    | zero => exact absurd HA.out (by simp [spec_added.l0])
    | succ k1 =>
      have H := HA.out
      clear HA
      simp only [spec_added.l0] at H
      by_cases c3 : x6_1 < 4
      · rw [if_pos c3] at H
        have c3b0 : decide (x6_1 < 4) = true := decide_eq_true c3
        clear c3
        obtain ⟨ji4, hji4⟩ : ∃ j_ : Int, (wrap64 (8 * x6_1)) = j_ := ⟨_, rfl⟩
        replace H : (if 0 ≤ (ji4) then (spec_added.l0 k1 a0 a1 (Go.bits .or .u32 x5_1 (shl .u32 (Go.bits .and .u32 (((shr .u32 a0 (ji4)) + (shr .u32 a1 (ji4))) % 4294967296) 255) (ji4))) (wrap64 (x6_1 + 1))) else (none)) = some r := by first | (rw [hji4] at H; exact H) | (simp only [hji4] at H ⊢; exact H)
        have hji4w : (IntKind.i64.wrap (8 * x6_1)) = ji4 := (i64_w _).trans hji4
        by_cases c5 : 0 ≤ (ji4)
        · rw [if_pos c5] at H
          have c5b0 := eq_true c5
          have c5b1 : decide (0 ≤ (ji4)) = true := decide_eq_true c5
          clear c5
          obtain ⟨ji6, hji6⟩ : ∃ j_ : Int, (shr .u32 a0 (ji4)) = j_ := ⟨_, rfl⟩
          replace H : (spec_added.l0 k1 a0 a1 (Go.bits .or .u32 x5_1 (shl .u32 (Go.bits .and .u32 (((ji6) + (shr .u32 a1 (ji4))) % 4294967296) 255) (ji4))) (wrap64 (x6_1 + 1))) = some r := by first | (rw [hji6] at H; exact H) | (simp only [hji6] at H ⊢; exact H)
          have hji6_ : (a0 / 2 ^ min (ji4).toNat 32) = ji6 := hji6
          have hji6z : (ji4) ≤ 32 → (a0 / 2 ^ (ji4).toNat) = ji6 := shr_small hji6
          have c7b0 := eq_true (of_decide_eq_true (by first | (with_reducible assumption) | assumption) : 0 ≤ (ji4))
          obtain ⟨ji8, hji8⟩ : ∃ j_ : Int, (shr .u32 a1 (ji4)) = j_ := ⟨_, rfl⟩
          replace H : (spec_added.l0 k1 a0 a1 (Go.bits .or .u32 x5_1 (shl .u32 (Go.bits .and .u32 (((ji6) + (ji8)) % 4294967296) 255) (ji4))) (wrap64 (x6_1 + 1))) = some r := by first | (rw [hji8] at H; exact H) | (simp only [hji8] at H ⊢; exact H)
          have hji8_ : (a1 / 2 ^ min (ji4).toNat 32) = ji8 := hji8
          have hji8z : (ji4) ≤ 32 → (a1 / 2 ^ (ji4).toNat) = ji8 := shr_small hji8
          have c9b0 := eq_true (of_decide_eq_true (by first | (with_reducible assumption) | assumption) : 0 ≤ (ji4))
          obtain ⟨ji10, hji10⟩ : ∃ j_ : Int, (shl .u32 (Go.bits .and .u32 (((ji6) + (ji8)) % 4294967296) 255) (ji4)) = j_ := ⟨_, rfl⟩
          replace H : (spec_added.l0 k1 a0 a1 (Go.bits .or .u32 x5_1 (ji10)) (wrap64 (x6_1 + 1))) = some r := by first | (rw [hji10] at H; exact H) | (simp only [hji10] at H ⊢; exact H)
          have hji10_ : (IntKind.u32.wrap ((Go.bits .and .u32 (((ji6) + (ji8)) % 4294967296) 255) * 2 ^ min (ji4).toNat 32)) = ji10 := hji10
          have hji10z : (ji4) ≤ 32 → (IntKind.u32.wrap ((Go.bits .and .u32 (((ji6) + (ji8)) % 4294967296) 255) * 2 ^ (ji4).toNat)) = ji10 := shl_small hji10
          have H' := Aside0.mk H
          clear H
          go_wp2
          repeat (go_quiet (fail); try go_wp2)
          go_roundg k1
          case measure => have := HK1.out; omega
          case rel => exact ⟨(Go.bits .or .u32 x5_1 (ji10)), (wrap64 (x6_1 + 1)), (by first | rfl | (simp; done) | (simp only [← hji10] <;> (first | rfl | simp)) | (simp [*]; done)), (by first | rfl | (simp; done) | (simp [*]; done)), H', ⟨by have := HK1.out; omega⟩, by repeat (first | exact Drawn0.refl _ | apply Drawn0.step)⟩
        · rw [if_neg c5] at H
          exact absurd H (by simp)
      · rw [if_neg c3] at H
        have c3b0 : decide (x6_1 < 4) = false := decide_eq_false c3
        clear c3
        obtain rfl := Option.some.inj H
        go_wp2
        repeat (go_quiet (fail); try go_wp2)
        go_ret
        exact ⟨by first | rfl | (simp; done) | (simp [*]; done), by repeat (first | exact Drawn0.refl _ | apply Drawn0.step)⟩

end Go.Proofs.Ytgjcikajfnlocaa.PFnPredictor
