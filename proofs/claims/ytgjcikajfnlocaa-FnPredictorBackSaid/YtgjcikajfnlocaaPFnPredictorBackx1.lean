-- PRINTED BY print.sh 35421559b90ae4d0a3588c463048766b98c2df88dd9212a6774a882060cdf62d: not written by this session
import Derived.Test.YtgjcikajfnlocaaPFnPredictorBackx0
namespace Go.Proofs.Ytgjcikajfnlocaa.PFnPredictorBack
open Go.RowKit Go.Proofs.YtgjcikajfnlocaaW.PrintWords Go.Proofs.YtgjcikajfnlocaaW.PrintLast Go.Proofs.YtgjcikajfnlocaaW.PrintMore
attribute [local go_sem] max2_int min2_int max_two min_two max_three min_three max_four min_four   -- for this text's walks alone
set_option linter.unusedVariables false
set_option linter.unusedSimpArgs false

/-! ### laws_isArea: function 5 -/
def laws_isArea.f (a0 : Int) (a1 : Int) (l2 : List Int) : Option (Bool) := if a0 > 0 then (if a1 > 0 then (if a0 ≤ 16384 then (if a1 ≤ 16384 then (if (wrap64 (a0 * a1)) ≤ 16384 then (some ((l2.length : Int) == (wrap64 ((wrap64 (4 * a0)) * a1)))) else (some false)) else (some false)) else (some false)) else (some false)) else (some false)
set_option maxHeartbeats 8000000 in
set_option maxRecDepth 100000 in
theorem laws_isArea.calls (a0 : Int) (a1 : Int) (A2 : Option Addr) (c2 : Nat) (l2 : List Int) (r : Bool) (w : World) (hr2 : Kd.C (Kd.int .u8) w A2 l2.length l2) (hc2 : l2.length ≤ c2) (h : laws_isArea.f a0 a1 l2 = some r) :
    Calls Try.prog 5 #[.int .i64 a0, .int .i64 a1, .slice A2 l2.length c2] w fun e w' => e = .returned (.bool r) ∧ Drawn0 w w' := by
  have HR2 := Aside0.mk hr2
  have HC2 := Aside0.mk hc2
  clear hr2 hc2
  have H : (if a0 > 0 then (if a1 > 0 then (if a0 ≤ 16384 then (if a1 ≤ 16384 then (if (wrap64 (a0 * a1)) ≤ 16384 then (some ((l2.length : Int) == (wrap64 ((wrap64 (4 * a0)) * a1)))) else (some false)) else (some false)) else (some false)) else (some false)) else (some false)) = some r := h
  clear h
  by_cases c4 : a0 > 0
  · rw [if_pos c4] at H
    have c4b0 : decide (0 < a0) = true := decide_eq_true c4
    clear c4
    by_cases c5 : a1 > 0
    · rw [if_pos c5] at H
      have c5b0 : decide (0 < a1) = true := decide_eq_true c5
      clear c5
      by_cases c6 : a0 ≤ 16384
      · rw [if_pos c6] at H
        have c6b0 : decide (a0 ≤ 16384) = true := decide_eq_true c6
        clear c6
        by_cases c7 : a1 ≤ 16384
        · rw [if_pos c7] at H
          have c7b0 : decide (a1 ≤ 16384) = true := decide_eq_true c7
          clear c7
          by_cases c8 : (wrap64 (a0 * a1)) ≤ 16384
          · rw [if_pos c8] at H
            have c8b0 : decide ((wrap64 (a0 * a1)) ≤ 16384) = true := decide_eq_true c8
            clear c8
            obtain rfl := Option.some.inj H
            go_enter Try.func5, Try.ntmps5
            go_wp2
            go_ret
            exact ⟨by first | rfl | (simp; done) | (simp [*]; done), by repeat (first | exact Drawn0.refl _ | apply Drawn0.step)⟩
          · rw [if_neg c8] at H
            have c8b0 : decide ((wrap64 (a0 * a1)) ≤ 16384) = false := decide_eq_false c8
            clear c8
            obtain rfl := Option.some.inj H
            go_enter Try.func5, Try.ntmps5
            go_wp2
            go_ret
            exact ⟨by first | rfl | (simp; done) | (simp [*]; done), by repeat (first | exact Drawn0.refl _ | apply Drawn0.step)⟩
        · rw [if_neg c7] at H
          have c7b0 : decide (a1 ≤ 16384) = false := decide_eq_false c7
          clear c7
          obtain rfl := Option.some.inj H
          go_enter Try.func5, Try.ntmps5
          go_wp2
          go_ret
          exact ⟨by first | rfl | (simp; done) | (simp [*]; done), by repeat (first | exact Drawn0.refl _ | apply Drawn0.step)⟩
      · rw [if_neg c6] at H
        have c6b0 : decide (a0 ≤ 16384) = false := decide_eq_false c6
        clear c6
        obtain rfl := Option.some.inj H
        go_enter Try.func5, Try.ntmps5
        go_wp2
        go_ret
        exact ⟨by first | rfl | (simp; done) | (simp [*]; done), by repeat (first | exact Drawn0.refl _ | apply Drawn0.step)⟩
    · rw [if_neg c5] at H
      have c5b0 : decide (0 < a1) = false := decide_eq_false c5
      clear c5
      obtain rfl := Option.some.inj H
      go_enter Try.func5, Try.ntmps5
      go_wp2
      go_ret
      exact ⟨by first | rfl | (simp; done) | (simp [*]; done), by repeat (first | exact Drawn0.refl _ | apply Drawn0.step)⟩
  · rw [if_neg c4] at H
    have c4b0 : decide (0 < a0) = false := decide_eq_false c4
    clear c4
    obtain rfl := Option.some.inj H
    go_enter Try.func5, Try.ntmps5
    go_wp2
    go_ret
    exact ⟨by first | rfl | (simp; done) | (simp [*]; done), by repeat (first | exact Drawn0.refl _ | apply Drawn0.step)⟩

/-! ### laws_isModes: function 6 -/
def laws_isModes.l0 : Nat → List Int → Int → Option (Bool)
  | 0, _, _ => none
  | k + 1, x0, x5 => if x5 < (x0.length : Int) then (if 0 ≤ x5 then (if (rd x0 x5) > 13 then (some false) else (laws_isModes.l0 k x0 (wrap64 (x5 + 4)))) else (none)) else (some true)
def laws_isModes.f (k : Nat) (l0 : List Int) (a1 : Int) : Option (Bool) := if (l0.length : Int) = (wrap64 (4 * a1)) then (laws_isModes.l0 k l0 1) else (some false)
theorem laws_isModes.mono_l : ∀ k, (∀ y0 y1, LeO (laws_isModes.l0 k y0 y1) (laws_isModes.l0 (k + 1) y0 y1))
  | 0 => fun _ _ r h => by simp [laws_isModes.l0] at h
  | k + 1 => by
    have ih0 := laws_isModes.mono_l k
    · intro y0 y1
      unfold laws_isModes.l0
      repeat' first
      | (with_reducible exact ih0 _ _)
      | (with_reducible exact LeO.refl _)
      | (with_reducible exact LeO.none _)
      | (with_reducible refine LeO.ite ?_ ?_)
      | (with_reducible refine LeO.bind ?_ (fun _ => ?_))
      | exact ih0 _ _
      | exact LeO.none _
      | refine LeO.ite ?_ ?_
      | refine LeO.bind ?_ (fun _ => ?_)
theorem laws_isModes.mono : ∀ a0 a1 k, LeO (laws_isModes.f k a0 a1) (laws_isModes.f (k + 1) a0 a1) := by
  intro a0 a1 k
  have ih0 := laws_isModes.mono_l k
  unfold laws_isModes.f
  repeat' first
      | (with_reducible exact ih0 _ _)
      | (with_reducible exact LeO.refl _)
      | (with_reducible exact LeO.none _)
      | (with_reducible refine LeO.ite ?_ ?_)
      | (with_reducible refine LeO.bind ?_ (fun _ => ?_))
      | exact ih0 _ _
      | exact LeO.none _
      | refine LeO.ite ?_ ?_
      | refine LeO.bind ?_ (fun _ => ?_)
set_option maxHeartbeats 8000000 in
set_option maxRecDepth 100000 in
theorem laws_isModes.calls (k : Nat) (A0 : Option Addr) (c0 : Nat) (l0 : List Int) (a1 : Int) (r : Bool) (w : World) (hr0 : Kd.C (Kd.int .u8) w A0 l0.length l0) (hc0 : l0.length ≤ c0) (h : laws_isModes.f k l0 a1 = some r) :
    Calls Try.prog 6 #[.slice A0 l0.length c0, .int .i64 a1] w fun e w' => e = .returned (.bool r) ∧ Drawn0 w w' := by
  have HR0 := Aside0.mk hr0
  have HC0 := Aside0.mk hc0
  clear hr0 hc0
  have H : (if (l0.length : Int) = (wrap64 (4 * a1)) then (laws_isModes.l0 k l0 1) else (some false)) = some r := h
  clear h
  by_cases c3 : (l0.length : Int) = (wrap64 (4 * a1))
  · rw [if_pos c3] at H
    have c3b0 : ((l0.length : Int) == (wrap64 (4 * a1))) = true := beq_iff_eq.mpr c3
    have c3b1 : ((l0.length : Int) != (wrap64 (4 * a1))) = false := bne_eq_false_iff_eq.mpr c3
    clear c3
    have H' := Aside0.mk H
    clear H
    go_enter Try.func6, Try.ntmps6
    go_wp2
    go_loopg [5] k (fun kq v5 w' => ∃ (x5_1 : Int), v5 = .int .i64 x5_1 ∧ Aside0 (laws_isModes.l0 kq l0 x5_1 = some r) ∧ Aside0 (kq ≤ k) ∧ Drawn0 w w')
    case atStart => exact ⟨(1), (by first | rfl | (simp; done) | (simp [*]; done)), H', ⟨Nat.le_refl _⟩, by repeat (first | exact Drawn0.refl _ | apply Drawn0.step)⟩
    case round =>
      clear H'
      try clear p2
      try clear c3
      try clear c3b0
      try clear c3b1
      obtain ⟨x5_1, rfl, HA, HK1, ⟨m1, rfl⟩⟩ := hrel
      cases gk with
      | zero => exact absurd HA.out (by simp [laws_isModes.l0])
      | succ k1 =>
        have H := HA.out
        clear HA
        simp only [laws_isModes.l0] at H
        by_cases c4 : x5_1 < (l0.length : Int)
        · rw [if_pos c4] at H
          have c4b0 : decide (x5_1 < (l0.length : Int)) = true := decide_eq_true c4
          clear c4
          by_cases c5 : 0 ≤ x5_1
          · rw [if_pos c5] at H
            have c5b0 : decide (0 ≤ x5_1) = true := decide_eq_true c5
            clear c5
            by_cases c6 : (rd l0 x5_1) > 13
            · rw [if_pos c6] at H
              have c6b0 : decide (13 < (rd l0 x5_1)) = true := decide_eq_true c6
              clear c6
              obtain rfl := Option.some.inj H
              have p101 : 0 ≤ (x5_1 : Int) := of_decide_eq_true (by first | (with_reducible assumption) | assumption)
              have q101 : x5_1 < (l0.length : Int) := of_decide_eq_true (by first | (with_reducible assumption) | assumption)
              obtain ⟨ad101, e101, hx101_0⟩ := Kd.at_int HR0.out x5_1 p101 q101
              cases e101
              replace p101 := eq_true p101
              replace q101 := eq_true q101
              go_wp2
              go_ret
              exact ⟨by first | rfl | (simp; done) | (simp [*]; done), by repeat (first | exact Drawn0.refl _ | apply Drawn0.step)⟩
            · rw [if_neg c6] at H
              have c6b0 : decide (13 < (rd l0 x5_1)) = false := decide_eq_false c6
              clear c6
              have H' := Aside0.mk H
              clear H
              have p101 : 0 ≤ (x5_1 : Int) := of_decide_eq_true (by first | (with_reducible assumption) | assumption)
              have q101 : x5_1 < (l0.length : Int) := of_decide_eq_true (by first | (with_reducible assumption) | assumption)
              obtain ⟨ad101, e101, hx101_0⟩ := Kd.at_int HR0.out x5_1 p101 q101
              cases e101
              replace p101 := eq_true p101
              replace q101 := eq_true q101
              go_wp2
              go_roundg k1
              case measure => have := HK1.out; omega
              case rel => exact ⟨(wrap64 (x5_1 + 4)), (by first | rfl | (simp; done) | (simp [*]; done)), H', ⟨by have := HK1.out; omega⟩, by repeat (first | exact Drawn0.refl _ | apply Drawn0.step)⟩
          · rw [if_neg c5] at H
            exact absurd H (by simp)
        · rw [if_neg c4] at H
          have c4b0 : decide (x5_1 < (l0.length : Int)) = false := decide_eq_false c4
          clear c4
          obtain rfl := Option.some.inj H
          go_wp2
          go_ret
          exact ⟨by first | rfl | (simp; done) | (simp [*]; done), by repeat (first | exact Drawn0.refl _ | apply Drawn0.step)⟩
  · rw [if_neg c3] at H
    have c3b0 : ((l0.length : Int) == (wrap64 (4 * a1))) = false := beq_eq_false_iff_ne.mpr c3
    have c3b1 : ((l0.length : Int) != (wrap64 (4 * a1))) = true := bne_iff_ne.mpr c3
    obtain rfl := Option.some.inj H
    go_enter Try.func6, Try.ntmps6
    go_wp2
    go_ret
    exact ⟨by first | rfl | (simp; done) | (simp [*]; done), by repeat (first | exact Drawn0.refl _ | apply Drawn0.step)⟩

/-! ### laws_blocks: function 17 -/
def laws_blocks.f (a0 : Int) (a1 : Int) : Option (Int) := if 0 ≤ a1 then (some (shr .i64 (wrap64 ((wrap64 (a0 + (shl .i64 1 a1))) - 1)) a1)) else (none)
set_option maxHeartbeats 8000000 in
set_option maxRecDepth 100000 in
theorem laws_blocks.calls (a0 : Int) (a1 : Int) (r : Int) (w : World) (h : laws_blocks.f a0 a1 = some r) :
    Calls Try.prog 17 #[.int .i64 a0, .int .i64 a1] w fun e w' => e = .returned (.int .i64 r) ∧ Drawn0 w w' := by
  have H : (if 0 ≤ a1 then (some (shr .i64 (wrap64 ((wrap64 (a0 + (shl .i64 1 a1))) - 1)) a1)) else (none)) = some r := h
  clear h
  by_cases c3 : 0 ≤ a1
  · rw [if_pos c3] at H
    have c3b0 := eq_true c3
    have c3b1 : decide (0 ≤ a1) = true := decide_eq_true c3
    clear c3
    obtain ⟨ji4, hji4⟩ : ∃ j_ : Int, (shl .i64 1 a1) = j_ := ⟨_, rfl⟩
    replace H : (some (shr .i64 (wrap64 ((wrap64 (a0 + (ji4))) - 1)) a1)) = some r := by first | (rw [hji4] at H; exact H) | (simp only [hji4] at H ⊢; exact H)
    have hji4_ : (IntKind.i64.wrap (1 * 2 ^ min a1.toNat 64)) = ji4 := hji4
    have hji4z : a1 ≤ 64 → (IntKind.i64.wrap (1 * 2 ^ a1.toNat)) = ji4 := shl_small hji4
    have hji4u : (IntKind.i64.wrap (2 ^ min a1.toNat 64)) = ji4 := by have h_ := hji4_; rw [Int.one_mul] at h_; exact h_
    have hji4v : a1 ≤ 64 → (IntKind.i64.wrap (2 ^ a1.toNat)) = ji4 := fun hle_ => by have h_ := hji4z hle_; rw [Int.one_mul] at h_; exact h_
    have hji4y : (wrap64 (1 * 2 ^ min a1.toNat 64)) = ji4 := (i64_w _).symm.trans hji4_
    have hji4x : a1 ≤ 64 → (wrap64 (1 * 2 ^ a1.toNat)) = ji4 := fun h_ => (i64_w _).symm.trans (hji4z h_)
    have c5b0 := eq_true (of_decide_eq_true (by first | (with_reducible assumption) | assumption) : 0 ≤ a1)
    obtain ⟨ji6, hji6⟩ : ∃ j_ : Int, (shr .i64 (wrap64 ((wrap64 (a0 + (ji4))) - 1)) a1) = j_ := ⟨_, rfl⟩
    replace H : (some ji6) = some r := by first | (rw [hji6] at H; exact H) | (simp only [hji6] at H ⊢; exact H)
    have hji6_ : ((wrap64 ((wrap64 (a0 + (ji4))) - 1)) / 2 ^ min a1.toNat 64) = ji6 := hji6
    have hji6z : a1 ≤ 64 → ((wrap64 ((wrap64 (a0 + (ji4))) - 1)) / 2 ^ a1.toNat) = ji6 := shr_small hji6
    obtain rfl := Option.some.inj H
    go_enter Try.func17, Try.ntmps17
    go_wp2
    go_ret
    exact ⟨by first | rfl | (simp; done) | (simp only [← hji4, ← hji6] <;> (first | rfl | simp)) | (simp [*]; done), by repeat (first | exact Drawn0.refl _ | apply Drawn0.step)⟩
  · rw [if_neg c3] at H
    exact absurd H (by simp)

/-! ### laws_blocksOf: function 7 -/
def laws_blocksOf.f (a0 : Int) (a1 : Int) (a2 : Int) : Option (Int) := (laws_blocks.f a0 a2).bind fun t102 => ((laws_blocks.f a1 a2).bind fun t103 => (some (wrap64 (t102 * t103))))
set_option maxHeartbeats 8000000 in
set_option maxRecDepth 100000 in
theorem laws_blocksOf.calls (a0 : Int) (a1 : Int) (a2 : Int) (r : Int) (w : World) (h : laws_blocksOf.f a0 a1 a2 = some r) :
    Calls Try.prog 7 #[.int .i64 a0, .int .i64 a1, .int .i64 a2] w fun e w' => e = .returned (.int .i64 r) ∧ Drawn0 w w' := by
  have H : ((laws_blocks.f a0 a2).bind fun t102 => ((laws_blocks.f a1 a2).bind fun t103 => (some (wrap64 (t102 * t103))))) = some r := h
  clear h
  replace H := Option.bind_eq_some_iff.mp H
  obtain ⟨t102, A40, H⟩ := H
  replace H : ((laws_blocks.f a1 a2).bind fun t103 => (some (wrap64 (t102 * t103)))) = some r := H
  have A4 := Aside0.mk A40
  clear A40
  replace H := Option.bind_eq_some_iff.mp H
  obtain ⟨t103, A50, H⟩ := H
  replace H : (some (wrap64 (t102 * t103))) = some r := H
  have A5 := Aside0.mk A50
  clear A50
  obtain rfl := Option.some.inj H
  go_enter Try.func7, Try.ntmps7
  go_wp2_with (first | ((with_reducible refine gate_callee (f := 17) rfl ?_); refine goesL_ (some 9) rfl rfl Try.func17 (by kernel_rfl) rfl #[.int .i64 a0, .int .i64 a2] rfl (by (try simp only [List.map_toArray, List.map_cons, List.map_nil]); first | done | rfl | (simp only [List.length_drop, List.length_take]; rfl)) ?_; (with_reducible refine (laws_blocks.calls a0 a2 t102 _ A4.out).mono ?_); rintro e w' ⟨rfl, ⟨nd, rfl⟩⟩; refine ⟨_, rfl, ?_⟩) | ((with_reducible refine gate_callee (f := 17) rfl ?_); refine goesL_ (some 12) rfl rfl Try.func17 (by kernel_rfl) rfl #[.int .i64 a1, .int .i64 a2] rfl (by (try simp only [List.map_toArray, List.map_cons, List.map_nil]); first | done | rfl | (simp only [List.length_drop, List.length_take]; rfl)) ?_; (with_reducible refine (laws_blocks.calls a1 a2 t103 _ A5.out).mono ?_); rintro e w' ⟨rfl, ⟨nd, rfl⟩⟩; refine ⟨_, rfl, ?_⟩))
  go_ret
  exact ⟨by first | rfl | (simp; done) | (simp [*]; done), by repeat (first | exact Drawn0.refl _ | apply Drawn0.step)⟩

/-! ### vp8l_avg2: function 41 -/
def vp8l_avg2.f (a0 : Int) (a1 : Int) : Option (Int) := some ((wrap32 (Int.tdiv (wrap32 ((wrap32 (a0)) + (wrap32 (a1)))) 2)) % 256)
set_option maxHeartbeats 8000000 in
set_option maxRecDepth 100000 in
theorem vp8l_avg2.calls (a0 : Int) (a1 : Int) (r : Int) (w : World) (h : vp8l_avg2.f a0 a1 = some r) :
    Calls Try.prog 41 #[.int .u8 a0, .int .u8 a1] w fun e w' => e = .returned (.int .u8 r) ∧ Drawn0 w w' := by
  have H : (some ((wrap32 (Int.tdiv (wrap32 ((wrap32 (a0)) + (wrap32 (a1)))) 2)) % 256)) = some r := h
  clear h
  obtain rfl := Option.some.inj H
  go_enter Try.func41, Try.ntmps41
  go_wp2
  go_ret
  exact ⟨by first | rfl | (simp; done) | (simp [*]; done), by repeat (first | exact Drawn0.refl _ | apply Drawn0.step)⟩

/-! ### vp8l_DoorAverage: function 29 -/
def vp8l_DoorAverage.f (a0 : Int) (a1 : Int) : Option (Int) := (vp8l_avg2.f a0 a1).bind fun t104 => (some t104)
set_option maxHeartbeats 8000000 in
set_option maxRecDepth 100000 in
theorem vp8l_DoorAverage.calls (a0 : Int) (a1 : Int) (r : Int) (w : World) (h : vp8l_DoorAverage.f a0 a1 = some r) :
    Calls Try.prog 29 #[.int .u8 a0, .int .u8 a1] w fun e w' => e = .returned (.int .u8 r) ∧ Drawn0 w w' := by
  have H : ((vp8l_avg2.f a0 a1).bind fun t104 => (some t104)) = some r := h
  clear h
  replace H := Option.bind_eq_some_iff.mp H
  obtain ⟨t104, A30, H⟩ := H
  replace H : (some t104) = some r := H
  have A3 := Aside0.mk A30
  clear A30
  obtain rfl := Option.some.inj H
  go_enter Try.func29, Try.ntmps29
  go_wp2_with (first | ((with_reducible refine gate_callee (f := 41) rfl ?_); refine goesL_ (some 7) rfl rfl Try.func41 (by kernel_rfl) rfl #[.int .u8 a0, .int .u8 a1] rfl (by (try simp only [List.map_toArray, List.map_cons, List.map_nil]); first | done | rfl | (simp only [List.length_drop, List.length_take]; rfl)) ?_; (with_reducible refine (vp8l_avg2.calls a0 a1 t104 _ A3.out).mono ?_); rintro e w' ⟨rfl, ⟨nd, rfl⟩⟩; refine ⟨_, rfl, ?_⟩))
  go_ret
  exact ⟨by first | rfl | (simp; done) | (simp [*]; done), by repeat (first | exact Drawn0.refl _ | apply Drawn0.step)⟩

/-! ### impl_Average: function 18 -/
def impl_Average.f (a0 : Int) (a1 : Int) : Option (Int) := (vp8l_DoorAverage.f ((a0) % 256) ((a1) % 256)).bind fun t105 => (some (wrap64 (t105)))
set_option maxHeartbeats 8000000 in
set_option maxRecDepth 100000 in
theorem impl_Average.calls (a0 : Int) (a1 : Int) (r : Int) (w : World) (h : impl_Average.f a0 a1 = some r) :
    Calls Try.prog 18 #[.int .i64 a0, .int .i64 a1] w fun e w' => e = .returned (.int .i64 r) ∧ Drawn0 w w' := by
  have H : ((vp8l_DoorAverage.f ((a0) % 256) ((a1) % 256)).bind fun t105 => (some (wrap64 (t105)))) = some r := h
  clear h
  replace H := Option.bind_eq_some_iff.mp H
  obtain ⟨t105, A30, H⟩ := H
  replace H : (some (wrap64 (t105))) = some r := H
  have A3 := Aside0.mk A30
  clear A30
  obtain rfl := Option.some.inj H
  go_enter Try.func18, Try.ntmps18
  go_wp2_with (first | ((with_reducible refine gate_callee (f := 29) rfl ?_); refine goesL_ (some 9) rfl rfl Try.func29 (by kernel_rfl) rfl #[.int .u8 ((a0) % 256), .int .u8 ((a1) % 256)] rfl (by (try simp only [List.map_toArray, List.map_cons, List.map_nil]); first | done | rfl | (simp only [List.length_drop, List.length_take]; rfl)) ?_; (with_reducible refine (vp8l_DoorAverage.calls ((a0) % 256) ((a1) % 256) t105 _ A3.out).mono ?_); rintro e w' ⟨rfl, ⟨nd, rfl⟩⟩; refine ⟨_, rfl, ?_⟩))
  go_ret
  exact ⟨by first | rfl | (simp; done) | (simp [*]; done), by repeat (first | exact Drawn0.refl _ | apply Drawn0.step)⟩

/-! ### vp8l_clampAddSubtractFull: function 42 -/
def vp8l_clampAddSubtractFull.f (a0 : Int) (a1 : Int) (a2 : Int) : Option (Int) := if (wrap32 ((wrap32 ((wrap32 (a0)) + (wrap32 (a1)))) - (wrap32 (a2)))) < 0 then (some 0) else (if (wrap32 ((wrap32 ((wrap32 (a0)) + (wrap32 (a1)))) - (wrap32 (a2)))) > 255 then (some 255) else (some ((wrap32 ((wrap32 ((wrap32 (a0)) + (wrap32 (a1)))) - (wrap32 (a2)))) % 256)))
set_option maxHeartbeats 8000000 in
set_option maxRecDepth 100000 in
theorem vp8l_clampAddSubtractFull.calls (a0 : Int) (a1 : Int) (a2 : Int) (r : Int) (w : World) (h : vp8l_clampAddSubtractFull.f a0 a1 a2 = some r) :
    Calls Try.prog 42 #[.int .u8 a0, .int .u8 a1, .int .u8 a2] w fun e w' => e = .returned (.int .u8 r) ∧ Drawn0 w w' := by
  have H : (if (wrap32 ((wrap32 ((wrap32 (a0)) + (wrap32 (a1)))) - (wrap32 (a2)))) < 0 then (some 0) else (if (wrap32 ((wrap32 ((wrap32 (a0)) + (wrap32 (a1)))) - (wrap32 (a2)))) > 255 then (some 255) else (some ((wrap32 ((wrap32 ((wrap32 (a0)) + (wrap32 (a1)))) - (wrap32 (a2)))) % 256)))) = some r := h
  clear h
  by_cases c4 : (wrap32 ((wrap32 ((wrap32 (a0)) + (wrap32 (a1)))) - (wrap32 (a2)))) < 0
  · rw [if_pos c4] at H
    have c4b0 : decide ((wrap32 ((wrap32 ((wrap32 (a0)) + (wrap32 (a1)))) - (wrap32 (a2)))) < 0) = true := decide_eq_true c4
    clear c4
    obtain rfl := Option.some.inj H
    go_enter Try.func42, Try.ntmps42
    go_wp2
    go_ret
    exact ⟨by first | rfl | (simp; done) | (simp [*]; done), by repeat (first | exact Drawn0.refl _ | apply Drawn0.step)⟩
  · rw [if_neg c4] at H
    have c4b0 : decide ((wrap32 ((wrap32 ((wrap32 (a0)) + (wrap32 (a1)))) - (wrap32 (a2)))) < 0) = false := decide_eq_false c4
    clear c4
    by_cases c5 : (wrap32 ((wrap32 ((wrap32 (a0)) + (wrap32 (a1)))) - (wrap32 (a2)))) > 255
    · rw [if_pos c5] at H
      have c5b0 : decide (255 < (wrap32 ((wrap32 ((wrap32 (a0)) + (wrap32 (a1)))) - (wrap32 (a2))))) = true := decide_eq_true c5
      clear c5
      obtain rfl := Option.some.inj H
      go_enter Try.func42, Try.ntmps42
      go_wp2
      go_ret
      exact ⟨by first | rfl | (simp; done) | (simp [*]; done), by repeat (first | exact Drawn0.refl _ | apply Drawn0.step)⟩
    · rw [if_neg c5] at H
      have c5b0 : decide (255 < (wrap32 ((wrap32 ((wrap32 (a0)) + (wrap32 (a1)))) - (wrap32 (a2))))) = false := decide_eq_false c5
      clear c5
      obtain rfl := Option.some.inj H
      go_enter Try.func42, Try.ntmps42
      go_wp2
      go_ret
      exact ⟨by first | rfl | (simp; done) | (simp [*]; done), by repeat (first | exact Drawn0.refl _ | apply Drawn0.step)⟩

/-! ### vp8l_DoorFull: function 30 -/
def vp8l_DoorFull.f (a0 : Int) (a1 : Int) (a2 : Int) : Option (Int) := (vp8l_clampAddSubtractFull.f a0 a1 a2).bind fun t106 => (some t106)
set_option maxHeartbeats 8000000 in
set_option maxRecDepth 100000 in
theorem vp8l_DoorFull.calls (a0 : Int) (a1 : Int) (a2 : Int) (r : Int) (w : World) (h : vp8l_DoorFull.f a0 a1 a2 = some r) :
    Calls Try.prog 30 #[.int .u8 a0, .int .u8 a1, .int .u8 a2] w fun e w' => e = .returned (.int .u8 r) ∧ Drawn0 w w' := by
  have H : ((vp8l_clampAddSubtractFull.f a0 a1 a2).bind fun t106 => (some t106)) = some r := h
  clear h
  replace H := Option.bind_eq_some_iff.mp H
  obtain ⟨t106, A40, H⟩ := H
  replace H : (some t106) = some r := H
  have A4 := Aside0.mk A40
  clear A40
  obtain rfl := Option.some.inj H
  go_enter Try.func30, Try.ntmps30
  go_wp2_with (first | ((with_reducible refine gate_callee (f := 42) rfl ?_); refine goesL_ (some 10) rfl rfl Try.func42 (by kernel_rfl) rfl #[.int .u8 a0, .int .u8 a1, .int .u8 a2] rfl (by (try simp only [List.map_toArray, List.map_cons, List.map_nil]); first | done | rfl | (simp only [List.length_drop, List.length_take]; rfl)) ?_; (with_reducible refine (vp8l_clampAddSubtractFull.calls a0 a1 a2 t106 _ A4.out).mono ?_); rintro e w' ⟨rfl, ⟨nd, rfl⟩⟩; refine ⟨_, rfl, ?_⟩))
  go_ret
  exact ⟨by first | rfl | (simp; done) | (simp [*]; done), by repeat (first | exact Drawn0.refl _ | apply Drawn0.step)⟩

/-! ### impl_Full: function 19 -/
def impl_Full.f (a0 : Int) (a1 : Int) (a2 : Int) : Option (Int) := (vp8l_DoorFull.f ((a0) % 256) ((a1) % 256) ((a2) % 256)).bind fun t107 => (some (wrap64 (t107)))
set_option maxHeartbeats 8000000 in
set_option maxRecDepth 100000 in
theorem impl_Full.calls (a0 : Int) (a1 : Int) (a2 : Int) (r : Int) (w : World) (h : impl_Full.f a0 a1 a2 = some r) :
    Calls Try.prog 19 #[.int .i64 a0, .int .i64 a1, .int .i64 a2] w fun e w' => e = .returned (.int .i64 r) ∧ Drawn0 w w' := by
  have H : ((vp8l_DoorFull.f ((a0) % 256) ((a1) % 256) ((a2) % 256)).bind fun t107 => (some (wrap64 (t107)))) = some r := h
  clear h
  replace H := Option.bind_eq_some_iff.mp H
  obtain ⟨t107, A40, H⟩ := H
  replace H : (some (wrap64 (t107))) = some r := H
  have A4 := Aside0.mk A40
  clear A40
  obtain rfl := Option.some.inj H
  go_enter Try.func19, Try.ntmps19
  go_wp2_with (first | ((with_reducible refine gate_callee (f := 30) rfl ?_); refine goesL_ (some 13) rfl rfl Try.func30 (by kernel_rfl) rfl #[.int .u8 ((a0) % 256), .int .u8 ((a1) % 256), .int .u8 ((a2) % 256)] rfl (by (try simp only [List.map_toArray, List.map_cons, List.map_nil]); first | done | rfl | (simp only [List.length_drop, List.length_take]; rfl)) ?_; (with_reducible refine (vp8l_DoorFull.calls ((a0) % 256) ((a1) % 256) ((a2) % 256) t107 _ A4.out).mono ?_); rintro e w' ⟨rfl, ⟨nd, rfl⟩⟩; refine ⟨_, rfl, ?_⟩))
  go_ret
  exact ⟨by first | rfl | (simp; done) | (simp [*]; done), by repeat (first | exact Drawn0.refl _ | apply Drawn0.step)⟩

/-! ### vp8l_clampAddSubtractHalf: function 43 -/
def vp8l_clampAddSubtractHalf.f (a0 : Int) (a1 : Int) : Option (Int) := if (wrap32 ((wrap32 (a0)) + (wrap32 (Int.tdiv (wrap32 ((wrap32 (a0)) - (wrap32 (a1)))) 2)))) < 0 then (some 0) else (if (wrap32 ((wrap32 (a0)) + (wrap32 (Int.tdiv (wrap32 ((wrap32 (a0)) - (wrap32 (a1)))) 2)))) > 255 then (some 255) else (some ((wrap32 ((wrap32 (a0)) + (wrap32 (Int.tdiv (wrap32 ((wrap32 (a0)) - (wrap32 (a1)))) 2)))) % 256)))
set_option maxHeartbeats 8000000 in
set_option maxRecDepth 100000 in
theorem vp8l_clampAddSubtractHalf.calls (a0 : Int) (a1 : Int) (r : Int) (w : World) (h : vp8l_clampAddSubtractHalf.f a0 a1 = some r) :
    Calls Try.prog 43 #[.int .u8 a0, .int .u8 a1] w fun e w' => e = .returned (.int .u8 r) ∧ Drawn0 w w' := by
  have H : (if (wrap32 ((wrap32 (a0)) + (wrap32 (Int.tdiv (wrap32 ((wrap32 (a0)) - (wrap32 (a1)))) 2)))) < 0 then (some 0) else (if (wrap32 ((wrap32 (a0)) + (wrap32 (Int.tdiv (wrap32 ((wrap32 (a0)) - (wrap32 (a1)))) 2)))) > 255 then (some 255) else (some ((wrap32 ((wrap32 (a0)) + (wrap32 (Int.tdiv (wrap32 ((wrap32 (a0)) - (wrap32 (a1)))) 2)))) % 256)))) = some r := h
  clear h
  by_cases c3 : (wrap32 ((wrap32 (a0)) + (wrap32 (Int.tdiv (wrap32 ((wrap32 (a0)) - (wrap32 (a1)))) 2)))) < 0
  · rw [if_pos c3] at H
    have c3b0 : decide ((wrap32 ((wrap32 (a0)) + (wrap32 (Int.tdiv (wrap32 ((wrap32 (a0)) - (wrap32 (a1)))) 2)))) < 0) = true := decide_eq_true c3
    clear c3
    obtain rfl := Option.some.inj H
    go_enter Try.func43, Try.ntmps43
    go_wp2
    go_ret
    exact ⟨by first | rfl | (simp; done) | (simp [*]; done), by repeat (first | exact Drawn0.refl _ | apply Drawn0.step)⟩
  · rw [if_neg c3] at H
    have c3b0 : decide ((wrap32 ((wrap32 (a0)) + (wrap32 (Int.tdiv (wrap32 ((wrap32 (a0)) - (wrap32 (a1)))) 2)))) < 0) = false := decide_eq_false c3
    clear c3
    by_cases c4 : (wrap32 ((wrap32 (a0)) + (wrap32 (Int.tdiv (wrap32 ((wrap32 (a0)) - (wrap32 (a1)))) 2)))) > 255
    · rw [if_pos c4] at H
      have c4b0 : decide (255 < (wrap32 ((wrap32 (a0)) + (wrap32 (Int.tdiv (wrap32 ((wrap32 (a0)) - (wrap32 (a1)))) 2))))) = true := decide_eq_true c4
      clear c4
      obtain rfl := Option.some.inj H
      go_enter Try.func43, Try.ntmps43
      go_wp2
      go_ret
      exact ⟨by first | rfl | (simp; done) | (simp [*]; done), by repeat (first | exact Drawn0.refl _ | apply Drawn0.step)⟩
    · rw [if_neg c4] at H
      have c4b0 : decide (255 < (wrap32 ((wrap32 (a0)) + (wrap32 (Int.tdiv (wrap32 ((wrap32 (a0)) - (wrap32 (a1)))) 2))))) = false := decide_eq_false c4
      clear c4
      obtain rfl := Option.some.inj H
      go_enter Try.func43, Try.ntmps43
      go_wp2
      go_ret
      exact ⟨by first | rfl | (simp; done) | (simp [*]; done), by repeat (first | exact Drawn0.refl _ | apply Drawn0.step)⟩

/-! ### vp8l_DoorHalf: function 31 -/
def vp8l_DoorHalf.f (a0 : Int) (a1 : Int) : Option (Int) := (vp8l_clampAddSubtractHalf.f a0 a1).bind fun t108 => (some t108)
set_option maxHeartbeats 8000000 in
set_option maxRecDepth 100000 in
theorem vp8l_DoorHalf.calls (a0 : Int) (a1 : Int) (r : Int) (w : World) (h : vp8l_DoorHalf.f a0 a1 = some r) :
    Calls Try.prog 31 #[.int .u8 a0, .int .u8 a1] w fun e w' => e = .returned (.int .u8 r) ∧ Drawn0 w w' := by
  have H : ((vp8l_clampAddSubtractHalf.f a0 a1).bind fun t108 => (some t108)) = some r := h
  clear h
  replace H := Option.bind_eq_some_iff.mp H
  obtain ⟨t108, A30, H⟩ := H
  replace H : (some t108) = some r := H
  have A3 := Aside0.mk A30
  clear A30
  obtain rfl := Option.some.inj H
  go_enter Try.func31, Try.ntmps31
  go_wp2_with (first | ((with_reducible refine gate_callee (f := 43) rfl ?_); refine goesL_ (some 7) rfl rfl Try.func43 (by kernel_rfl) rfl #[.int .u8 a0, .int .u8 a1] rfl (by (try simp only [List.map_toArray, List.map_cons, List.map_nil]); first | done | rfl | (simp only [List.length_drop, List.length_take]; rfl)) ?_; (with_reducible refine (vp8l_clampAddSubtractHalf.calls a0 a1 t108 _ A3.out).mono ?_); rintro e w' ⟨rfl, ⟨nd, rfl⟩⟩; refine ⟨_, rfl, ?_⟩))
  go_ret
  exact ⟨by first | rfl | (simp; done) | (simp [*]; done), by repeat (first | exact Drawn0.refl _ | apply Drawn0.step)⟩

/-! ### impl_Half: function 20 -/
def impl_Half.f (a0 : Int) (a1 : Int) : Option (Int) := (vp8l_DoorHalf.f ((a0) % 256) ((a1) % 256)).bind fun t109 => (some (wrap64 (t109)))
set_option maxHeartbeats 8000000 in
set_option maxRecDepth 100000 in
theorem impl_Half.calls (a0 : Int) (a1 : Int) (r : Int) (w : World) (h : impl_Half.f a0 a1 = some r) :
    Calls Try.prog 20 #[.int .i64 a0, .int .i64 a1] w fun e w' => e = .returned (.int .i64 r) ∧ Drawn0 w w' := by
  have H : ((vp8l_DoorHalf.f ((a0) % 256) ((a1) % 256)).bind fun t109 => (some (wrap64 (t109)))) = some r := h
  clear h
  replace H := Option.bind_eq_some_iff.mp H
  obtain ⟨t109, A30, H⟩ := H
  replace H : (some (wrap64 (t109))) = some r := H
  have A3 := Aside0.mk A30
  clear A30
  obtain rfl := Option.some.inj H
  go_enter Try.func20, Try.ntmps20
  go_wp2_with (first | ((with_reducible refine gate_callee (f := 31) rfl ?_); refine goesL_ (some 9) rfl rfl Try.func31 (by kernel_rfl) rfl #[.int .u8 ((a0) % 256), .int .u8 ((a1) % 256)] rfl (by (try simp only [List.map_toArray, List.map_cons, List.map_nil]); first | done | rfl | (simp only [List.length_drop, List.length_take]; rfl)) ?_; (with_reducible refine (vp8l_DoorHalf.calls ((a0) % 256) ((a1) % 256) t109 _ A3.out).mono ?_); rintro e w' ⟨rfl, ⟨nd, rfl⟩⟩; refine ⟨_, rfl, ?_⟩))
  go_ret
  exact ⟨by first | rfl | (simp; done) | (simp [*]; done), by repeat (first | exact Drawn0.refl _ | apply Drawn0.step)⟩

/-! ### laws_readSums: function 8 -/
def laws_readSums.f  : Option (Bool) := (impl_Average.f 3 8).bind fun t110 => (if t110 = 5 then ((impl_Full.f 200 100 3).bind fun t111 => (if t111 = 255 then ((impl_Half.f 9 5).bind fun t112 => (some (t112 == 11))) else (some false))) else (some false))
set_option maxHeartbeats 8000000 in
set_option maxRecDepth 100000 in
theorem laws_readSums.calls  (r : Bool) (w : World) (h : laws_readSums.f  = some r) :
    Calls Try.prog 8 #[] w fun e w' => e = .returned (.bool r) ∧ Drawn0 w w' := by
  have H : ((impl_Average.f 3 8).bind fun t110 => (if t110 = 5 then ((impl_Full.f 200 100 3).bind fun t111 => (if t111 = 255 then ((impl_Half.f 9 5).bind fun t112 => (some (t112 == 11))) else (some false))) else (some false))) = some r := h
  clear h
  replace H := Option.bind_eq_some_iff.mp H
  obtain ⟨t110, A10, H⟩ := H
  replace H : (if t110 = 5 then ((impl_Full.f 200 100 3).bind fun t111 => (if t111 = 255 then ((impl_Half.f 9 5).bind fun t112 => (some (t112 == 11))) else (some false))) else (some false)) = some r := H
  have A1 := Aside0.mk A10
  clear A10
  by_cases c2 : t110 = 5
  · rw [if_pos c2] at H
    have c2b0 : (t110 == 5) = true := beq_iff_eq.mpr c2
    have c2b1 : (t110 != 5) = false := bne_eq_false_iff_eq.mpr c2
    clear c2
    replace H := Option.bind_eq_some_iff.mp H
    obtain ⟨t111, A30, H⟩ := H
    replace H : (if t111 = 255 then ((impl_Half.f 9 5).bind fun t112 => (some (t112 == 11))) else (some false)) = some r := H
    have A3 := Aside0.mk A30
    clear A30
    by_cases c4 : t111 = 255
    · rw [if_pos c4] at H
      have c4b0 : (t111 == 255) = true := beq_iff_eq.mpr c4
      have c4b1 : (t111 != 255) = false := bne_eq_false_iff_eq.mpr c4
      clear c4
      replace H := Option.bind_eq_some_iff.mp H
      obtain ⟨t112, A50, H⟩ := H
      replace H : (some (t112 == 11)) = some r := H
      have A5 := Aside0.mk A50
      clear A50
      obtain rfl := Option.some.inj H
      go_enter Try.func8, Try.ntmps8
      go_wp2_with (first | ((with_reducible refine gate_callee (f := 18) rfl ?_); refine goesL_ (some 1) rfl rfl Try.func18 (by kernel_rfl) rfl #[.int .i64 3, .int .i64 8] rfl (by (try simp only [List.map_toArray, List.map_cons, List.map_nil]); first | done | rfl | (simp only [List.length_drop, List.length_take]; rfl)) ?_; (with_reducible refine (impl_Average.calls 3 8 t110 _ A1.out).mono ?_); rintro e w' ⟨rfl, ⟨nd, rfl⟩⟩; refine ⟨_, rfl, ?_⟩) | (go_at_call 19; (with_reducible refine (impl_Full.calls 200 100 3 t111 _ A3.out).mono ?_); rintro e w' ⟨rfl, ⟨nd, rfl⟩⟩) | (go_at_call 20; (with_reducible refine (impl_Half.calls 9 5 t112 _ A5.out).mono ?_); rintro e w' ⟨rfl, ⟨nd, rfl⟩⟩))
      go_ret
      exact ⟨by first | rfl | (simp; done) | (simp [*]; done), by repeat (first | exact Drawn0.refl _ | apply Drawn0.step)⟩
    · rw [if_neg c4] at H
      have c4b0 : (t111 == 255) = false := beq_eq_false_iff_ne.mpr c4
      have c4b1 : (t111 != 255) = true := bne_iff_ne.mpr c4
      obtain rfl := Option.some.inj H
      go_enter Try.func8, Try.ntmps8
      go_wp2_with (first | ((with_reducible refine gate_callee (f := 18) rfl ?_); refine goesL_ (some 1) rfl rfl Try.func18 (by kernel_rfl) rfl #[.int .i64 3, .int .i64 8] rfl (by (try simp only [List.map_toArray, List.map_cons, List.map_nil]); first | done | rfl | (simp only [List.length_drop, List.length_take]; rfl)) ?_; (with_reducible refine (impl_Average.calls 3 8 t110 _ A1.out).mono ?_); rintro e w' ⟨rfl, ⟨nd, rfl⟩⟩; refine ⟨_, rfl, ?_⟩) | (go_at_call 19; (with_reducible refine (impl_Full.calls 200 100 3 t111 _ A3.out).mono ?_); rintro e w' ⟨rfl, ⟨nd, rfl⟩⟩))
      go_ret
      exact ⟨by first | rfl | (simp; done) | (simp [*]; done), by repeat (first | exact Drawn0.refl _ | apply Drawn0.step)⟩
  · rw [if_neg c2] at H
    have c2b0 : (t110 == 5) = false := beq_eq_false_iff_ne.mpr c2
    have c2b1 : (t110 != 5) = true := bne_iff_ne.mpr c2
    obtain rfl := Option.some.inj H
    go_enter Try.func8, Try.ntmps8
    go_wp2_with (first | ((with_reducible refine gate_callee (f := 18) rfl ?_); refine goesL_ (some 1) rfl rfl Try.func18 (by kernel_rfl) rfl #[.int .i64 3, .int .i64 8] rfl (by (try simp only [List.map_toArray, List.map_cons, List.map_nil]); first | done | rfl | (simp only [List.length_drop, List.length_take]; rfl)) ?_; (with_reducible refine (impl_Average.calls 3 8 t110 _ A1.out).mono ?_); rintro e w' ⟨rfl, ⟨nd, rfl⟩⟩; refine ⟨_, rfl, ?_⟩))
    go_ret
    exact ⟨by first | rfl | (simp; done) | (simp [*]; done), by repeat (first | exact Drawn0.refl _ | apply Drawn0.step)⟩

/-! ### laws_bytes: function 9 -/
def laws_bytes.l0 : Nat → List Int → List Int → Int → Option (Bool)
  | 0, _, _, _ => none
  | k + 1, x0, x1, x5 => if x5 < (x0.length : Int) then (if 0 ≤ x5 then (if x5 < (x1.length : Int) then (if (rd x0 x5) = (rd x1 x5) then (laws_bytes.l0 k x0 x1 (wrap64 (x5 + 1))) else (some false)) else (none)) else (none)) else (some true)
def laws_bytes.f (k : Nat) (l0 : List Int) (l1 : List Int) : Option (Bool) := if (l0.length : Int) = (l1.length : Int) then (laws_bytes.l0 k l0 l1 0) else (some false)
theorem laws_bytes.mono_l : ∀ k, (∀ y0 y1 y2, LeO (laws_bytes.l0 k y0 y1 y2) (laws_bytes.l0 (k + 1) y0 y1 y2))
  | 0 => fun _ _ _ r h => by simp [laws_bytes.l0] at h
  | k + 1 => by
    have ih0 := laws_bytes.mono_l k
    · intro y0 y1 y2
      unfold laws_bytes.l0
      repeat' first
      | (with_reducible exact ih0 _ _ _)
      | (with_reducible exact LeO.refl _)
      | (with_reducible exact LeO.none _)
      | (with_reducible refine LeO.ite ?_ ?_)
      | (with_reducible refine LeO.bind ?_ (fun _ => ?_))
      | exact ih0 _ _ _
      | exact LeO.none _
      | refine LeO.ite ?_ ?_
      | refine LeO.bind ?_ (fun _ => ?_)
theorem laws_bytes.mono : ∀ a0 a1 k, LeO (laws_bytes.f k a0 a1) (laws_bytes.f (k + 1) a0 a1) := by
  intro a0 a1 k
  have ih0 := laws_bytes.mono_l k
  unfold laws_bytes.f
  repeat' first
      | (with_reducible exact ih0 _ _ _)
      | (with_reducible exact LeO.refl _)
      | (with_reducible exact LeO.none _)
      | (with_reducible refine LeO.ite ?_ ?_)
      | (with_reducible refine LeO.bind ?_ (fun _ => ?_))
      | exact ih0 _ _ _
      | exact LeO.none _
      | refine LeO.ite ?_ ?_
      | refine LeO.bind ?_ (fun _ => ?_)
set_option maxHeartbeats 8000000 in
set_option maxRecDepth 100000 in
theorem laws_bytes.calls (k : Nat) (A0 : Option Addr) (c0 : Nat) (l0 : List Int) (A1 : Option Addr) (c1 : Nat) (l1 : List Int) (r : Bool) (w : World) (hr0 : Kd.C (Kd.int .u8) w A0 l0.length l0) (hc0 : l0.length ≤ c0) (hr1 : Kd.C (Kd.int .u8) w A1 l1.length l1) (hc1 : l1.length ≤ c1) (h : laws_bytes.f k l0 l1 = some r) :
    Calls Try.prog 9 #[.slice A0 l0.length c0, .slice A1 l1.length c1] w fun e w' => e = .returned (.bool r) ∧ Drawn0 w w' := by
  have HR0 := Aside0.mk hr0
  have HC0 := Aside0.mk hc0
  clear hr0 hc0
  have HR1 := Aside0.mk hr1
  have HC1 := Aside0.mk hc1
  clear hr1 hc1
  have H : (if (l0.length : Int) = (l1.length : Int) then (laws_bytes.l0 k l0 l1 0) else (some false)) = some r := h
  clear h
  by_cases c3 : (l0.length : Int) = (l1.length : Int)
  · rw [if_pos c3] at H
    have c3b0 : ((l0.length : Int) == (l1.length : Int)) = true := beq_iff_eq.mpr c3
    have c3b1 : ((l0.length : Int) != (l1.length : Int)) = false := bne_eq_false_iff_eq.mpr c3
    have c3b2 : (l0.length == l1.length) = true := by first | simpa using c3 | (simp at c3 ⊢; omega)
    clear c3
    have H' := Aside0.mk H
    clear H
    go_enter Try.func9, Try.ntmps9
    go_wp2
    repeat (go_quiet (fail); try go_wp2)
    go_loopg [5] k (fun kq v5 w' => ∃ (x5_1 : Int), v5 = .int .i64 x5_1 ∧ Aside0 (laws_bytes.l0 kq l0 l1 x5_1 = some r) ∧ Aside0 (kq ≤ k) ∧ Drawn0 w w')
    case atStart => exact ⟨(0), (by first | rfl | (simp; done) | (simp [*]; done)), H', ⟨Nat.le_refl _⟩, by repeat (first | exact Drawn0.refl _ | apply Drawn0.step)⟩
    case round =>
      clear H'
      try clear c1
      try clear p2
      try clear c3
      try clear c3b0
      try clear c3b1
      try clear c3b2
      obtain ⟨x5_1, rfl, HA, HK1, ⟨m1, rfl⟩⟩ := hrel
      cases gk with
      | zero => exact absurd HA.out (by simp [laws_bytes.l0])
      | succ k1 =>
        have H := HA.out
        clear HA
        simp only [laws_bytes.l0] at H
        by_cases c4 : x5_1 < (l0.length : Int)
        · rw [if_pos c4] at H
          have c4b0 : decide (x5_1 < (l0.length : Int)) = true := decide_eq_true c4
          clear c4
          by_cases c5 : 0 ≤ x5_1
          · rw [if_pos c5] at H
            have c5b0 : decide (0 ≤ x5_1) = true := decide_eq_true c5
            clear c5
            by_cases c6 : x5_1 < (l1.length : Int)
            · rw [if_pos c6] at H
              have c6b0 : decide (x5_1 < (l1.length : Int)) = true := decide_eq_true c6
              clear c6
              by_cases c7 : (rd l0 x5_1) = (rd l1 x5_1)
              · rw [if_pos c7] at H
                have c7b0 : ((rd l0 x5_1) == (rd l1 x5_1)) = true := beq_iff_eq.mpr c7
                have c7b1 : ((rd l0 x5_1) != (rd l1 x5_1)) = false := bne_eq_false_iff_eq.mpr c7
                clear c7
                have H' := Aside0.mk H
                clear H
                have p113 : 0 ≤ (x5_1 : Int) := of_decide_eq_true (by first | (with_reducible assumption) | assumption)
                have q113 : x5_1 < (l0.length : Int) := of_decide_eq_true (by first | (with_reducible assumption) | assumption)
                obtain ⟨ad113, e113, hx113_0⟩ := Kd.at_int HR0.out x5_1 p113 q113
                cases e113
                replace p113 := eq_true p113
                replace q113 := eq_true q113
                have p114 : 0 ≤ (x5_1 : Int) := of_decide_eq_true (by first | (with_reducible assumption) | assumption)
                have q114 : x5_1 < (l1.length : Int) := of_decide_eq_true (by first | (with_reducible assumption) | assumption)
                obtain ⟨ad114, e114, hx114_0⟩ := Kd.at_int HR1.out x5_1 p114 q114
                cases e114
                replace p114 := eq_true p114
                replace q114 := eq_true q114
                go_wp2
                repeat (go_quiet (fail); try go_wp2)
                go_roundg k1
                case measure => have := HK1.out; omega
                case rel => exact ⟨(wrap64 (x5_1 + 1)), (by first | rfl | (simp; done) | (simp [*]; done)), H', ⟨by have := HK1.out; omega⟩, by repeat (first | exact Drawn0.refl _ | apply Drawn0.step)⟩
              · rw [if_neg c7] at H
                have c7b0 : ((rd l0 x5_1) == (rd l1 x5_1)) = false := beq_eq_false_iff_ne.mpr c7
                have c7b1 : ((rd l0 x5_1) != (rd l1 x5_1)) = true := bne_iff_ne.mpr c7
                obtain rfl := Option.some.inj H
                have p113 : 0 ≤ (x5_1 : Int) := of_decide_eq_true (by first | (with_reducible assumption) | assumption)
                have q113 : x5_1 < (l0.length : Int) := of_decide_eq_true (by first | (with_reducible assumption) | assumption)
                obtain ⟨ad113, e113, hx113_0⟩ := Kd.at_int HR0.out x5_1 p113 q113
                cases e113
                replace p113 := eq_true p113
                replace q113 := eq_true q113
                have p114 : 0 ≤ (x5_1 : Int) := of_decide_eq_true (by first | (with_reducible assumption) | assumption)
                have q114 : x5_1 < (l1.length : Int) := of_decide_eq_true (by first | (with_reducible assumption) | assumption)
                obtain ⟨ad114, e114, hx114_0⟩ := Kd.at_int HR1.out x5_1 p114 q114
                cases e114
                replace p114 := eq_true p114
                replace q114 := eq_true q114
                go_wp2
                repeat (go_quiet (fail); try go_wp2)
                go_ret
                exact ⟨by first | rfl | (simp; done) | (simp [*]; done), by repeat (first | exact Drawn0.refl _ | apply Drawn0.step)⟩
            · rw [if_neg c6] at H
              exact absurd H (by simp)
          · rw [if_neg c5] at H
            exact absurd H (by simp)
        · rw [if_neg c4] at H
          have c4b0 : decide (x5_1 < (l0.length : Int)) = false := decide_eq_false c4
          clear c4
          obtain rfl := Option.some.inj H
          go_wp2
          repeat (go_quiet (fail); try go_wp2)
          go_ret
          exact ⟨by first | rfl | (simp; done) | (simp [*]; done), by repeat (first | exact Drawn0.refl _ | apply Drawn0.step)⟩
  · rw [if_neg c3] at H
    have c3b0 : ((l0.length : Int) == (l1.length : Int)) = false := beq_eq_false_iff_ne.mpr c3
    have c3b1 : ((l0.length : Int) != (l1.length : Int)) = true := bne_iff_ne.mpr c3
    have c3b2 : (l0.length == l1.length) = false := by first | simpa using c3 | (simp at c3 ⊢; omega)
    obtain rfl := Option.some.inj H
    go_enter Try.func9, Try.ntmps9
    go_wp2
    repeat (go_quiet (fail); try go_wp2)
    go_ret
    exact ⟨by first | rfl | (simp; done) | (simp [*]; done), by repeat (first | exact Drawn0.refl _ | apply Drawn0.step)⟩

/-! ### vp8l_nTiles: function 44 -/
def vp8l_nTiles.f (a0 : Int) (a1 : Int) : Option (Int) := if 0 ≤ a1 then (some (shr .i32 (wrap32 ((wrap32 (a0 + (shl .i32 1 a1))) - 1)) a1)) else (none)
set_option maxHeartbeats 8000000 in
set_option maxRecDepth 100000 in
theorem vp8l_nTiles.calls (a0 : Int) (a1 : Int) (r : Int) (w : World) (h : vp8l_nTiles.f a0 a1 = some r) :
    Calls Try.prog 44 #[.int .i32 a0, .int .u32 a1] w fun e w' => e = .returned (.int .i32 r) ∧ Drawn0 w w' := by
  have H : (if 0 ≤ a1 then (some (shr .i32 (wrap32 ((wrap32 (a0 + (shl .i32 1 a1))) - 1)) a1)) else (none)) = some r := h
  clear h
  by_cases c3 : 0 ≤ a1
  · rw [if_pos c3] at H
    have c3b0 := eq_true c3
    have c3b1 : decide (0 ≤ a1) = true := decide_eq_true c3
    clear c3
    obtain ⟨ji4, hji4⟩ : ∃ j_ : Int, (shl .i32 1 a1) = j_ := ⟨_, rfl⟩
    replace H : (some (shr .i32 (wrap32 ((wrap32 (a0 + (ji4))) - 1)) a1)) = some r := by first | (rw [hji4] at H; exact H) | (simp only [hji4] at H ⊢; exact H)
    have hji4_ : (IntKind.i32.wrap (1 * 2 ^ min a1.toNat 32)) = ji4 := hji4
    have hji4z : a1 ≤ 32 → (IntKind.i32.wrap (1 * 2 ^ a1.toNat)) = ji4 := shl_small hji4
    have hji4u : (IntKind.i32.wrap (2 ^ min a1.toNat 32)) = ji4 := by have h_ := hji4_; rw [Int.one_mul] at h_; exact h_
    have hji4v : a1 ≤ 32 → (IntKind.i32.wrap (2 ^ a1.toNat)) = ji4 := fun hle_ => by have h_ := hji4z hle_; rw [Int.one_mul] at h_; exact h_
    have hji4y : (wrap32 (1 * 2 ^ min a1.toNat 32)) = ji4 := (i32_w _).symm.trans hji4_
    have hji4x : a1 ≤ 32 → (wrap32 (1 * 2 ^ a1.toNat)) = ji4 := fun h_ => (i32_w _).symm.trans (hji4z h_)
    have c5b0 := eq_true (of_decide_eq_true (by first | (with_reducible assumption) | assumption) : 0 ≤ a1)
    obtain ⟨ji6, hji6⟩ : ∃ j_ : Int, (shr .i32 (wrap32 ((wrap32 (a0 + (ji4))) - 1)) a1) = j_ := ⟨_, rfl⟩
    replace H : (some ji6) = some r := by first | (rw [hji6] at H; exact H) | (simp only [hji6] at H ⊢; exact H)
    have hji6_ : ((wrap32 ((wrap32 (a0 + (ji4))) - 1)) / 2 ^ min a1.toNat 32) = ji6 := hji6
    have hji6z : a1 ≤ 32 → ((wrap32 ((wrap32 (a0 + (ji4))) - 1)) / 2 ^ a1.toNat) = ji6 := shr_small hji6
    obtain rfl := Option.some.inj H
    go_enter Try.func44, Try.ntmps44
    go_wp2
    go_ret
    exact ⟨by first | rfl | (simp; done) | (simp only [← hji4, ← hji6] <;> (first | rfl | simp)) | (simp [*]; done), by repeat (first | exact Drawn0.refl _ | apply Drawn0.step)⟩
  · rw [if_neg c3] at H
    exact absurd H (by simp)

/-! ### vp8l_abs: function 45 -/
def vp8l_abs.f (a0 : Int) : Option (Int) := if a0 < 0 then (some (wrap32 (-a0))) else (some a0)
set_option maxHeartbeats 8000000 in
set_option maxRecDepth 100000 in
theorem vp8l_abs.calls (a0 : Int) (r : Int) (w : World) (h : vp8l_abs.f a0 = some r) :
    Calls Try.prog 45 #[.int .i32 a0] w fun e w' => e = .returned (.int .i32 r) ∧ Drawn0 w w' := by
  have H : (if a0 < 0 then (some (wrap32 (-a0))) else (some a0)) = some r := h
  clear h
  by_cases c2 : a0 < 0
  · rw [if_pos c2] at H
    have c2b0 : decide (a0 < 0) = true := decide_eq_true c2
    clear c2
    obtain rfl := Option.some.inj H
    go_enter Try.func45, Try.ntmps45
    go_wp2
    go_ret
    exact ⟨by first | rfl | (simp; done) | (simp [*]; done), by repeat (first | exact Drawn0.refl _ | apply Drawn0.step)⟩
  · rw [if_neg c2] at H
    have c2b0 : decide (a0 < 0) = false := decide_eq_false c2
    clear c2
    obtain rfl := Option.some.inj H
    go_enter Try.func45, Try.ntmps45
    go_wp2
    go_ret
    exact ⟨by first | rfl | (simp; done) | (simp [*]; done), by repeat (first | exact Drawn0.refl _ | apply Drawn0.step)⟩

-- NOT PRINTED: function 32 (vp8l_inversePredictor)

-- NOT PRINTED: function 21 (vp8l_DoorPredictor)

-- NOT PRINTED: function 22 (bytes_Clone)

-- NOT PRINTED: function 10 (impl_Predictor)

/-! ### laws_pixel: function 26 -/
def laws_pixel.f (a0 : Int) (a1 : Int) (a2 : Int) (a3 : Int) : Option (Int) := some (Go.bits .or .u32 (Go.bits .or .u32 (Go.bits .or .u32 ((((Go.bits .and .i64 a3 255) % 4294967296) * 16777216) % 4294967296) ((((Go.bits .and .i64 a2 255) % 4294967296) * 65536) % 4294967296)) ((((Go.bits .and .i64 a1 255) % 4294967296) * 256) % 4294967296)) ((Go.bits .and .i64 a0 255) % 4294967296))
set_option maxHeartbeats 8000000 in
set_option maxRecDepth 100000 in
theorem laws_pixel.calls (a0 : Int) (a1 : Int) (a2 : Int) (a3 : Int) (r : Int) (w : World) (h : laws_pixel.f a0 a1 a2 a3 = some r) :
    Calls Try.prog 26 #[.int .i64 a0, .int .i64 a1, .int .i64 a2, .int .i64 a3] w fun e w' => e = .returned (.int .u32 r) ∧ Drawn0 w w' := by
  have H : (some (Go.bits .or .u32 (Go.bits .or .u32 (Go.bits .or .u32 ((((Go.bits .and .i64 a3 255) % 4294967296) * 16777216) % 4294967296) ((((Go.bits .and .i64 a2 255) % 4294967296) * 65536) % 4294967296)) ((((Go.bits .and .i64 a1 255) % 4294967296) * 256) % 4294967296)) ((Go.bits .and .i64 a0 255) % 4294967296))) = some r := h
  clear h
  obtain rfl := Option.some.inj H
  go_enter Try.func26, Try.ntmps26
  go_wp2
  go_ret
  exact ⟨by first | rfl | (simp; done) | (simp [*]; done), by repeat (first | exact Drawn0.refl _ | apply Drawn0.step)⟩

end Go.Proofs.Ytgjcikajfnlocaa.PFnPredictorBack
