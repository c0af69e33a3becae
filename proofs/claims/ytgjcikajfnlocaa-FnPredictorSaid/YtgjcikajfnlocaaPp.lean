/-
  OUR OWN: THE PLAIN LAW: what the reference makes of the pixels (the printed 'spec_Predictor.f') is what inversePredictor makes of them ('ipx').
-/
import Derived.Test.YtgjcikajfnlocaaSe
import Derived.Test.YtgjcikajfnlocaaPFnPredictorx
namespace Go.Proofs.Ytgjcikajfnlocaa
open Go.RowKit Go.Proofs.Ytgjcikajfnlocaa.PFnPredictor Go.Proofs.YtgjcikajfnlocaaW.PrintWords Go.Proofs.YtgjcikajfnlocaaW.PrintLast
set_option linter.unusedVariables false

/-- Four bytes as a number: red, green, blue, alpha. -/
def pk (r g b a : Int) : Int := a * 16777216 + r * 65536 + g * 256 + b
theorem wrap64_lit {n : Int} (h1 : -9223372036854775808 ≤ n) (h2 : n ≤ 9223372036854775807) : wrap64 n = n := by unfold wrap64; omega
theorem w8_0 : wrap64 (8 * 0) = 0 := by unfold wrap64; omega
theorem w8_1 : wrap64 (8 * 1) = 8 := by unfold wrap64; omega
theorem w8_2 : wrap64 (8 * 2) = 16 := by unfold wrap64; omega
theorem w8_3 : wrap64 (8 * 3) = 24 := by unfold wrap64; omega
theorem w1_0 : wrap64 (0 + 1) = 1 := by unfold wrap64; omega
theorem w1_1 : wrap64 (1 + 1) = 2 := by unfold wrap64; omega
theorem w1_2 : wrap64 (2 + 1) = 3 := by unfold wrap64; omega
theorem w1_3 : wrap64 (3 + 1) = 4 := by unfold wrap64; omega
theorem or_shl {x y : Int} (s : Nat) (hs : s ≤ 24) (h0 : 0 ≤ x) (h1 : x < 2 ^ s) (hy : isByte y) : Go.bits .or .u32 x (shl .u32 y (s : Int)) = x + y * 2 ^ s := by
  obtain ⟨y0, y1⟩ := hy
  obtain ⟨X, rfl⟩ := Int.eq_ofNat_of_zero_le h0
  obtain ⟨Y, rfl⟩ := Int.eq_ofNat_of_zero_le y0
  have h1' : X < 2 ^ s := by exact_mod_cast h1
  have hp : 2 ^ s ≤ 2 ^ 24 := Nat.pow_le_pow_right (by omega) hs
  have hY : Y < 256 := by omega
  have hYs : Y * 2 ^ s ≤ 255 * 2 ^ 24 := Nat.mul_le_mul (by omega) hp
  have e : shl .u32 ((Y : Nat) : Int) (s : Int) = ((Y * 2 ^ s : Nat) : Int) := by
    unfold shl
    rw [show min (s : Int).toNat IntKind.u32.bits = s by simp only [IntKind.bits, Int.toNat_natCast]; omega]
    exact u32_eq (by simp) (by omega) (by omega)
  rw [e, u32_or_nat _ _ (by omega) (by omega)]
  have : X ||| Y * 2 ^ s = X + Y * 2 ^ s := by
    rw [← Nat.shiftLeft_eq, Nat.or_comm, ← Nat.shiftLeft_add_eq_or_of_lt h1', Nat.add_comm]
  rw [this]
  simp
theorem part_pk {r g b a : Int} (hr : isByte r) (hg : isByte g) (hb : isByte b) (ha : isByte a) :
    spec_part.f (pk r g b a) 0 = some b ∧ spec_part.f (pk r g b a) 1 = some g ∧ spec_part.f (pk r g b a) 2 = some r ∧ spec_part.f (pk r g b a) 3 = some a := by
  obtain ⟨r0, r1⟩ := hr
  obtain ⟨g0, g1⟩ := hg
  obtain ⟨b0, b1⟩ := hb
  obtain ⟨a0, a1⟩ := ha
  have key : ∀ (x : Int) (s : Nat), 0 ≤ x → x < 4294967296 → s ≤ 24 → Go.bits .and .u32 (shr .u32 x (s : Int)) 255 = x / 2 ^ s % 256 := by
    intro x s h0 h1 hs
    obtain ⟨X, rfl⟩ := Int.eq_ofNat_of_zero_le h0
    unfold shr
    rw [show min (s : Int).toNat IntKind.u32.bits = s by simp only [IntKind.bits, Int.toNat_natCast]; omega]
    have e : ((X : Nat) : Int) / 2 ^ s = ((X / 2 ^ s : Nat) : Int) := by simp
    rw [e, show (255 : Int) = ((255 : Nat) : Int) from rfl, u32_and_nat _ _ (Nat.lt_of_le_of_lt (Nat.div_le_self _ _) (by omega)) (by decide)]
    have := Nat.and_two_pow_sub_one_eq_mod (X / 2 ^ s) 8
    rw [show (2 ^ 8 - 1 : Nat) = 255 from rfl] at this
    rw [this]
    simp
  have hp0 : 0 ≤ pk r g b a := by unfold pk; omega
  have hp1 : pk r g b a < 4294967296 := by unfold pk; omega
  refine ⟨?_, ?_, ?_, ?_⟩
  · unfold spec_part.f
    rw [w8_0, if_pos (by decide), show (0 : Int) = ((0 : Nat) : Int) from rfl, key _ 0 hp0 hp1 (by decide)]
    rw [wrap64_lit (by omega) (by omega)]
    unfold pk; congr 1; omega
  · unfold spec_part.f
    rw [w8_1, if_pos (by decide), show (8 : Int) = ((8 : Nat) : Int) from rfl, key _ 8 hp0 hp1 (by decide)]
    rw [wrap64_lit (by omega) (by omega)]
    unfold pk; congr 1; omega
  · unfold spec_part.f
    rw [w8_2, if_pos (by decide), show (16 : Int) = ((16 : Nat) : Int) from rfl, key _ 16 hp0 hp1 (by decide)]
    rw [wrap64_lit (by omega) (by omega)]
    unfold pk; congr 1; omega
  · unfold spec_part.f
    rw [w8_3, if_pos (by decide), show (24 : Int) = ((24 : Nat) : Int) from rfl, key _ 24 hp0 hp1 (by decide)]
    rw [wrap64_lit (by omega) (by omega)]
    unfold pk; congr 1; omega
/-- Four bytes put together, the lowest one first. -/
theorem or4 {v0 v1 v2 v3 : Int} (h0 : isByte v0) (h1 : isByte v1) (h2 : isByte v2) (h3 : isByte v3) :
    Go.bits .or .u32 (Go.bits .or .u32 (Go.bits .or .u32 (Go.bits .or .u32 0 (shl .u32 v0 0)) (shl .u32 v1 8)) (shl .u32 v2 16)) (shl .u32 v3 24) = pk v2 v1 v0 v3 := by
  have e0 := or_shl (x := 0) (y := v0) 0 (by decide) (by decide) (by decide) h0
  have b0 := h0; have b1 := h1; have b2 := h2
  obtain ⟨p0, q0⟩ := b0
  obtain ⟨p1, q1⟩ := b1
  obtain ⟨p2, q2⟩ := b2
  rw [show ((0 : Nat) : Int) = 0 from rfl] at e0
  rw [e0]
  have e1 := or_shl (x := 0 + v0 * 2 ^ 0) (y := v1) 8 (by decide) (by omega) (by omega) h1
  rw [show ((8 : Nat) : Int) = 8 from rfl] at e1
  rw [e1]
  have e2 := or_shl (x := 0 + v0 * 2 ^ 0 + v1 * 2 ^ 8) (y := v2) 16 (by decide) (by omega) (by omega) h2
  rw [show ((16 : Nat) : Int) = 16 from rfl] at e2
  rw [e2]
  have e3 := or_shl (x := 0 + v0 * 2 ^ 0 + v1 * 2 ^ 8 + v2 * 2 ^ 16) (y := v3) 24 (by decide) (by omega) (by omega) h3
  rw [show ((24 : Nat) : Int) = 24 from rfl] at e3
  rw [e3]
  unfold pk
  omega

theorem c04 : ((0 : Int) < 4) := by omega
theorem c14 : ((1 : Int) < 4) := by omega
theorem c24 : ((2 : Int) < 4) := by omega
theorem c34 : ((3 : Int) < 4) := by omega
theorem c44 : ¬ ((4 : Int) < 4) := by omega
theorem gz : (0 : Int) ≤ 0 := by omega
theorem g8 : (0 : Int) ≤ 8 := by omega
theorem g16 : (0 : Int) ≤ 16 := by omega
theorem g24 : (0 : Int) ≤ 24 := by omega
theorem mean_step (k : Nat) (x0 x1 x5 x6 s x6' t u v : Int) (h : x6 < 4) (h0 : spec_part.f x0 x6 = some t) (h1 : spec_part.f x1 x6 = some u) (hs : wrap64 (8 * x6) = s) (hs0 : 0 ≤ s) (h6 : wrap64 (x6 + 1) = x6')
    (hv : wrap64 (Int.tdiv (wrap64 (t + u)) 2) % 4294967296 = v) :
    spec_mean.l0 (k + 1) x0 x1 x5 x6 = spec_mean.l0 k x0 x1 (Go.bits .or .u32 x5 (shl .u32 v s)) x6' := by
  rw [spec_mean.l0, if_pos h, h0, Option.bind_some, h1, Option.bind_some, hs, if_pos hs0, hv, h6]
theorem mean_end (k : Nat) (x0 x1 x5 : Int) : spec_mean.l0 (k + 1) x0 x1 x5 4 = some x5 := by
  rw [spec_mean.l0, if_neg c44]
theorem mean_one {x y : Int} : isByte x → isByte y → wrap64 (Int.tdiv (wrap64 (x + y)) 2) % 4294967296 = avg x y := by
    rintro ⟨x0, x1⟩ ⟨y0, y1⟩
    rw [wrap64_lit (n := x + y) (by omega) (by omega), Int.tdiv_eq_ediv_of_nonneg (by omega), wrap64_lit (n := (x + y) / 2) (by omega) (by omega)]
    unfold avg; omega
theorem mean_pk {r g b a r' g' b' a' : Int} (hr : isByte r) (hg : isByte g) (hb : isByte b) (ha : isByte a) (hr' : isByte r') (hg' : isByte g') (hb' : isByte b') (ha' : isByte a') (k : Nat) :
    spec_mean.f (k + 5) (pk r g b a) (pk r' g' b' a') = some (pk (avg r r') (avg g g') (avg b b') (avg a a')) := by
  obtain ⟨p0, p1, p2, p3⟩ := part_pk hr hg hb ha
  obtain ⟨q0, q1, q2, q3⟩ := part_pk hr' hg' hb' ha'
  rw [← or4 (avg_byte hb hb') (avg_byte hg hg') (avg_byte hr hr') (avg_byte ha ha')]
  rw [spec_mean.f, mean_step (k + 4) _ _ _ _ _ _ _ _ _ c04 p0 q0 w8_0 gz w1_0 (mean_one hb hb'), mean_step (k + 3) _ _ _ _ _ _ _ _ _ c14 p1 q1 w8_1 g8 w1_1 (mean_one hg hg'),
    mean_step (k + 2) _ _ _ _ _ _ _ _ _ c24 p2 q2 w8_2 g16 w1_2 (mean_one hr hr'), mean_step (k + 1) _ _ _ _ _ _ _ _ _ c34 p3 q3 w8_3 g24 w1_3 (mean_one ha ha'), mean_end]
theorem full_step (k : Nat) (x0 x1 x2 x5 x6 s x6' t u u2 v : Int) (h : x6 < 4) (h0 : spec_part.f x0 x6 = some t) (h1 : spec_part.f x1 x6 = some u) (h2 : spec_part.f x2 x6 = some u2) (hs : wrap64 (8 * x6) = s) (hs0 : 0 ≤ s) (h6 : wrap64 (x6 + 1) = x6')
    (hv : spec_clamped.f (wrap64 (wrap64 (t + u) - u2)) = some v) :
    spec_full.l0 (k + 1) x0 x1 x2 x5 x6 = spec_full.l0 k x0 x1 x2 (Go.bits .or .u32 x5 (shl .u32 v s)) x6' := by
  rw [spec_full.l0, if_pos h, h0, Option.bind_some, h1, Option.bind_some, h2, Option.bind_some, hv, Option.bind_some, hs, if_pos hs0, h6]
theorem full_end (k : Nat) (x0 x1 x2 x5 : Int) : spec_full.l0 (k + 1) x0 x1 x2 x5 4 = some x5 := by
  rw [spec_full.l0, if_neg c44]
theorem clamped_eq (v : Int) : spec_clamped.f v = some (if v < 0 then 0 else if v > 255 then 255 else v) := by
  unfold spec_clamped.f mn mx
  congr 1
  repeat' split
  all_goals omega
theorem full_one {x y z : Int} : isByte x → isByte y → isByte z → spec_clamped.f (wrap64 (wrap64 (x + y) - z)) = some (clampF x y z) := by
    rintro ⟨x0, x1⟩ ⟨y0, y1⟩ ⟨z0, z1⟩
    rw [wrap64_lit (n := x + y) (by omega) (by omega), wrap64_lit (by omega) (by omega), clamped_eq]
    unfold clampF
    rfl
theorem full_pk {r g b a r' g' b' a' r2 g2 b2 a2 : Int} (hr : isByte r) (hg : isByte g) (hb : isByte b) (ha : isByte a) (hr' : isByte r') (hg' : isByte g') (hb' : isByte b') (ha' : isByte a')
    (hr2 : isByte r2) (hg2 : isByte g2) (hb2 : isByte b2) (ha2 : isByte a2) (k : Nat) :
    spec_full.f (k + 5) (pk r g b a) (pk r' g' b' a') (pk r2 g2 b2 a2) = some (pk (clampF r r' r2) (clampF g g' g2) (clampF b b' b2) (clampF a a' a2)) := by
  obtain ⟨p0, p1, p2, p3⟩ := part_pk hr hg hb ha
  obtain ⟨q0, q1, q2, q3⟩ := part_pk hr' hg' hb' ha'
  obtain ⟨s0, s1, s2, s3⟩ := part_pk hr2 hg2 hb2 ha2
  rw [← or4 (clampF_byte _ _ _) (clampF_byte _ _ _) (clampF_byte _ _ _) (clampF_byte _ _ _)]
  rw [spec_full.f, full_step (k + 4) _ _ _ _ _ _ _ _ _ _ _ c04 p0 q0 s0 w8_0 gz w1_0 (full_one hb hb' hb2), full_step (k + 3) _ _ _ _ _ _ _ _ _ _ _ c14 p1 q1 s1 w8_1 g8 w1_1 (full_one hg hg' hg2),
    full_step (k + 2) _ _ _ _ _ _ _ _ _ _ _ c24 p2 q2 s2 w8_2 g16 w1_2 (full_one hr hr' hr2), full_step (k + 1) _ _ _ _ _ _ _ _ _ _ _ c34 p3 q3 s3 w8_3 g24 w1_3 (full_one ha ha' ha2), full_end]
theorem half_step (k : Nat) (x0 x1 x5 x6 s x6' t u v : Int) (h : x6 < 4) (h0 : spec_part.f x0 x6 = some t) (h1 : spec_part.f x1 x6 = some u) (hs : wrap64 (8 * x6) = s) (hs0 : 0 ≤ s) (h6 : wrap64 (x6 + 1) = x6')
    (hv : spec_clamped.f (wrap64 (t + wrap64 (Int.tdiv (wrap64 (t - u)) 2))) = some v) :
    spec_half.l0 (k + 1) x0 x1 x5 x6 = spec_half.l0 k x0 x1 (Go.bits .or .u32 x5 (shl .u32 v s)) x6' := by
  rw [spec_half.l0, if_pos h, h0, Option.bind_some, Option.bind_some, h1, Option.bind_some, hv, Option.bind_some, hs, if_pos hs0, h6]
theorem half_end (k : Nat) (x0 x1 x5 : Int) : spec_half.l0 (k + 1) x0 x1 x5 4 = some x5 := by
  rw [spec_half.l0, if_neg c44]
theorem half_one {x y : Int} : isByte x → isByte y → spec_clamped.f (wrap64 (x + wrap64 (Int.tdiv (wrap64 (x - y)) 2))) = some (clampH x y) := by
    rintro ⟨x0, x1⟩ ⟨y0, y1⟩
    obtain ⟨t0, t1⟩ := tdiv2 (x - y) (by omega) (by omega)
    rw [wrap64_lit (n := x - y) (by omega) (by omega), wrap64_lit (n := (x - y).tdiv 2) (by omega) (by omega), wrap64_lit (by omega) (by omega), clamped_eq]
    unfold clampH
    rfl
theorem half_pk {r g b a r' g' b' a' : Int} (hr : isByte r) (hg : isByte g) (hb : isByte b) (ha : isByte a) (hr' : isByte r') (hg' : isByte g') (hb' : isByte b') (ha' : isByte a') (k : Nat) :
    spec_half.f (k + 5) (pk r g b a) (pk r' g' b' a') = some (pk (clampH r r') (clampH g g') (clampH b b') (clampH a a')) := by
  obtain ⟨p0, p1, p2, p3⟩ := part_pk hr hg hb ha
  obtain ⟨q0, q1, q2, q3⟩ := part_pk hr' hg' hb' ha'
  rw [← or4 (clampH_byte _ _) (clampH_byte _ _) (clampH_byte _ _) (clampH_byte _ _)]
  rw [spec_half.f, half_step (k + 4) _ _ _ _ _ _ _ _ _ c04 p0 q0 w8_0 gz w1_0 (half_one hb hb'), half_step (k + 3) _ _ _ _ _ _ _ _ _ c14 p1 q1 w8_1 g8 w1_1 (half_one hg hg'),
    half_step (k + 2) _ _ _ _ _ _ _ _ _ c24 p2 q2 w8_2 g16 w1_2 (half_one hr hr'), half_step (k + 1) _ _ _ _ _ _ _ _ _ c34 p3 q3 w8_3 g24 w1_3 (half_one ha ha'), half_end]
theorem size_one {x y z u : Int} : isByte x → isByte y → isByte z → isByte u → spec_size.f (wrap64 (wrap64 (wrap64 (x + y) - z) - u)) = some (iabs (z - (x + y - u))) := by
    rintro ⟨x0, x1⟩ ⟨y0, y1⟩ ⟨z0, z1⟩ ⟨u0, u1⟩
    rw [wrap64_lit (n := x + y) (by omega) (by omega), wrap64_lit (n := x + y - z) (by omega) (by omega), wrap64_lit (n := x + y - z - u) (by omega) (by omega)]
    unfold spec_size.f mx iabs
    rw [wrap64_lit (by omega) (by omega)]
    congr 1
    repeat' split
    all_goals omega
theorem size_l {x y z : Int} (hx : isByte x) (hy : isByte y) (hz : isByte z) : spec_size.f (wrap64 (wrap64 (wrap64 (x + y) - z) - x)) = some (iabs (z - y)) := by
    rw [size_one hx hy hz hx, show z - (x + y - x) = z - y by omega]
theorem size_t {x y z : Int} (hx : isByte x) (hy : isByte y) (hz : isByte z) : spec_size.f (wrap64 (wrap64 (wrap64 (x + y) - z) - y)) = some (iabs (z - x)) := by
    rw [size_one hx hy hz hy, show z - (x + y - y) = z - x by omega]
theorem chosen_step (k : Nat) (x0 x1 x2 x7 x8 x9 x9' t u u2 v v' y7 y8 : Int) (h : x9 < 4) (h0 : spec_part.f x0 x9 = some t) (h1 : spec_part.f x1 x9 = some u) (h2 : spec_part.f x2 x9 = some u2) (h6 : wrap64 (x9 + 1) = x9')
    (hv : spec_size.f (wrap64 (wrap64 (wrap64 (t + u) - u2) - t)) = some v) (hv' : spec_size.f (wrap64 (wrap64 (wrap64 (t + u) - u2) - u)) = some v') (h7 : wrap64 (x7 + v) = y7) (h8 : wrap64 (x8 + v') = y8) :
    spec_chosen.l0 (k + 1) x0 x1 x2 x7 x8 x9 = spec_chosen.l0 k x0 x1 x2 y7 y8 x9' := by
  rw [spec_chosen.l0, if_pos h, h0, Option.bind_some, h1, Option.bind_some, h2, Option.bind_some, Option.bind_some, hv, Option.bind_some, Option.bind_some, hv', Option.bind_some, h6, h7, h8]
theorem chosen_end (k : Nat) (x0 x1 x2 x7 x8 : Int) : spec_chosen.l0 (k + 1) x0 x1 x2 x7 x8 4 = if x7 < x8 then some x0 else some x1 := by
  rw [spec_chosen.l0, if_neg c44]
theorem chosen_pk {r g b a r' g' b' a' r2 g2 b2 a2 : Int} (hr : isByte r) (hg : isByte g) (hb : isByte b) (ha : isByte a) (hr' : isByte r') (hg' : isByte g') (hb' : isByte b') (ha' : isByte a')
    (hr2 : isByte r2) (hg2 : isByte g2) (hb2 : isByte b2) (ha2 : isByte a2) (k : Nat) :
    spec_chosen.f (k + 5) (pk r g b a) (pk r' g' b' a') (pk r2 g2 b2 a2) =
      some (if iabs (r2 - r') + iabs (g2 - g') + iabs (b2 - b') + iabs (a2 - a') < iabs (r2 - r) + iabs (g2 - g) + iabs (b2 - b) + iabs (a2 - a) then pk r g b a else pk r' g' b' a') := by
  obtain ⟨p0, p1, p2, p3⟩ := part_pk hr hg hb ha
  obtain ⟨q0, q1, q2, q3⟩ := part_pk hr' hg' hb' ha'
  obtain ⟨s0, s1, s2, s3⟩ := part_pk hr2 hg2 hb2 ha2
  have i0 := iabs_rng hb2 hb'; have i1 := iabs_rng hg2 hg'; have i2 := iabs_rng hr2 hr'; have i3 := iabs_rng ha2 ha'
  have j0 := iabs_rng hb2 hb; have j1 := iabs_rng hg2 hg; have j2 := iabs_rng hr2 hr; have j3 := iabs_rng ha2 ha
  have l0 := size_l hb hb' hb2; have l1 := size_l hg hg' hg2; have l2 := size_l hr hr' hr2; have l3 := size_l ha ha' ha2
  have t0 := size_t hb hb' hb2; have t1 := size_t hg hg' hg2; have t2 := size_t hr hr' hr2; have t3 := size_t ha ha' ha2
  generalize iabs (b2 - b') = I0 at *
  generalize iabs (g2 - g') = I1 at *
  generalize iabs (r2 - r') = I2 at *
  generalize iabs (a2 - a') = I3 at *
  generalize iabs (b2 - b) = J0 at *
  generalize iabs (g2 - g) = J1 at *
  generalize iabs (r2 - r) = J2 at *
  generalize iabs (a2 - a) = J3 at *
  rw [spec_chosen.f, chosen_step (k + 4) _ _ _ _ _ _ _ _ _ _ _ _ I0 J0 c04 p0 q0 s0 w1_0 l0 t0 (by rw [Int.zero_add]; exact wrap64_lit (by omega) (by omega)) (by rw [Int.zero_add]; exact wrap64_lit (by omega) (by omega)),
    chosen_step (k + 3) _ _ _ _ _ _ _ _ _ _ _ _ (I0 + I1) (J0 + J1) c14 p1 q1 s1 w1_1 l1 t1 (wrap64_lit (by omega) (by omega)) (wrap64_lit (by omega) (by omega)),
    chosen_step (k + 2) _ _ _ _ _ _ _ _ _ _ _ _ (I0 + I1 + I2) (J0 + J1 + J2) c24 p2 q2 s2 w1_2 l2 t2 (wrap64_lit (by omega) (by omega)) (wrap64_lit (by omega) (by omega)),
    chosen_step (k + 1) _ _ _ _ _ _ _ _ _ _ _ _ (I0 + I1 + I2 + I3) (J0 + J1 + J2 + J3) c34 p3 q3 s3 w1_3 l3 t3 (wrap64_lit (by omega) (by omega)) (wrap64_lit (by omega) (by omega)), chosen_end]
  by_cases h : I2 + I1 + I0 + I3 < J2 + J1 + J0 + J3
  · rw [if_pos (by omega), if_pos h]
  · rw [if_neg (by omega), if_neg h]
theorem added_step (k : Nat) (x0 x1 x5 x6 s x6' v : Int) (h : x6 < 4) (hs : wrap64 (8 * x6) = s) (hs0 : 0 ≤ s) (h6 : wrap64 (x6 + 1) = x6')
    (hv : Go.bits .and .u32 ((shr .u32 x0 s + shr .u32 x1 s) % 4294967296) 255 = v) :
    spec_added.l0 (k + 1) x0 x1 x5 x6 = spec_added.l0 k x0 x1 (Go.bits .or .u32 x5 (shl .u32 v s)) x6' := by
  rw [spec_added.l0, if_pos h, hs, if_pos hs0, hv, h6]
theorem added_end (k : Nat) (x0 x1 x5 : Int) : spec_added.l0 (k + 1) x0 x1 x5 4 = some x5 := by
  rw [spec_added.l0, if_neg c44]
theorem added_key (x y : Int) (s : Nat) (h0 : 0 ≤ x) (h1 : x < 4294967296) (h2 : 0 ≤ y) (h3 : y < 4294967296) (hs : s ≤ 24) : Go.bits .and .u32 ((shr .u32 x (s : Int) + shr .u32 y (s : Int)) % 4294967296) 255 = (x / 2 ^ s + y / 2 ^ s) % 256 := by
    obtain ⟨X, rfl⟩ := Int.eq_ofNat_of_zero_le h0
    obtain ⟨Y, rfl⟩ := Int.eq_ofNat_of_zero_le h2
    unfold shr
    rw [show min (s : Int).toNat IntKind.u32.bits = s by simp only [IntKind.bits, Int.toNat_natCast]; omega]
    have e : (((X : Nat) : Int) / 2 ^ s + ((Y : Nat) : Int) / 2 ^ s) % 4294967296 = (((X / 2 ^ s + Y / 2 ^ s) % 4294967296 : Nat) : Int) := by simp
    rw [e, show (255 : Int) = ((255 : Nat) : Int) from rfl, u32_and_nat _ _ (Nat.mod_lt _ (by decide)) (by decide)]
    have := Nat.and_two_pow_sub_one_eq_mod ((X / 2 ^ s + Y / 2 ^ s) % 4294967296) 8
    rw [show (2 ^ 8 - 1 : Nat) = 255 from rfl] at this
    rw [this, Nat.mod_mod_of_dvd _ (by decide)]
    simp
theorem pk_div {r g b a : Int} (hr : isByte r) (hg : isByte g) (hb : isByte b) (ha : isByte a) :
    pk r g b a / 2 ^ 0 = a * 16777216 + r * 65536 + g * 256 + b ∧ pk r g b a / 2 ^ 8 = a * 65536 + r * 256 + g ∧ pk r g b a / 2 ^ 16 = a * 256 + r ∧ pk r g b a / 2 ^ 24 = a := by
  obtain ⟨r0, r1⟩ := hr
  obtain ⟨g0, g1⟩ := hg
  obtain ⟨b0, b1⟩ := hb
  obtain ⟨a0, a1⟩ := ha
  unfold pk
  refine ⟨?_, ?_, ?_, ?_⟩ <;> omega
theorem mod_byte (x : Int) : isByte (x % 256) := by unfold isByte; omega
theorem mz0 (a r g b a' r' g' b' : Int) : (a * 16777216 + r * 65536 + g * 256 + b + (a' * 16777216 + r' * 65536 + g' * 256 + b')) % 256 = (b + b') % 256 := by
  have : a * 16777216 + r * 65536 + g * 256 + b + (a' * 16777216 + r' * 65536 + g' * 256 + b') = (b + b') + 256 * (a * 65536 + r * 256 + g + (a' * 65536 + r' * 256 + g')) := by omega
  rw [this, Int.add_mul_emod_self_left]
theorem mz1 (a r g a' r' g' : Int) : (a * 65536 + r * 256 + g + (a' * 65536 + r' * 256 + g')) % 256 = (g + g') % 256 := by
  have : a * 65536 + r * 256 + g + (a' * 65536 + r' * 256 + g') = (g + g') + 256 * (a * 256 + r + (a' * 256 + r')) := by omega
  rw [this, Int.add_mul_emod_self_left]
theorem mz2 (a r a' r' : Int) : (a * 256 + r + (a' * 256 + r')) % 256 = (r + r') % 256 := by
  have : a * 256 + r + (a' * 256 + r') = (r + r') + 256 * (a + a') := by omega
  rw [this, Int.add_mul_emod_self_left]
theorem added_pk {r g b a r' g' b' a' : Int} (hr : isByte r) (hg : isByte g) (hb : isByte b) (ha : isByte a) (hr' : isByte r') (hg' : isByte g') (hb' : isByte b') (ha' : isByte a') (k : Nat) :
    spec_added.f (k + 5) (pk r g b a) (pk r' g' b' a') = some (pk ((r + r') % 256) ((g + g') % 256) ((b + b') % 256) ((a + a') % 256)) := by
  obtain ⟨r0, r1⟩ := hr
  obtain ⟨g0, g1⟩ := hg
  obtain ⟨b0, b1⟩ := hb
  obtain ⟨a0, a1⟩ := ha
  obtain ⟨r0', r1'⟩ := hr'
  obtain ⟨g0', g1'⟩ := hg'
  obtain ⟨b0', b1'⟩ := hb'
  obtain ⟨a0', a1'⟩ := ha'
  have hp0 : 0 ≤ pk r g b a := by unfold pk; omega
  have hp1 : pk r g b a < 4294967296 := by unfold pk; omega
  have hq0 : 0 ≤ pk r' g' b' a' := by unfold pk; omega
  have hq1 : pk r' g' b' a' < 4294967296 := by unfold pk; omega
  obtain ⟨d0, d1, d2, d3⟩ := pk_div ⟨r0, r1⟩ ⟨g0, g1⟩ ⟨b0, b1⟩ ⟨a0, a1⟩
  obtain ⟨d0', d1', d2', d3'⟩ := pk_div ⟨r0', r1'⟩ ⟨g0', g1'⟩ ⟨b0', b1'⟩ ⟨a0', a1'⟩
  have z0 : (pk r g b a / 2 ^ 0 + pk r' g' b' a' / 2 ^ 0) % 256 = (b + b') % 256 := by rw [d0, d0', mz0]
  have z1 : (pk r g b a / 2 ^ 8 + pk r' g' b' a' / 2 ^ 8) % 256 = (g + g') % 256 := by rw [d1, d1', mz1]
  have z2 : (pk r g b a / 2 ^ 16 + pk r' g' b' a' / 2 ^ 16) % 256 = (r + r') % 256 := by rw [d2, d2', mz2]
  have z3 : (pk r g b a / 2 ^ 24 + pk r' g' b' a' / 2 ^ 24) % 256 = (a + a') % 256 := by rw [d3, d3']
  have k0 := added_key _ _ 0 hp0 hp1 hq0 hq1 (by decide)
  have k1 := added_key _ _ 8 hp0 hp1 hq0 hq1 (by decide)
  have k2 := added_key _ _ 16 hp0 hp1 hq0 hq1 (by decide)
  have k3 := added_key _ _ 24 hp0 hp1 hq0 hq1 (by decide)
  rw [z0, show ((0 : Nat) : Int) = 0 from rfl] at k0
  rw [z1, show ((8 : Nat) : Int) = 8 from rfl] at k1
  rw [z2, show ((16 : Nat) : Int) = 16 from rfl] at k2
  rw [z3, show ((24 : Nat) : Int) = 24 from rfl] at k3
  clear z0 z1 z2 z3
  rw [← or4 (mod_byte (b + b')) (mod_byte (g + g')) (mod_byte (r + r')) (mod_byte (a + a'))]
  rw [spec_added.f, added_step (k + 4) _ _ _ _ _ _ _ c04 w8_0 gz w1_0 k0, added_step (k + 3) _ _ _ _ _ _ _ c14 w8_1 g8 w1_1 k1, added_step (k + 2) _ _ _ _ _ _ _ c24 w8_2 g16 w1_2 k2, added_step (k + 1) _ _ _ _ _ _ _ c34 w8_3 g24 w1_3 k3, added_end]
/-- The pixel whose first byte is byte i. -/
def pa (f : Nat → Int) (i : Nat) : Int := pk (f i) (f (i + 1)) (f (i + 2)) (f (i + 3))
theorem chosen_two (c : Prop) [Decidable c] (a0 a1 a2 a3 b0 b1 b2 b3 : Int) : (if c then pk a0 a1 a2 a3 else pk b0 b1 b2 b3) = pk (if c then a0 else b0) (if c then a1 else b1) (if c then a2 else b2) (if c then a3 else b3) := by
  split <;> rfl
theorem pv4 (m : Nat) (f : Nat → Int) (p top : Nat) (x0 x1 x2 x3 : Int) (h0 : predV m f p top 0 = x0) (h1 : predV m f p top 1 = x1) (h2 : predV m f p top 2 = x2) (h3 : predV m f p top 3 = x3) :
    some (pk x0 x1 x2 x3) = some (pk (predV m f p top 0) (predV m f p top 1) (predV m f p top 2) (predV m f p top 3)) := by rw [h0, h1, h2, h3]
theorem pk_ff : pk 0 0 0 255 = 4278190080 := by unfold pk; omega
theorem foretold_pk {f : Nat → Int} (hf : ∀ i, isByte (f i)) (m p top : Nat) (hm : m ≤ 13) (k : Nat) (L T TR TL : Int)
    (eL : L = pk (f (p - 4)) (f (p - 3)) (f (p - 2)) (f (p - 1))) (eT : T = pk (f (top + 0)) (f (top + 1)) (f (top + 2)) (f (top + 3))) (eTR : TR = pk (f (top + 4)) (f (top + 5)) (f (top + 6)) (f (top + 7))) (eTL : TL = pk (f (top - 4)) (f (top - 3)) (f (top - 2)) (f (top - 1))) :
    spec_foretold.f (k + 5) (m : Int) L T TR TL = some (pk (predV m f p top 0) (predV m f p top 1) (predV m f p top 2) (predV m f p top 3)) := by
  have A := fun x y : Nat => avg_byte (hf x) (hf y)
  match m, hm with
  | 0, _ => rw [show ((0 : Nat) : Int) = 0 from rfl, spec_foretold.f, if_neg (by decide), if_neg (by decide), if_neg (by decide), if_neg (by decide), if_neg (by decide), if_neg (by decide), if_neg (by decide), if_neg (by decide), if_neg (by decide), if_neg (by decide), if_neg (by decide), if_neg (by decide), if_neg (by decide)]; rw [← pk_ff]; exact pv4 0 f p top _ _ _ _ rfl rfl rfl rfl
  | 1, _ => rw [show ((1 : Nat) : Int) = 1 from rfl, spec_foretold.f, if_pos rfl]; rw [eL]; exact pv4 1 f p top _ _ _ _ rfl rfl rfl rfl
  | 2, _ => rw [show ((2 : Nat) : Int) = 2 from rfl, spec_foretold.f, if_neg (by decide), if_pos rfl]; rw [eT]; exact pv4 2 f p top _ _ _ _ rfl rfl rfl rfl
  | 3, _ => rw [show ((3 : Nat) : Int) = 3 from rfl, spec_foretold.f, if_neg (by decide), if_neg (by decide), if_pos rfl]; rw [eTR]; exact pv4 3 f p top _ _ _ _ rfl rfl rfl rfl
  | 4, _ => rw [show ((4 : Nat) : Int) = 4 from rfl, spec_foretold.f, if_neg (by decide), if_neg (by decide), if_neg (by decide), if_pos rfl]; rw [eTL]; exact pv4 4 f p top _ _ _ _ rfl rfl rfl rfl
  | 5, _ => rw [show ((5 : Nat) : Int) = 5 from rfl, spec_foretold.f, if_neg (by decide), if_neg (by decide), if_neg (by decide), if_neg (by decide), if_pos rfl]; rw [eL, eTR, eT, mean_pk (hf _) (hf _) (hf _) (hf _) (hf _) (hf _) (hf _) (hf _), Option.bind_some, mean_pk (A _ _) (A _ _) (A _ _) (A _ _) (hf _) (hf _) (hf _) (hf _), Option.bind_some]; exact pv4 5 f p top _ _ _ _ rfl rfl rfl rfl
  | 6, _ => rw [show ((6 : Nat) : Int) = 6 from rfl, spec_foretold.f, if_neg (by decide), if_neg (by decide), if_neg (by decide), if_neg (by decide), if_neg (by decide), if_pos rfl]; rw [eL, eTL, mean_pk (hf _) (hf _) (hf _) (hf _) (hf _) (hf _) (hf _) (hf _), Option.bind_some]; exact pv4 6 f p top _ _ _ _ rfl rfl rfl rfl
  | 7, _ => rw [show ((7 : Nat) : Int) = 7 from rfl, spec_foretold.f, if_neg (by decide), if_neg (by decide), if_neg (by decide), if_neg (by decide), if_neg (by decide), if_neg (by decide), if_pos rfl]; rw [eL, eT, mean_pk (hf _) (hf _) (hf _) (hf _) (hf _) (hf _) (hf _) (hf _), Option.bind_some]; exact pv4 7 f p top _ _ _ _ rfl rfl rfl rfl
  | 8, _ => rw [show ((8 : Nat) : Int) = 8 from rfl, spec_foretold.f, if_neg (by decide), if_neg (by decide), if_neg (by decide), if_neg (by decide), if_neg (by decide), if_neg (by decide), if_neg (by decide), if_pos rfl]; rw [eTL, eT, mean_pk (hf _) (hf _) (hf _) (hf _) (hf _) (hf _) (hf _) (hf _), Option.bind_some]; exact pv4 8 f p top _ _ _ _ rfl rfl rfl rfl
  | 9, _ => rw [show ((9 : Nat) : Int) = 9 from rfl, spec_foretold.f, if_neg (by decide), if_neg (by decide), if_neg (by decide), if_neg (by decide), if_neg (by decide), if_neg (by decide), if_neg (by decide), if_neg (by decide), if_pos rfl]; rw [eT, eTR, mean_pk (hf _) (hf _) (hf _) (hf _) (hf _) (hf _) (hf _) (hf _), Option.bind_some]; exact pv4 9 f p top _ _ _ _ rfl rfl rfl rfl
  | 10, _ => rw [show ((10 : Nat) : Int) = 10 from rfl, spec_foretold.f, if_neg (by decide), if_neg (by decide), if_neg (by decide), if_neg (by decide), if_neg (by decide), if_neg (by decide), if_neg (by decide), if_neg (by decide), if_neg (by decide), if_pos rfl]; rw [eL, eTL, eT, eTR, mean_pk (hf _) (hf _) (hf _) (hf _) (hf _) (hf _) (hf _) (hf _), Option.bind_some, mean_pk (hf _) (hf _) (hf _) (hf _) (hf _) (hf _) (hf _) (hf _), Option.bind_some, mean_pk (A _ _) (A _ _) (A _ _) (A _ _) (A _ _) (A _ _) (A _ _) (A _ _), Option.bind_some]; exact pv4 10 f p top _ _ _ _ rfl rfl rfl rfl
  | 11, _ => rw [show ((11 : Nat) : Int) = 11 from rfl, spec_foretold.f, if_neg (by decide), if_neg (by decide), if_neg (by decide), if_neg (by decide), if_neg (by decide), if_neg (by decide), if_neg (by decide), if_neg (by decide), if_neg (by decide), if_neg (by decide), if_pos rfl]; rw [eL, eT, eTL, chosen_pk (hf _) (hf _) (hf _) (hf _) (hf _) (hf _) (hf _) (hf _) (hf _) (hf _) (hf _) (hf _), Option.bind_some, chosen_two]; exact pv4 11 f p top _ _ _ _ rfl rfl rfl rfl
  | 12, _ => rw [show ((12 : Nat) : Int) = 12 from rfl, spec_foretold.f, if_neg (by decide), if_neg (by decide), if_neg (by decide), if_neg (by decide), if_neg (by decide), if_neg (by decide), if_neg (by decide), if_neg (by decide), if_neg (by decide), if_neg (by decide), if_neg (by decide), if_pos rfl]; rw [eL, eT, eTL, full_pk (hf _) (hf _) (hf _) (hf _) (hf _) (hf _) (hf _) (hf _) (hf _) (hf _) (hf _) (hf _), Option.bind_some]; exact pv4 12 f p top _ _ _ _ rfl rfl rfl rfl
  | 13, _ => rw [show ((13 : Nat) : Int) = 13 from rfl, spec_foretold.f, if_neg (by decide), if_neg (by decide), if_neg (by decide), if_neg (by decide), if_neg (by decide), if_neg (by decide), if_neg (by decide), if_neg (by decide), if_neg (by decide), if_neg (by decide), if_neg (by decide), if_neg (by decide), if_pos rfl]; rw [eL, eT, eTL, mean_pk (hf _) (hf _) (hf _) (hf _) (hf _) (hf _) (hf _) (hf _), Option.bind_some, half_pk (A _ _) (A _ _) (A _ _) (A _ _) (hf _) (hf _) (hf _) (hf _), Option.bind_some]; exact pv4 13 f p top _ _ _ _ rfl rfl rfl rfl
  | m + 14, hm => exact absurd hm (by omega)
end Go.Proofs.Ytgjcikajfnlocaa
