/-
  OUR OWN: THE PLAIN LAW of FnPredictorBack: what predictions were taken away from is put back by inversePredictor.
-/
import Derived.Test.YtgjcikajfnlocaaSe
import Derived.Test.YtgjcikajfnlocaaPFnPredictorBackx
namespace Go.Proofs.Ytgjcikajfnlocaa
open Go.RowKit Go.Proofs.Ytgjcikajfnlocaa.PFnPredictorBack Go.Proofs.YtgjcikajfnlocaaW.PrintWords Go.Proofs.YtgjcikajfnlocaaW.PrintLast
set_option linter.unusedVariables false

def pk (r g b a : Int) : Int := a * 16777216 + r * 65536 + g * 256 + b
theorem wrap64_lit {n : Int} (h1 : -9223372036854775808 ≤ n) (h2 : n ≤ 9223372036854775807) : wrap64 n = n := by unfold wrap64; omega
theorem w8_0 : wrap64 (8 * 0) = 0 := by unfold wrap64; omega
theorem w8_1 : wrap64 (8 * 1) = 8 := by unfold wrap64; omega
theorem w8_2 : wrap64 (8 * 2) = 16 := by unfold wrap64; omega
theorem w8_3 : wrap64 (8 * 3) = 24 := by unfold wrap64; omega
theorem w1_0 : wrap64 (0 + 1) = 1 := by unfold wrap64; omega
theorem w1_1 : wrap64 (1 + 1) = 2 := by unfold wrap64; omega
theorem w1_2 : wrap64 (2 + 1) = 3 := by unfold wrap64; omega
theorem w1_3 : wrap64 (3 + 1) = 4 := by unfold wrap64; omega
theorem part_pk {r g b a : Int} (hr : isByte r) (hg : isByte g) (hb : isByte b) (ha : isByte a) :
    laws_part.f (pk r g b a) 0 = some b ∧ laws_part.f (pk r g b a) 1 = some g ∧ laws_part.f (pk r g b a) 2 = some r ∧ laws_part.f (pk r g b a) 3 = some a := by
  obtain ⟨r0, r1⟩ := hr
  obtain ⟨g0, g1⟩ := hg
  obtain ⟨b0, b1⟩ := hb
  obtain ⟨a0, a1⟩ := ha
  have key : ∀ (x : Int) (s : Nat), 0 ≤ x → x < 4294967296 → s ≤ 24 → Go.bits .and .u32 (shr .u32 x (s : Int)) 255 = x / 2 ^ s % 256 := by
    intro x s h0 h1 hs
    obtain ⟨X, rfl⟩ := Int.eq_ofNat_of_zero_le h0
    unfold shr
    rw [show min (s : Int).toNat IntKind.u32.bits = s by simp only [IntKind.bits, Int.toNat_natCast]; omega]
    have e : ((X : Nat) : Int) / 2 ^ s = ((X / 2 ^ s : Nat) : Int) := by simp
    rw [e, show (255 : Int) = ((255 : Nat) : Int) from rfl, u32_and_nat _ _ (Nat.lt_of_le_of_lt (Nat.div_le_self _ _) (by omega)) (by decide)]
    have := Nat.and_two_pow_sub_one_eq_mod (X / 2 ^ s) 8
    rw [show (2 ^ 8 - 1 : Nat) = 255 from rfl] at this
    rw [this]
    simp
  have hp0 : 0 ≤ pk r g b a := by unfold pk; omega
  have hp1 : pk r g b a < 4294967296 := by unfold pk; omega
  refine ⟨?_, ?_, ?_, ?_⟩
  · unfold laws_part.f
    rw [w8_0, if_pos (by decide), show (0 : Int) = ((0 : Nat) : Int) from rfl, key _ 0 hp0 hp1 (by decide)]
    rw [wrap64_lit (by omega) (by omega)]
    unfold pk; congr 1; omega
  · unfold laws_part.f
    rw [w8_1, if_pos (by decide), show (8 : Int) = ((8 : Nat) : Int) from rfl, key _ 8 hp0 hp1 (by decide)]
    rw [wrap64_lit (by omega) (by omega)]
    unfold pk; congr 1; omega
  · unfold laws_part.f
    rw [w8_2, if_pos (by decide), show (16 : Int) = ((16 : Nat) : Int) from rfl, key _ 16 hp0 hp1 (by decide)]
    rw [wrap64_lit (by omega) (by omega)]
    unfold pk; congr 1; omega
  · unfold laws_part.f
    rw [w8_3, if_pos (by decide), show (24 : Int) = ((24 : Nat) : Int) from rfl, key _ 24 hp0 hp1 (by decide)]
    rw [wrap64_lit (by omega) (by omega)]
    unfold pk; congr 1; omega
theorem c04 : ((0 : Int) < 4) := by omega
theorem c14 : ((1 : Int) < 4) := by omega
theorem c24 : ((2 : Int) < 4) := by omega
theorem c34 : ((3 : Int) < 4) := by omega
theorem c44 : ¬ ((4 : Int) < 4) := by omega
theorem size_one {x y z u : Int} : isByte x → isByte y → isByte z → isByte u → laws_size.f (wrap64 (wrap64 (wrap64 (x + y) - z) - u)) = some (iabs (z - (x + y - u))) := by
    rintro ⟨x0, x1⟩ ⟨y0, y1⟩ ⟨z0, z1⟩ ⟨u0, u1⟩
    rw [wrap64_lit (n := x + y) (by omega) (by omega), wrap64_lit (n := x + y - z) (by omega) (by omega), wrap64_lit (n := x + y - z - u) (by omega) (by omega)]
    unfold laws_size.f mx iabs
    rw [wrap64_lit (by omega) (by omega)]
    congr 1
    repeat' split
    all_goals omega
theorem size_l {x y z : Int} (hx : isByte x) (hy : isByte y) (hz : isByte z) : laws_size.f (wrap64 (wrap64 (wrap64 (x + y) - z) - x)) = some (iabs (z - y)) := by
    rw [size_one hx hy hz hx, show z - (x + y - x) = z - y by omega]
theorem size_t {x y z : Int} (hx : isByte x) (hy : isByte y) (hz : isByte z) : laws_size.f (wrap64 (wrap64 (wrap64 (x + y) - z) - y)) = some (iabs (z - x)) := by
    rw [size_one hx hy hz hy, show z - (x + y - y) = z - x by omega]
theorem chosen_step (k : Nat) (x0 x1 x2 x7 x8 x9 x9' t u u2 v v' y7 y8 : Int) (h : x9 < 4) (h0 : laws_part.f x0 x9 = some t) (h1 : laws_part.f x1 x9 = some u) (h2 : laws_part.f x2 x9 = some u2) (h6 : wrap64 (x9 + 1) = x9')
    (hv : laws_size.f (wrap64 (wrap64 (wrap64 (t + u) - u2) - t)) = some v) (hv' : laws_size.f (wrap64 (wrap64 (wrap64 (t + u) - u2) - u)) = some v') (h7 : wrap64 (x7 + v) = y7) (h8 : wrap64 (x8 + v') = y8) :
    laws_chosen.l0 (k + 1) x0 x1 x2 x7 x8 x9 = laws_chosen.l0 k x0 x1 x2 y7 y8 x9' := by
  rw [laws_chosen.l0, if_pos h, h0, Option.bind_some, h1, Option.bind_some, h2, Option.bind_some, Option.bind_some, hv, Option.bind_some, Option.bind_some, hv', Option.bind_some, h6, h7, h8]
theorem chosen_end (k : Nat) (x0 x1 x2 x7 x8 : Int) : laws_chosen.l0 (k + 1) x0 x1 x2 x7 x8 4 = if x7 < x8 then some x0 else some x1 := by
  rw [laws_chosen.l0, if_neg c44]
theorem chosen_pk {r g b a r' g' b' a' r2 g2 b2 a2 : Int} (hr : isByte r) (hg : isByte g) (hb : isByte b) (ha : isByte a) (hr' : isByte r') (hg' : isByte g') (hb' : isByte b') (ha' : isByte a')
    (hr2 : isByte r2) (hg2 : isByte g2) (hb2 : isByte b2) (ha2 : isByte a2) (k : Nat) :
    laws_chosen.f (k + 5) (pk r g b a) (pk r' g' b' a') (pk r2 g2 b2 a2) =
      some (if iabs (r2 - r') + iabs (g2 - g') + iabs (b2 - b') + iabs (a2 - a') < iabs (r2 - r) + iabs (g2 - g) + iabs (b2 - b) + iabs (a2 - a) then pk r g b a else pk r' g' b' a') := by
  obtain ⟨p0, p1, p2, p3⟩ := part_pk hr hg hb ha
  obtain ⟨q0, q1, q2, q3⟩ := part_pk hr' hg' hb' ha'
  obtain ⟨s0, s1, s2, s3⟩ := part_pk hr2 hg2 hb2 ha2
  have i0 := iabs_rng hb2 hb'; have i1 := iabs_rng hg2 hg'; have i2 := iabs_rng hr2 hr'; have i3 := iabs_rng ha2 ha'
  have j0 := iabs_rng hb2 hb; have j1 := iabs_rng hg2 hg; have j2 := iabs_rng hr2 hr; have j3 := iabs_rng ha2 ha
  have l0 := size_l hb hb' hb2; have l1 := size_l hg hg' hg2; have l2 := size_l hr hr' hr2; have l3 := size_l ha ha' ha2
  have t0 := size_t hb hb' hb2; have t1 := size_t hg hg' hg2; have t2 := size_t hr hr' hr2; have t3 := size_t ha ha' ha2
  generalize iabs (b2 - b') = I0 at *
  generalize iabs (g2 - g') = I1 at *
  generalize iabs (r2 - r') = I2 at *
  generalize iabs (a2 - a') = I3 at *
  generalize iabs (b2 - b) = J0 at *
  generalize iabs (g2 - g) = J1 at *
  generalize iabs (r2 - r) = J2 at *
  generalize iabs (a2 - a) = J3 at *
  rw [laws_chosen.f, chosen_step (k + 4) _ _ _ _ _ _ _ _ _ _ _ _ I0 J0 c04 p0 q0 s0 w1_0 l0 t0 (by rw [Int.zero_add]; exact wrap64_lit (by omega) (by omega)) (by rw [Int.zero_add]; exact wrap64_lit (by omega) (by omega)),
    chosen_step (k + 3) _ _ _ _ _ _ _ _ _ _ _ _ (I0 + I1) (J0 + J1) c14 p1 q1 s1 w1_1 l1 t1 (wrap64_lit (by omega) (by omega)) (wrap64_lit (by omega) (by omega)),
    chosen_step (k + 2) _ _ _ _ _ _ _ _ _ _ _ _ (I0 + I1 + I2) (J0 + J1 + J2) c24 p2 q2 s2 w1_2 l2 t2 (wrap64_lit (by omega) (by omega)) (wrap64_lit (by omega) (by omega)),
    chosen_step (k + 1) _ _ _ _ _ _ _ _ _ _ _ _ (I0 + I1 + I2 + I3) (J0 + J1 + J2 + J3) c34 p3 q3 s3 w1_3 l3 t3 (wrap64_lit (by omega) (by omega)) (wrap64_lit (by omega) (by omega)), chosen_end]
  by_cases h : I2 + I1 + I0 + I3 < J2 + J1 + J0 + J3
  · rw [if_pos (by omega), if_pos h]
  · rw [if_neg (by omega), if_neg h]
theorem mod_byte (x : Int) : isByte (x % 256) := by unfold isByte; omega
def pa (f : Nat → Int) (i : Nat) : Int := pk (f i) (f (i + 1)) (f (i + 2)) (f (i + 3))
theorem chosen_two (c : Prop) [Decidable c] (a0 a1 a2 a3 b0 b1 b2 b3 : Int) : (if c then pk a0 a1 a2 a3 else pk b0 b1 b2 b3) = pk (if c then a0 else b0) (if c then a1 else b1) (if c then a2 else b2) (if c then a3 else b3) := by
  split <;> rfl
theorem pk_ff : pk 0 0 0 255 = 4278190080 := by unfold pk; omega
theorem and_255 (x : Int) (h0 : -9223372036854775808 ≤ x) (h1 : x ≤ 9223372036854775807) : Go.bits .and .i64 x 255 = x % 256 := by
  show IntKind.i64.wrap (((BitVec.ofInt 64 x &&& BitVec.ofInt 64 255 : BitVec 64).toNat : Nat) : Int) = _
  rw [BitVec.toNat_and, show (BitVec.ofInt 64 255 : BitVec 64).toNat = 255 from rfl, BitVec.toNat_ofInt]
  have e := Nat.and_two_pow_sub_one_eq_mod (x % ((2 ^ 64 : Nat) : Int)).toNat 8
  rw [show (2 ^ 8 - 1 : Nat) = 255 from rfl] at e
  rw [e]
  exact i64_eq (by omega) (by omega) (by omega)
theorem or_pk {r g b a : Int} (hr : isByte r) (hg : isByte g) (hb : isByte b) (ha : isByte a) :
    Go.bits .or .u32 (Go.bits .or .u32 (Go.bits .or .u32 (((a % 4294967296) * 16777216) % 4294967296) (((r % 4294967296) * 65536) % 4294967296)) (((g % 4294967296) * 256) % 4294967296)) (b % 4294967296) = pk r g b a := by
  obtain ⟨r0, r1⟩ := hr
  obtain ⟨g0, g1⟩ := hg
  obtain ⟨b0, b1⟩ := hb
  obtain ⟨a0, a1⟩ := ha
  obtain ⟨R, rfl⟩ := Int.eq_ofNat_of_zero_le r0
  obtain ⟨G, rfl⟩ := Int.eq_ofNat_of_zero_le g0
  obtain ⟨B, rfl⟩ := Int.eq_ofNat_of_zero_le b0
  obtain ⟨A, rfl⟩ := Int.eq_ofNat_of_zero_le a0
  have e3 : (((A : Nat) : Int) % 4294967296 * 16777216) % 4294967296 = ((A * 2 ^ 24 : Nat) : Int) := by omega
  have e2 : (((R : Nat) : Int) % 4294967296 * 65536) % 4294967296 = ((R * 2 ^ 16 : Nat) : Int) := by omega
  have e1 : (((G : Nat) : Int) % 4294967296 * 256) % 4294967296 = ((G * 2 ^ 8 : Nat) : Int) := by omega
  have e0 : ((B : Nat) : Int) % 4294967296 = ((B : Nat) : Int) := by omega
  rw [e3, e2, e1, e0]
  have key : ∀ X Y s : Nat, Y < 2 ^ s → X * 2 ^ s ||| Y = X * 2 ^ s + Y := fun X Y s h => by rw [← Nat.shiftLeft_eq, ← Nat.shiftLeft_add_eq_or_of_lt h]
  have k1 : A * 2 ^ 24 ||| R * 2 ^ 16 = A * 2 ^ 24 + R * 2 ^ 16 := key A _ 24 (by omega)
  have k2 : (A * 2 ^ 24 + R * 2 ^ 16) ||| G * 2 ^ 8 = A * 2 ^ 24 + R * 2 ^ 16 + G * 2 ^ 8 := by
    have := key (A * 2 ^ 8 + R) (G * 2 ^ 8) 16 (by omega)
    rw [show (A * 2 ^ 8 + R) * 2 ^ 16 = A * 2 ^ 24 + R * 2 ^ 16 by omega] at this
    exact this
  have k3 : (A * 2 ^ 24 + R * 2 ^ 16 + G * 2 ^ 8) ||| B = A * 2 ^ 24 + R * 2 ^ 16 + G * 2 ^ 8 + B := by
    have := key (A * 2 ^ 16 + R * 2 ^ 8 + G) B 8 (by omega)
    rw [show (A * 2 ^ 16 + R * 2 ^ 8 + G) * 2 ^ 8 = A * 2 ^ 24 + R * 2 ^ 16 + G * 2 ^ 8 by omega] at this
    exact this
  rw [u32_or_nat _ _ (by omega) (by omega), k1, u32_or_nat _ _ (by omega) (by omega), k2, u32_or_nat _ _ (by omega) (by omega), k3]
  unfold pk
  omega
theorem pixel_eq (b g r a : Int) (hb : -9223372036854775808 ≤ b ∧ b ≤ 9223372036854775807) (hg : -9223372036854775808 ≤ g ∧ g ≤ 9223372036854775807) (hr : -9223372036854775808 ≤ r ∧ r ≤ 9223372036854775807) (ha : -9223372036854775808 ≤ a ∧ a ≤ 9223372036854775807) :
    laws_pixel.f b g r a = some (pk (r % 256) (g % 256) (b % 256) (a % 256)) := by
  rw [laws_pixel.f, and_255 a ha.1 ha.2, and_255 r hr.1 hr.2, and_255 g hg.1 hg.2, and_255 b hb.1 hb.2, or_pk (mod_byte _) (mod_byte _) (mod_byte _) (mod_byte _)]
theorem sub_rng {x y : Int} (hx : isByte x) (hy : isByte y) : -9223372036854775808 ≤ x - y ∧ x - y ≤ 9223372036854775807 := by
  obtain ⟨x0, x1⟩ := hx
  obtain ⟨y0, y1⟩ := hy
  omega
theorem byte_rng {x : Int} (hx : isByte x) : -9223372036854775808 ≤ x ∧ x ≤ 9223372036854775807 := by
  obtain ⟨x0, x1⟩ := hx
  omega
theorem sub_w {x y : Int} (hx : isByte x) (hy : isByte y) : wrap64 (x - y) = x - y := wrap64_lit (sub_rng hx hy).1 (sub_rng hx hy).2
theorem byte_mod {x : Int} (hx : isByte x) : x % 256 = x := by
  obtain ⟨x0, x1⟩ := hx
  omega
theorem less_pk {r g b a r' g' b' a' : Int} (hr : isByte r) (hg : isByte g) (hb : isByte b) (ha : isByte a) (hr' : isByte r') (hg' : isByte g') (hb' : isByte b') (ha' : isByte a') :
    laws_less.f (pk r g b a) (pk r' g' b' a') = some (pk ((r - r') % 256) ((g - g') % 256) ((b - b') % 256) ((a - a') % 256)) := by
  obtain ⟨p0, p1, p2, p3⟩ := part_pk hr hg hb ha
  obtain ⟨q0, q1, q2, q3⟩ := part_pk hr' hg' hb' ha'
  rw [laws_less.f, p0, Option.bind_some, q0, Option.bind_some, p1, Option.bind_some, q1, Option.bind_some, p2, Option.bind_some, q2, Option.bind_some, p3, Option.bind_some, q3, Option.bind_some]
  rw [sub_w hb hb', sub_w hg hg', sub_w hr hr', sub_w ha ha', pixel_eq _ _ _ _ (sub_rng hb hb') (sub_rng hg hg') (sub_rng hr hr') (sub_rng ha ha'), Option.bind_some]
theorem mean_w {x y : Int} : isByte x → isByte y → wrap64 (Int.tdiv (wrap64 (x + y)) 2) = avg x y := by
    rintro ⟨x0, x1⟩ ⟨y0, y1⟩
    rw [wrap64_lit (n := x + y) (by omega) (by omega), Int.tdiv_eq_ediv_of_nonneg (by omega), wrap64_lit (n := (x + y) / 2) (by omega) (by omega)]
    rfl
theorem between_pk {r g b a r' g' b' a' : Int} (hr : isByte r) (hg : isByte g) (hb : isByte b) (ha : isByte a) (hr' : isByte r') (hg' : isByte g') (hb' : isByte b') (ha' : isByte a') :
    laws_between.f (pk r g b a) (pk r' g' b' a') = some (pk (avg r r') (avg g g') (avg b b') (avg a a')) := by
  obtain ⟨p0, p1, p2, p3⟩ := part_pk hr hg hb ha
  obtain ⟨q0, q1, q2, q3⟩ := part_pk hr' hg' hb' ha'
  rw [laws_between.f, p0, Option.bind_some, q0, Option.bind_some, p1, Option.bind_some, q1, Option.bind_some, p2, Option.bind_some, q2, Option.bind_some, p3, Option.bind_some, q3, Option.bind_some]
  rw [mean_w hb hb', mean_w hg hg', mean_w hr hr', mean_w ha ha', pixel_eq _ _ _ _ (byte_rng (avg_byte hb hb')) (byte_rng (avg_byte hg hg')) (byte_rng (avg_byte hr hr')) (byte_rng (avg_byte ha ha')), Option.bind_some,
    byte_mod (avg_byte hb hb'), byte_mod (avg_byte hg hg'), byte_mod (avg_byte hr hr'), byte_mod (avg_byte ha ha')]
theorem held_eq (v : Int) : laws_held.f v = some (if v < 0 then 0 else if v > 255 then 255 else v) := by
  unfold laws_held.f mn mx
  congr 1
  repeat' split
  all_goals omega
theorem full_one {x y z : Int} : isByte x → isByte y → isByte z → laws_held.f (wrap64 (wrap64 (x + y) - z)) = some (clampF x y z) := by
    rintro ⟨x0, x1⟩ ⟨y0, y1⟩ ⟨z0, z1⟩
    rw [wrap64_lit (n := x + y) (by omega) (by omega), wrap64_lit (by omega) (by omega), held_eq]
    unfold clampF
    rfl
theorem half_one {x y : Int} : isByte x → isByte y → laws_held.f (wrap64 (x + wrap64 (Int.tdiv (wrap64 (x - y)) 2))) = some (clampH x y) := by
    rintro ⟨x0, x1⟩ ⟨y0, y1⟩
    obtain ⟨t0, t1⟩ := tdiv2 (x - y) (by omega) (by omega)
    rw [wrap64_lit (n := x - y) (by omega) (by omega), wrap64_lit (n := (x - y).tdiv 2) (by omega) (by omega), wrap64_lit (by omega) (by omega), held_eq]
    unfold clampH
    rfl
theorem rd_range (n : Nat) (f : Nat → Int) (i : Nat) (h : i < n) : rd ((List.range n).map f) (i : Int) = f i := by
  unfold rd
  rw [Int.toNat_natCast, List.getD_eq_getElem?_getD, List.getElem?_map, List.getElem?_range h]
  rfl
theorem range_snoc (n : Nat) (f : Nat → Int) : (List.range (n + 1)).map f = (List.range n).map f ++ [f n] := by
  rw [List.range_succ, List.map_append]; rfl
theorem range_len (n : Nat) (f : Nat → Int) : ((List.range n).map f).length = n := by rw [List.length_map, List.length_range]
theorem w64 (n : Nat) (h : n < 9223372036854775808) : wrap64 (n : Int) = n := wrap64_lit (by omega) (by omega)
theorem w64' (m : Int) (n : Nat) (e : m = n) (h : n < 9223372036854775808) : wrap64 m = n := by rw [e]; exact w64 n h

theorem wa (i c : Nat) (h : i + c < 9223372036854775808) : wrap64 ((i : Int) + (c : Int)) = ((i + c : Nat) : Int) := w64' _ _ (by omega) h
theorem ws (i c : Nat) (hc : c ≤ i) (h : i < 9223372036854775808) : wrap64 ((i : Int) - (c : Int)) = ((i - c : Nat) : Int) := w64' _ _ (by omega) (by omega)

theorem pk_bytes {r g b a : Int} (hr : isByte r) (hg : isByte g) (hb : isByte b) (ha : isByte a) :
    (pk r g b a / 65536) % 256 = r ∧ (pk r g b a / 256) % 256 = g ∧ (pk r g b a) % 256 = b ∧ (pk r g b a / 16777216) % 256 = a := by
  obtain ⟨r0, r1⟩ := hr
  obtain ⟨g0, g1⟩ := hg
  obtain ⟨b0, b1⟩ := hb
  obtain ⟨a0, a1⟩ := ha
  unfold pk
  refine ⟨?_, ?_, ?_, ?_⟩ <;> omega
theorem range_four (n : Nat) (f : Nat → Int) : (List.range (4 * (n + 1))).map f = (List.range (4 * n)).map f ++ [f (4 * n), f (4 * n + 1), f (4 * n + 2), f (4 * n + 3)] := by
  rw [show 4 * (n + 1) = 4 * n + 1 + 1 + 1 + 1 by omega, range_snoc, range_snoc, range_snoc, range_snoc]
  simp only [List.append_assoc, List.cons_append, List.nil_append]
theorem shr_nat (x s : Nat) (hs : s ≤ 9) : shr .i64 (x : Int) (s : Int) = ((x / 2 ^ s : Nat) : Int) := by
  unfold shr
  rw [show min (s : Int).toNat IntKind.i64.bits = s by simp only [IntKind.bits, Int.toNat_natCast]; omega]
  simp
theorem shl_one (s : Nat) (hs : s ≤ 9) : shl .i64 1 (s : Int) = ((2 ^ s : Nat) : Int) := by
  have hp := two_pow_le hs
  unfold shl
  rw [show min (s : Int).toNat IntKind.i64.bits = s by simp only [IntKind.bits, Int.toNat_natCast]; omega]
  have e : (1 : Int) * 2 ^ s = ((2 ^ s : Nat) : Int) := by simp
  rw [e]
  generalize 2 ^ s = q at hp ⊢
  exact i64_eq rfl (by omega) (by omega)
theorem pred_byte {f : Nat → Int} (hf : ∀ i, isByte (f i)) (m p top c : Nat) : isByte (predV m f p top c) := by
  unfold predV
  split
  · split
    · exact ⟨by decide, by decide⟩
    · exact ⟨by decide, by decide⟩
  · exact hf _
  · exact hf _
  · exact hf _
  · exact hf _
  · exact avg_byte (avg_byte (hf _) (hf _)) (hf _)
  · exact avg_byte (hf _) (hf _)
  · exact avg_byte (hf _) (hf _)
  · exact avg_byte (hf _) (hf _)
  · exact avg_byte (hf _) (hf _)
  · exact avg_byte (avg_byte (hf _) (hf _)) (avg_byte (hf _) (hf _))
  · split
    · exact hf _
    · exact hf _
  · exact clampF_byte _ _ _
  · exact clampH_byte _ _
  · exact ⟨by decide, by decide⟩
theorem ipx_ahead (dx : Nat → Int) (W b : Nat) (px : Nat → Int) : ∀ n q, 4 * n ≤ q → ipx dx W b px n q = px q
  | 0, _, _ => rfl
  | n + 1, q, h => by
    show step _ _ _ q = _
    unfold step
    rw [if_neg (by omega)]
    exact ipx_ahead dx W b px n q (by omega)
theorem step_off {f : Nat → Int} {p : Nat} {pv : Nat → Int} {q : Nat} (h : q + 3 < p ∨ p + 4 ≤ q) : pa (step f p pv) q = pa f q := by
  unfold pa step
  rw [if_neg (by omega), if_neg (by omega), if_neg (by omega), if_neg (by omega)]
theorem step_on {f : Nat → Int} {p : Nat} {pv : Nat → Int} : pa (step f p pv) p = pk ((f p + pv 0) % 256) ((f (p + 1) + pv 1) % 256) ((f (p + 2) + pv 2) % 256) ((f (p + 3) + pv 3) % 256) := by
  unfold pa step
  rw [if_pos (by omega), if_pos (by omega), if_pos (by omega), if_pos (by omega), u8_wrap, u8_wrap, u8_wrap, u8_wrap, Nat.sub_self, Nat.add_sub_cancel_left, Nat.add_sub_cancel_left, Nat.add_sub_cancel_left]
theorem tdiv_nat (m n : Nat) : Int.tdiv (m : Int) (n : Int) = ((m / n : Nat) : Int) := rfl
theorem tmod_nat (m n : Nat) : Int.tmod (m : Int) (n : Int) = ((m % n : Nat) : Int) := rfl
theorem pa_def0 (f : Nat → Int) (q : Nat) : pa f q = pk (f (q + 0)) (f (q + 1)) (f (q + 2)) (f (q + 3)) := rfl
theorem pa_def (f : Nat → Int) (q : Nat) : pa f q = pk (f q) (f (q + 1)) (f (q + 2)) (f (q + 3)) := rfl
theorem blocks_eq (n s : Nat) (hs : s ≤ 9) (hn : n ≤ 16384) (h1 : 1 ≤ n) : laws_blocks.f (n : Int) (s : Int) = some ((tl n s : Nat) : Int) := by
  have hp := two_pow_le hs
  have hp0 : 0 < 2 ^ s := Nat.two_pow_pos s
  unfold laws_blocks.f
  rw [if_pos (by omega), shl_one s hs, w64' ((n : Int) + ((2 ^ s : Nat) : Int)) (n + 2 ^ s) (by omega) (by omega), w64' (((n + 2 ^ s : Nat) : Int) - 1) (n + 2 ^ s - 1) (by omega) (by omega), shr_nat _ s hs]
  rfl
theorem joined_step {f : Nat → Int} (hf : ∀ i, isByte (f i)) (n i k : Nat) (hi : i < n) (hn : n ≤ 268435456) :
    laws_joined4.l0 (k + 1) ((List.range (4 * n)).map f) ((List.range i).map fun j => pa f (4 * j)) ((4 * i : Nat) : Int) =
      laws_joined4.l0 k ((List.range (4 * n)).map f) ((List.range (i + 1)).map fun j => pa f (4 * j)) ((4 * (i + 1) : Nat) : Int) := by
  have a0 : ((4 * i : Nat) : Int) < ((4 * n : Nat) : Int) := by omega
  have e1 : wrap64 (((4 * i : Nat) : Int) + 1) = ((4 * i + 1 : Nat) : Int) := wa (4 * i) 1 (by omega)
  have e2 : wrap64 (((4 * i : Nat) : Int) + 2) = ((4 * i + 2 : Nat) : Int) := wa (4 * i) 2 (by omega)
  have e3 : wrap64 (((4 * i : Nat) : Int) + 3) = ((4 * i + 3 : Nat) : Int) := wa (4 * i) 3 (by omega)
  have e4 : wrap64 (((4 * i : Nat) : Int) + 4) = ((4 * (i + 1) : Nat) : Int) := w64' _ _ (by omega) (by omega)
  have z : ∀ m : Nat, (0 : Int) ≤ (m : Int) := fun m => Int.natCast_nonneg m
  have l : ∀ c : Nat, c < 4 → ((4 * i + c : Nat) : Int) < ((4 * n : Nat) : Int) := fun c hc => by omega
  have wb : ∀ q, wrap64 (f q) = f q := fun q => wrap64_lit (byte_rng (hf q)).1 (byte_rng (hf q)).2
  rw [laws_joined4.l0, range_len, range_len, e1, e2, e3, e4]
  rw [if_pos (l 3 (by omega)), if_pos (z _), if_pos (l 2 (by omega)), if_pos (z _), if_pos (l 1 (by omega)), if_pos (z _), if_pos a0, if_pos (z _)]
  rw [rd_range _ f _ (by omega), rd_range _ f _ (by omega), rd_range _ f _ (by omega), rd_range _ f _ (by omega), wb, wb, wb, wb]
  rw [pixel_eq _ _ _ _ (byte_rng (hf _)) (byte_rng (hf _)) (byte_rng (hf _)) (byte_rng (hf _)), Option.bind_some, if_pos (by omega), byte_mod (hf _), byte_mod (hf _), byte_mod (hf _), byte_mod (hf _), range_snoc]
  rfl
theorem joined_all {f : Nat → Int} (hf : ∀ i, isByte (f i)) (n : Nat) (hn : n ≤ 268435456) : ∀ m i k : Nat, i + m = n →
    laws_joined4.l0 (m + k + 1) ((List.range (4 * n)).map f) ((List.range i).map fun j => pa f (4 * j)) ((4 * i : Nat) : Int) = some ((List.range n).map fun j => pa f (4 * j))
  | 0, i, k, h => by
    have e3 : wrap64 (((4 * i : Nat) : Int) + 3) = ((4 * i + 3 : Nat) : Int) := w64' _ _ (by omega) (by omega)
    rw [laws_joined4.l0, range_len, e3, if_neg (by omega), show i = n by omega]
  | m + 1, i, k, h => by
    rw [show m + 1 + k + 1 = (m + k + 1) + 1 by omega, joined_step hf n i _ (by omega) hn]
    exact joined_all hf n hn m (i + 1) k (by omega)
theorem joined_eq {f : Nat → Int} (hf : ∀ i, isByte (f i)) (n : Nat) (hn : n ≤ 268435456) (k : Nat) (hk : n + 1 ≤ k) :
    laws_joined4.f k ((List.range (4 * n)).map f) = some ((List.range n).map fun j => pa f (4 * j)) := by
  obtain ⟨d, rfl⟩ := Nat.exists_eq_add_of_le hk
  have := joined_all hf n hn n 0 d (by omega)
  rw [show n + d + 1 = n + 1 + d by omega] at this
  exact this

theorem split_step {f : Nat → Int} (hf : ∀ i, isByte (f i)) (n i k : Nat) (hi : i < n) (hn : n ≤ 268435456) :
    laws_split4.l0 (k + 1) ((List.range n).map fun j => pa f (4 * j)) ((List.range (4 * i)).map f) (i : Int) =
      laws_split4.l0 k ((List.range n).map fun j => pa f (4 * j)) ((List.range (4 * (i + 1))).map f) ((i + 1 : Nat) : Int) := by
  have e1 : wrap64 ((i : Int) + 1) = ((i + 1 : Nat) : Int) := wa i 1 (by omega)
  obtain ⟨b0, b1, b2, b3⟩ := pk_bytes (hf (4 * i)) (hf (4 * i + 1)) (hf (4 * i + 2)) (hf (4 * i + 3))
  rw [laws_split4.l0, range_len, range_len, e1, if_pos (by omega), if_pos (by omega), rd_range n _ i hi]
  simp only [Option.bind_some]
  rw [if_pos (by simp only [List.length_cons, List.length_nil]; omega)]
  unfold pa
  rw [b0, b1, b2, b3, range_four]
theorem split_all {f : Nat → Int} (hf : ∀ i, isByte (f i)) (n : Nat) (hn : n ≤ 268435456) : ∀ m i k : Nat, i + m = n →
    laws_split4.l0 (m + k + 1) ((List.range n).map fun j => pa f (4 * j)) ((List.range (4 * i)).map f) (i : Int) = some ((List.range (4 * n)).map f)
  | 0, i, k, h => by
    rw [laws_split4.l0, range_len, if_neg (by omega), show i = n by omega]
  | m + 1, i, k, h => by
    rw [show m + 1 + k + 1 = (m + k + 1) + 1 by omega, split_step hf n i _ (by omega) hn]
    exact split_all hf n hn m (i + 1) k (by omega)
theorem split_eq {f : Nat → Int} (hf : ∀ i, isByte (f i)) (n : Nat) (hn : n ≤ 268435456) (k : Nat) (hk : n + 1 ≤ k) :
    laws_split4.f k ((List.range n).map fun j => pa f (4 * j)) = some ((List.range (4 * n)).map f) := by
  obtain ⟨d, rfl⟩ := Nat.exists_eq_add_of_le hk
  have := split_all hf n hn n 0 d (by omega)
  rw [show n + d + 1 = n + 1 + d by omega] at this
  rw [laws_split4.f]
  exact this

/-! ### what is taken away is put back -/
theorem predV_congr {f g : Nat → Int} {p : Nat} (h : ∀ q, q < p → f q = g q) (m top c : Nat) (hc : c < 4) (h4 : 4 ≤ p) (ht : top + 8 ≤ p) (ht4 : 4 ≤ top) : predV m f p top c = predV m g p top c := by
  have a1 : f (p - (4 - c)) = g (p - (4 - c)) := h _ (by omega)
  have a2 : f (top + c) = g (top + c) := h _ (by omega)
  have a3 : f (top + (4 + c)) = g (top + (4 + c)) := h _ (by omega)
  have a4 : f (top - (4 - c)) = g (top - (4 - c)) := h _ (by omega)
  have s : selL f p top ↔ selL g p top := by
    unfold selL
    rw [h (top - 4) (by omega), h (top - 3) (by omega), h (top - 2) (by omega), h (top - 1) (by omega), h (top + 0) (by omega), h (top + 1) (by omega), h (top + 2) (by omega), h (top + 3) (by omega),
      h (p - 4) (by omega), h (p - 3) (by omega), h (p - 2) (by omega), h (p - 1) (by omega)]
  unfold predV
  rw [a1, a2, a3, a4]
  split
  all_goals first | rfl | skip
  by_cases hs : selL f p top
  · rw [if_pos hs, if_pos (s.1 hs)]
  · rw [if_neg hs, if_neg (fun h => hs (s.2 h))]
theorem pvAt_congr {dx f g : Nat → Int} {W b i : Nat} (hW : 1 ≤ W) (h : ∀ q, q < 4 * i → f q = g q) (c : Nat) (hc : c < 4) : pvAt dx W b f i c = pvAt dx W b g i c := by
  unfold pvAt
  by_cases h0 : i = 0
  · rw [if_pos h0, if_pos h0]; rfl
  rw [if_neg h0, if_neg h0]
  by_cases h1 : i < W
  · rw [if_pos h1, if_pos h1]
    exact h _ (by omega)
  rw [if_neg h1, if_neg h1]
  by_cases h2 : i % W = 0
  · rw [if_pos h2, if_pos h2]
    exact h _ (by omega)
  rw [if_neg h2, if_neg h2]
  have hlt := Nat.mod_lt i (show 0 < W by omega)
  have hi1 : W + 1 ≤ i := by
    by_cases he : i = W
    · rw [he, Nat.mod_self] at h2; exact absurd rfl h2
    · omega
  have hW2 : 2 ≤ W := by omega
  exact predV_congr h _ _ c hc (by omega) (by omega) (by omega)
/-- The bytes with the predictions taken away. -/
def res (dx : Nat → Int) (W b : Nat) (px : Nat → Int) (q : Nat) : Int := (px q - pvAt dx W b px (q / 4) (q % 4)) % 256
theorem res_byte (dx : Nat → Int) (W b : Nat) (px : Nat → Int) (q : Nat) : isByte (res dx W b px q) := mod_byte _
theorem back_all {dx px : Nat → Int} {W b : Nat} (hr : ∀ i, isByte (px i)) (hW : 1 ≤ W) : ∀ n q, q < 4 * n → ipx dx W b (res dx W b px) n q = px q
  | 0, q, h => by omega
  | n + 1, q, h => by
    show step _ _ _ q = _
    unfold step
    by_cases c : 4 * n ≤ q ∧ q < 4 * n + 4
    · rw [if_pos c, u8_wrap, ipx_ahead dx W b _ n q c.1, pvAt_congr hW (back_all hr hW n) (q - 4 * n) (by omega)]
      unfold res
      rw [show q / 4 = n by omega, show q % 4 = q - 4 * n by omega]
      have := hr q
      generalize pvAt dx W b px n (q - 4 * n) = v
      obtain ⟨x0, x1⟩ := this
      omega
    · rw [if_neg c]
      exact back_all hr hW n q (by omega)
end Go.Proofs.Ytgjcikajfnlocaa
