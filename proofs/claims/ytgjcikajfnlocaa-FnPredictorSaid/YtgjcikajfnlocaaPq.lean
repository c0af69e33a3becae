/-
  OUR OWN: THE PLAIN LAW, the loops: 'spec_Predictor.f' is 'ipx'.
-/
import Derived.Test.YtgjcikajfnlocaaPp
namespace Go.Proofs.Ytgjcikajfnlocaa
open Go.RowKit Go.Proofs.Ytgjcikajfnlocaa.PFnPredictor Go.Proofs.YtgjcikajfnlocaaW.PrintWords Go.Proofs.YtgjcikajfnlocaaW.PrintLast
set_option linter.unusedVariables false

theorem rd_range (n : Nat) (f : Nat → Int) (i : Nat) (h : i < n) : rd ((List.range n).map f) (i : Int) = f i := by
  unfold rd
  rw [Int.toNat_natCast, List.getD_eq_getElem?_getD, List.getElem?_map, List.getElem?_range h]
  rfl
theorem range_snoc (n : Nat) (f : Nat → Int) : (List.range (n + 1)).map f = (List.range n).map f ++ [f n] := by
  rw [List.range_succ, List.map_append]; rfl
theorem range_len (n : Nat) (f : Nat → Int) : ((List.range n).map f).length = n := by rw [List.length_map, List.length_range]
theorem w64 (n : Nat) (h : n < 9223372036854775808) : wrap64 (n : Int) = n := wrap64_lit (by omega) (by omega)
theorem w64' (m : Int) (n : Nat) (e : m = n) (h : n < 9223372036854775808) : wrap64 m = n := by rw [e]; exact w64 n h

theorem wa (i c : Nat) (h : i + c < 9223372036854775808) : wrap64 ((i : Int) + (c : Int)) = ((i + c : Nat) : Int) := w64' _ _ (by omega) h
theorem ws (i c : Nat) (hc : c ≤ i) (h : i < 9223372036854775808) : wrap64 ((i : Int) - (c : Int)) = ((i - c : Nat) : Int) := w64' _ _ (by omega) (by omega)

/-! ### joined -/
theorem or_pk {r g b a : Int} (hr : isByte r) (hg : isByte g) (hb : isByte b) (ha : isByte a) :
    Go.bits .or .u32 (Go.bits .or .u32 (Go.bits .or .u32 (((a % 4294967296) * 16777216) % 4294967296) (((r % 4294967296) * 65536) % 4294967296)) (((g % 4294967296) * 256) % 4294967296)) (b % 4294967296) = pk r g b a := by
  obtain ⟨r0, r1⟩ := hr
  obtain ⟨g0, g1⟩ := hg
  obtain ⟨b0, b1⟩ := hb
  obtain ⟨a0, a1⟩ := ha
  obtain ⟨R, rfl⟩ := Int.eq_ofNat_of_zero_le r0
  obtain ⟨G, rfl⟩ := Int.eq_ofNat_of_zero_le g0
  obtain ⟨B, rfl⟩ := Int.eq_ofNat_of_zero_le b0
  obtain ⟨A, rfl⟩ := Int.eq_ofNat_of_zero_le a0
  have e3 : (((A : Nat) : Int) % 4294967296 * 16777216) % 4294967296 = ((A * 2 ^ 24 : Nat) : Int) := by omega
  have e2 : (((R : Nat) : Int) % 4294967296 * 65536) % 4294967296 = ((R * 2 ^ 16 : Nat) : Int) := by omega
  have e1 : (((G : Nat) : Int) % 4294967296 * 256) % 4294967296 = ((G * 2 ^ 8 : Nat) : Int) := by omega
  have e0 : ((B : Nat) : Int) % 4294967296 = ((B : Nat) : Int) := by omega
  rw [e3, e2, e1, e0]
  have key : ∀ X Y s : Nat, Y < 2 ^ s → X * 2 ^ s ||| Y = X * 2 ^ s + Y := fun X Y s h => by rw [← Nat.shiftLeft_eq, ← Nat.shiftLeft_add_eq_or_of_lt h]
  have k1 : A * 2 ^ 24 ||| R * 2 ^ 16 = A * 2 ^ 24 + R * 2 ^ 16 := key A _ 24 (by omega)
  have k2 : (A * 2 ^ 24 + R * 2 ^ 16) ||| G * 2 ^ 8 = A * 2 ^ 24 + R * 2 ^ 16 + G * 2 ^ 8 := by
    have := key (A * 2 ^ 8 + R) (G * 2 ^ 8) 16 (by omega)
    rw [show (A * 2 ^ 8 + R) * 2 ^ 16 = A * 2 ^ 24 + R * 2 ^ 16 by omega] at this
    exact this
  have k3 : (A * 2 ^ 24 + R * 2 ^ 16 + G * 2 ^ 8) ||| B = A * 2 ^ 24 + R * 2 ^ 16 + G * 2 ^ 8 + B := by
    have := key (A * 2 ^ 16 + R * 2 ^ 8 + G) B 8 (by omega)
    rw [show (A * 2 ^ 16 + R * 2 ^ 8 + G) * 2 ^ 8 = A * 2 ^ 24 + R * 2 ^ 16 + G * 2 ^ 8 by omega] at this
    exact this
  rw [u32_or_nat _ _ (by omega) (by omega), k1, u32_or_nat _ _ (by omega) (by omega), k2, u32_or_nat _ _ (by omega) (by omega), k3]
  unfold pk
  omega
theorem joined_step {f : Nat → Int} (hf : ∀ i, isByte (f i)) (n i k : Nat) (hi : i < n) (hn : n ≤ 268435456) :
    spec_joined.l0 (k + 1) ((List.range (4 * n)).map f) ((List.range i).map fun j => pa f (4 * j)) ((4 * i : Nat) : Int) =
      spec_joined.l0 k ((List.range (4 * n)).map f) ((List.range (i + 1)).map fun j => pa f (4 * j)) ((4 * (i + 1) : Nat) : Int) := by
  have a0 : ((4 * i : Nat) : Int) < ((4 * n : Nat) : Int) := by omega
  have e1 : wrap64 (((4 * i : Nat) : Int) + 1) = ((4 * i + 1 : Nat) : Int) := w64' _ _ (by omega) (by omega)
  have e2 : wrap64 (((4 * i : Nat) : Int) + 2) = ((4 * i + 2 : Nat) : Int) := w64' _ _ (by omega) (by omega)
  have e3 : wrap64 (((4 * i : Nat) : Int) + 3) = ((4 * i + 3 : Nat) : Int) := w64' _ _ (by omega) (by omega)
  have e4 : wrap64 (((4 * i : Nat) : Int) + 4) = ((4 * (i + 1) : Nat) : Int) := w64' _ _ (by omega) (by omega)
  have z : ∀ m : Nat, (0 : Int) ≤ (m : Int) := fun m => Int.natCast_nonneg m
  have l : ∀ c : Nat, c < 4 → ((4 * i + c : Nat) : Int) < ((4 * n : Nat) : Int) := fun c hc => by omega
  rw [spec_joined.l0, range_len, range_len, e1, e2, e3, e4]
  rw [if_pos (l 3 (by omega)), if_pos (z _), if_pos (z _), if_pos a0, if_pos (z _), if_pos (l 1 (by omega)), if_pos (z _), if_pos (l 2 (by omega)), if_pos (by omega)]
  rw [rd_range _ f _ (by omega), rd_range _ f _ (by omega), rd_range _ f _ (by omega), rd_range _ f _ (by omega), or_pk (hf _) (hf _) (hf _) (hf _), range_snoc]
  rfl
theorem joined_all {f : Nat → Int} (hf : ∀ i, isByte (f i)) (n : Nat) (hn : n ≤ 268435456) : ∀ m i k : Nat, i + m = n →
    spec_joined.l0 (m + k + 1) ((List.range (4 * n)).map f) ((List.range i).map fun j => pa f (4 * j)) ((4 * i : Nat) : Int) = some ((List.range n).map fun j => pa f (4 * j))
  | 0, i, k, h => by
    have e3 : wrap64 (((4 * i : Nat) : Int) + 3) = ((4 * i + 3 : Nat) : Int) := w64' _ _ (by omega) (by omega)
    rw [spec_joined.l0, range_len, e3, if_neg (by omega), show i = n by omega]
  | m + 1, i, k, h => by
    rw [show m + 1 + k + 1 = (m + k + 1) + 1 by omega, joined_step hf n i _ (by omega) hn]
    exact joined_all hf n hn m (i + 1) k (by omega)
theorem joined_eq {f : Nat → Int} (hf : ∀ i, isByte (f i)) (n : Nat) (hn : n ≤ 268435456) (k : Nat) (hk : n + 1 ≤ k) :
    spec_joined.f k ((List.range (4 * n)).map f) = some ((List.range n).map fun j => pa f (4 * j)) := by
  obtain ⟨d, rfl⟩ := Nat.exists_eq_add_of_le hk
  have := joined_all hf n hn n 0 d (by omega)
  rw [show n + d + 1 = n + 1 + d by omega] at this
  exact this

/-! ### split -/
theorem pk_bytes {r g b a : Int} (hr : isByte r) (hg : isByte g) (hb : isByte b) (ha : isByte a) :
    (pk r g b a / 65536) % 256 = r ∧ (pk r g b a / 256) % 256 = g ∧ (pk r g b a) % 256 = b ∧ (pk r g b a / 16777216) % 256 = a := by
  obtain ⟨r0, r1⟩ := hr
  obtain ⟨g0, g1⟩ := hg
  obtain ⟨b0, b1⟩ := hb
  obtain ⟨a0, a1⟩ := ha
  unfold pk
  refine ⟨?_, ?_, ?_, ?_⟩ <;> omega
theorem range_four (n : Nat) (f : Nat → Int) : (List.range (4 * (n + 1))).map f = (List.range (4 * n)).map f ++ [f (4 * n), f (4 * n + 1), f (4 * n + 2), f (4 * n + 3)] := by
  rw [show 4 * (n + 1) = 4 * n + 1 + 1 + 1 + 1 by omega, range_snoc, range_snoc, range_snoc, range_snoc]
  simp only [List.append_assoc, List.cons_append, List.nil_append]
theorem split_step {f : Nat → Int} (hf : ∀ i, isByte (f i)) (n i k : Nat) (hi : i < n) (hn : n ≤ 268435456) :
    spec_split.l0 (k + 1) ((List.range (4 * i)).map f) ((List.range n).map fun j => pa f (4 * j)) (n : Int) (i : Int) =
      spec_split.l0 k ((List.range (4 * (i + 1))).map f) ((List.range n).map fun j => pa f (4 * j)) (n : Int) ((i + 1 : Nat) : Int) := by
  have e1 : wrap64 ((i : Int) + 1) = ((i + 1 : Nat) : Int) := w64' _ _ (by omega) (by omega)
  obtain ⟨b0, b1, b2, b3⟩ := pk_bytes (hf (4 * i)) (hf (4 * i + 1)) (hf (4 * i + 2)) (hf (4 * i + 3))
  rw [spec_split.l0, range_len, range_len, e1, if_pos (by omega), if_pos (by omega), if_pos (by omega), rd_range n _ i hi]
  simp only [Option.bind_some]
  rw [if_pos (by simp only [List.length_cons, List.length_nil]; omega)]
  unfold pa
  rw [b0, b1, b2, b3, range_four]
theorem split_all {f : Nat → Int} (hf : ∀ i, isByte (f i)) (n : Nat) (hn : n ≤ 268435456) : ∀ m i k : Nat, i + m = n →
    spec_split.l0 (m + k + 1) ((List.range (4 * i)).map f) ((List.range n).map fun j => pa f (4 * j)) (n : Int) (i : Int) = some ((List.range (4 * n)).map f)
  | 0, i, k, h => by
    rw [spec_split.l0, if_neg (by omega), show i = n by omega]
  | m + 1, i, k, h => by
    rw [show m + 1 + k + 1 = (m + k + 1) + 1 by omega, split_step hf n i _ (by omega) hn]
    exact split_all hf n hn m (i + 1) k (by omega)
theorem split_eq {f : Nat → Int} (hf : ∀ i, isByte (f i)) (n : Nat) (hn : n ≤ 268435456) (k : Nat) (hk : n + 1 ≤ k) :
    spec_split.f k ((List.range n).map fun j => pa f (4 * j)) = some ((List.range (4 * n)).map f) := by
  obtain ⟨d, rfl⟩ := Nat.exists_eq_add_of_le hk
  have := split_all hf n hn n 0 d (by omega)
  rw [show n + d + 1 = n + 1 + d by omega] at this
  rw [spec_split.f, range_len]
  exact this

/-! ### unpredicted -/
theorem shr_nat (x s : Nat) (hs : s ≤ 9) : shr .i64 (x : Int) (s : Int) = ((x / 2 ^ s : Nat) : Int) := by
  unfold shr
  rw [show min (s : Int).toNat IntKind.i64.bits = s by simp only [IntKind.bits, Int.toNat_natCast]; omega]
  simp
theorem shl_one (s : Nat) (hs : s ≤ 9) : shl .i64 1 (s : Int) = ((2 ^ s : Nat) : Int) := by
  have hp := two_pow_le hs
  unfold shl
  rw [show min (s : Int).toNat IntKind.i64.bits = s by simp only [IntKind.bits, Int.toNat_natCast]; omega]
  have e : (1 : Int) * 2 ^ s = ((2 ^ s : Nat) : Int) := by simp
  rw [e]
  generalize 2 ^ s = q at hp ⊢
  exact i64_eq rfl (by omega) (by omega)
theorem rounded_eq (n s : Nat) (hs : s ≤ 9) (hn : n ≤ 16384) (h1 : 1 ≤ n) : spec_rounded.f (n : Int) (s : Int) = some ((tl n s : Nat) : Int) := by
  have hp := two_pow_le hs
  have hp0 : 0 < 2 ^ s := Nat.two_pow_pos s
  unfold spec_rounded.f
  rw [if_pos (by omega), shl_one s hs, w64' ((n : Int) + ((2 ^ s : Nat) : Int)) (n + 2 ^ s) (by omega) (by omega), w64' (((n + 2 ^ s : Nat) : Int) - 1) (n + 2 ^ s - 1) (by omega) (by omega), shr_nat _ s hs]
  rfl
theorem pred_byte {f : Nat → Int} (hf : ∀ i, isByte (f i)) (m p top c : Nat) : isByte (predV m f p top c) := by
  unfold predV
  split
  · split
    · exact ⟨by decide, by decide⟩
    · exact ⟨by decide, by decide⟩
  · exact hf _
  · exact hf _
  · exact hf _
  · exact hf _
  · exact avg_byte (avg_byte (hf _) (hf _)) (hf _)
  · exact avg_byte (hf _) (hf _)
  · exact avg_byte (hf _) (hf _)
  · exact avg_byte (hf _) (hf _)
  · exact avg_byte (hf _) (hf _)
  · exact avg_byte (avg_byte (hf _) (hf _)) (avg_byte (hf _) (hf _))
  · split
    · exact hf _
    · exact hf _
  · exact clampF_byte _ _ _
  · exact clampH_byte _ _
  · exact ⟨by decide, by decide⟩
/-- Pixels behind the one in hand are as they came. -/
theorem ipx_ahead (dx : Nat → Int) (W b : Nat) (px : Nat → Int) : ∀ n q, 4 * n ≤ q → ipx dx W b px n q = px q
  | 0, _, _ => rfl
  | n + 1, q, h => by
    show step _ _ _ q = _
    unfold step
    rw [if_neg (by omega)]
    exact ipx_ahead dx W b px n q (by omega)
theorem step_off {f : Nat → Int} {p : Nat} {pv : Nat → Int} {q : Nat} (h : q + 3 < p ∨ p + 4 ≤ q) : pa (step f p pv) q = pa f q := by
  unfold pa step
  rw [if_neg (by omega), if_neg (by omega), if_neg (by omega), if_neg (by omega)]
theorem step_on {f : Nat → Int} {p : Nat} {pv : Nat → Int} : pa (step f p pv) p = pk ((f p + pv 0) % 256) ((f (p + 1) + pv 1) % 256) ((f (p + 2) + pv 2) % 256) ((f (p + 3) + pv 3) % 256) := by
  unfold pa step
  rw [if_pos (by omega), if_pos (by omega), if_pos (by omega), if_pos (by omega), u8_wrap, u8_wrap, u8_wrap, u8_wrap, Nat.sub_self, Nat.add_sub_cancel_left, Nat.add_sub_cancel_left, Nat.add_sub_cancel_left]
/-- The pixels that stand when i of them are put back. -/
def Rl (dx : Nat → Int) (W b : Nat) (px : Nat → Int) (i : Nat) : List Int := (List.range i).map fun j => pa (ipx dx W b px i) (4 * j)
theorem Rl_len (dx : Nat → Int) (W b : Nat) (px : Nat → Int) (i : Nat) : (Rl dx W b px i).length = i := range_len _ _
theorem Rl_rd (dx : Nat → Int) (W b : Nat) (px : Nat → Int) (i j : Nat) (h : j < i) : rd (Rl dx W b px i) (j : Int) = pa (ipx dx W b px i) (4 * j) := rd_range _ _ _ h
theorem Rl_snoc (dx : Nat → Int) (W b : Nat) (px : Nat → Int) (i : Nat) : Rl dx W b px (i + 1) = Rl dx W b px i ++ [pa (ipx dx W b px (i + 1)) (4 * i)] := by
  unfold Rl
  rw [range_snoc]
  congr 1
  refine List.map_congr_left fun j hj => ?_
  have := List.mem_range.1 hj
  exact step_off (Or.inl (by omega))
theorem unp_add {dx : Nat → Int} {W b : Nat} {px : Nat → Int} (hr : ∀ i, isByte (px i)) (i k : Nat) (p0 p1 p2 p3 : Int) (h0 : p0 = pvAt dx W b (ipx dx W b px i) i 0) (h1 : p1 = pvAt dx W b (ipx dx W b px i) i 1)
    (h2 : p2 = pvAt dx W b (ipx dx W b px i) i 2) (h3 : p3 = pvAt dx W b (ipx dx W b px i) i 3) :
    spec_added.f (k + 5) (pa px (4 * i)) (pk p0 p1 p2 p3) = some (pa (ipx dx W b px (i + 1)) (4 * i)) := by
  have hF := ipx_byte (dx := dx) (W := W) (b := b) hr i
  have hp : ∀ c, isByte (pvAt dx W b (ipx dx W b px i) i c) := fun c => by
    unfold pvAt
    repeat' split
    all_goals exact pred_byte hF _ _ _ _
  have e : pa (ipx dx W b px (i + 1)) (4 * i) = _ := step_on
  rw [e, ipx_ahead dx W b px i _ (by omega), ipx_ahead dx W b px i _ (by omega), ipx_ahead dx W b px i _ (by omega), ipx_ahead dx W b px i _ (by omega), h0, h1, h2, h3]
  exact added_pk (hr _) (hr _) (hr _) (hr _) (hp _) (hp _) (hp _) (hp _) k
theorem tdiv_nat (m n : Nat) : Int.tdiv (m : Int) (n : Int) = ((m / n : Nat) : Int) := rfl
theorem tmod_nat (m n : Nat) : Int.tmod (m : Int) (n : Int) = ((m % n : Nat) : Int) := rfl
theorem pa_def0 (f : Nat → Int) (q : Nat) : pa f q = pk (f (q + 0)) (f (q + 1)) (f (q + 2)) (f (q + 3)) := rfl
theorem pa_def (f : Nat → Int) (q : Nat) : pa f q = pk (f q) (f (q + 1)) (f (q + 2)) (f (q + 3)) := rfl
/-- A fact kept out of omega's sight. -/
structure Hid (p : Prop) : Prop where
  out : p
theorem unp_first {dx px : Nat → Int} {W b n T : Nat} (hr : ∀ i, isByte (px i)) (hW : 1 ≤ W) (hn2 : n ≤ 268435456) (i k : Nat) (hi : i < n) (h0 : i = 0) :
    spec_unpredicted.l0 (k + 5 + 1) ((List.range n).map fun j => pa px (4 * j)) (W : Int) (Rl dx W b px i) (tl W b : Int) (i : Int) 0 (b : Int) ((List.range T).map fun j => pa dx (4 * j)) =
      spec_unpredicted.l0 (k + 5) ((List.range n).map fun j => pa px (4 * j)) (W : Int) (Rl dx W b px (i + 1)) (tl W b : Int) ((i + 1 : Nat) : Int) 0 (b : Int) ((List.range T).map fun j => pa dx (4 * j)) := by
  have z : ∀ m : Nat, (0 : Int) ≤ (m : Int) := fun m => Int.natCast_nonneg m
  have e1 : wrap64 ((i : Int) + 1) = ((i + 1 : Nat) : Int) := w64' _ _ (by omega) (by omega)
  rw [Rl_snoc, spec_unpredicted.l0, range_len, range_len, Rl_len, if_pos (by omega), if_neg (by omega)]
  rw [if_pos (by omega), if_pos (z _), rd_range n _ i hi, ← pk_ff, unp_add hr (dx := dx) (W := W) (b := b) i k 0 0 0 255 (by rw [pvAt, if_pos h0]; rfl) (by rw [pvAt, if_pos h0]; rfl) (by rw [pvAt, if_pos h0]; rfl) (by rw [pvAt, if_pos h0]; rfl),
      Option.bind_some, if_pos (by omega), e1]
theorem unp_top {dx px : Nat → Int} {W b n T : Nat} (hr : ∀ i, isByte (px i)) (hW : 1 ≤ W) (hn2 : n ≤ 268435456) (i k : Nat) (hi : i < n) (h0 : ¬ i = 0) (h1 : i < W) :
    spec_unpredicted.l0 (k + 5 + 1) ((List.range n).map fun j => pa px (4 * j)) (W : Int) (Rl dx W b px i) (tl W b : Int) (i : Int) 0 (b : Int) ((List.range T).map fun j => pa dx (4 * j)) =
      spec_unpredicted.l0 (k + 5) ((List.range n).map fun j => pa px (4 * j)) (W : Int) (Rl dx W b px (i + 1)) (tl W b : Int) ((i + 1 : Nat) : Int) 0 (b : Int) ((List.range T).map fun j => pa dx (4 * j)) := by
  have z : ∀ m : Nat, (0 : Int) ≤ (m : Int) := fun m => Int.natCast_nonneg m
  have e1 : wrap64 ((i : Int) + 1) = ((i + 1 : Nat) : Int) := w64' _ _ (by omega) (by omega)
  rw [Rl_snoc, spec_unpredicted.l0, range_len, range_len, Rl_len, if_pos (by omega), if_neg (by omega)]
  rw [if_neg (by omega), tdiv_nat, tmod_nat, w64 (i / W) (Nat.lt_of_le_of_lt (Nat.div_le_self _ _) (by omega))]
  have em : wrap64 ((i : Int) - 1) = ((i - 1 : Nat) : Int) := w64' _ _ (by omega) (by omega)
  have q : ∀ c, c < 4 → ipx dx W b px i (4 * (i - 1) + c) = pvAt dx W b (ipx dx W b px i) i c := fun c hc => by
    rw [pvAt, if_neg h0, if_pos h1]
    show _ = ipx dx W b px i (4 * i - (4 - c))
    congr 1; omega
  rw [if_pos (by rw [Nat.div_eq_of_lt h1]; rfl), em, if_pos (z _), if_pos (by omega), if_pos (z _), rd_range n _ i hi, Rl_rd _ _ _ _ _ _ (by omega), pa_def0 (ipx dx W b px i),
      unp_add hr (dx := dx) (W := W) (b := b) i k _ _ _ _ (q 0 (by omega)) (q 1 (by omega)) (q 2 (by omega)) (q 3 (by omega)), Option.bind_some, if_pos (by omega), e1]
theorem unp_left {dx px : Nat → Int} {W b n T : Nat} (hr : ∀ i, isByte (px i)) (hW : 1 ≤ W) (hn2 : n ≤ 268435456) (i k : Nat) (hi : i < n) (h0 : ¬ i = 0) (h1 : ¬ i < W) (h2 : i % W = 0) :
    spec_unpredicted.l0 (k + 5 + 1) ((List.range n).map fun j => pa px (4 * j)) (W : Int) (Rl dx W b px i) (tl W b : Int) (i : Int) 0 (b : Int) ((List.range T).map fun j => pa dx (4 * j)) =
      spec_unpredicted.l0 (k + 5) ((List.range n).map fun j => pa px (4 * j)) (W : Int) (Rl dx W b px (i + 1)) (tl W b : Int) ((i + 1 : Nat) : Int) 0 (b : Int) ((List.range T).map fun j => pa dx (4 * j)) := by
  have z : ∀ m : Nat, (0 : Int) ≤ (m : Int) := fun m => Int.natCast_nonneg m
  have e1 : wrap64 ((i : Int) + 1) = ((i + 1 : Nat) : Int) := w64' _ _ (by omega) (by omega)
  have hdv : 1 ≤ i / W := (Nat.le_div_iff_mul_le (by omega)).2 (by omega)
  have hdw := Nat.lt_of_le_of_lt (Nat.div_le_self i W) (show i < 9223372036854775808 by omega)
  have ew : wrap64 ((i : Int) - (W : Int)) = ((i - W : Nat) : Int) := w64' _ _ (by omega) (by omega)
  rw [Rl_snoc, spec_unpredicted.l0, range_len, range_len, Rl_len, if_pos (by omega), if_neg (by omega)]
  rw [if_neg (by omega), tdiv_nat, tmod_nat, w64 (i / W) hdw, h2]
  generalize i / W = d at *
  rw [if_neg (by omega)]
  have q : ∀ c, c < 4 → ipx dx W b px i (4 * (i - W) + c) = pvAt dx W b (ipx dx W b px i) i c := fun c hc => by
    rw [pvAt, if_neg h0, if_neg h1, if_pos h2]
    rfl
  rw [if_pos (show ((0 : Nat) : Int) = 0 from rfl), ew, if_pos (z _), if_pos (by omega), if_pos (z _), rd_range n _ i hi, Rl_rd _ _ _ _ _ _ (by omega), pa_def0 (ipx dx W b px i),
      unp_add hr (dx := dx) (W := W) (b := b) i k _ _ _ _ (q 0 (by omega)) (q 1 (by omega)) (q 2 (by omega)) (q 3 (by omega)), Option.bind_some, if_pos (by omega), e1]
theorem unp_in {dx px : Nat → Int} {W b n T : Nat} (hr : ∀ i, isByte (px i)) (hW : 1 ≤ W) (hn2 : n ≤ 268435456) (i k : Nat) (hi : i < n) (hd : ∀ i, isByte (dx i)) (hb : b ≤ 9) (D x y : Nat) (ex : Hid (i % W = x)) (ey : Hid (i / W = y)) (eD : Hid (y / 2 ^ b * tl W b + x / 2 ^ b = D)) (hy : 1 ≤ y) (hyn : y < 9223372036854775808) (hD : D < T) (hT2 : T ≤ n)
    (hm : ∀ t, t < T → dx (4 * t + 1) ≤ 13) (h0 : ¬ i = 0) (h1 : ¬ i < W) (hi1 : W + 1 ≤ i) (hx : x ≠ 0) (hW1 : 2 ≤ W) :
    spec_unpredicted.l0 (k + 5 + 1) ((List.range n).map fun j => pa px (4 * j)) (W : Int) (Rl dx W b px i) (tl W b : Int) (i : Int) 0 (b : Int) ((List.range T).map fun j => pa dx (4 * j)) =
      spec_unpredicted.l0 (k + 5) ((List.range n).map fun j => pa px (4 * j)) (W : Int) (Rl dx W b px (i + 1)) (tl W b : Int) ((i + 1 : Nat) : Int) 0 (b : Int) ((List.range T).map fun j => pa dx (4 * j)) := by
  have hF := ipx_byte (dx := dx) (W := W) (b := b) hr i
  have z : ∀ m : Nat, (0 : Int) ≤ (m : Int) := fun m => Int.natCast_nonneg m
  have hib : i < 268435456 := Nat.lt_of_lt_of_le hi hn2
  have hiW : W ≤ i := Nat.le_of_succ_le hi1
  have hi3 : 1 ≤ i - W := Nat.le_sub_of_add_le (by rw [Nat.add_comm]; exact hi1)
  have hsl : i - W ≤ i := Nat.sub_le _ _
  have hl := Nat.le_of_lt hD
  have hmd := hm _ hD
  have hm0 := (hd (4 * D + 1)).1
  have emode : dx (4 * D + 1) = ((modeAt dx W b i : Nat) : Int) := by
    unfold modeAt
    rw [ey.out, ex.out, eD.out]
    omega
  have hmode : modeAt dx W b i ≤ 13 := by omega
  have hpart := (part_pk (hd (4 * D)) (hd (4 * D + 1)) (hd (4 * D + 2)) (hd (4 * D + 3))).2.1
  rw [← pa_def dx, emode] at hpart
  have q : ∀ c, predV (modeAt dx W b i) (ipx dx W b px i) (4 * i) (4 * (i - W)) c = pvAt dx W b (ipx dx W b px i) i c := fun c => by
    rw [pvAt, if_neg h0, if_neg h1, if_neg (by rw [ex.out]; exact hx)]
  have c4 : ∀ (x y : Nat), x = y → ipx dx W b px i x = ipx dx W b px i y := fun x y h => by rw [h]
  have hft := foretold_pk hF (modeAt dx W b i) (4 * i) (4 * (i - W)) hmode k (pa (ipx dx W b px i) (4 * (i - 1))) (pa (ipx dx W b px i) (4 * (i - W))) (pa (ipx dx W b px i) (4 * (i - W + 1))) (pa (ipx dx W b px i) (4 * (i - W - 1)))
      (by rw [pa_def, c4 (4 * (i - 1)) (4 * i - 4) (by omega), c4 (4 * (i - 1) + 1) (4 * i - 3) (by omega), c4 (4 * (i - 1) + 2) (4 * i - 2) (by omega), c4 (4 * (i - 1) + 3) (4 * i - 1) (by omega)])
      (pa_def0 _ _)
      (by rw [pa_def, c4 (4 * (i - W + 1)) (4 * (i - W) + 4) (by omega), c4 (4 * (i - W + 1) + 1) (4 * (i - W) + 5) (by omega), c4 (4 * (i - W + 1) + 2) (4 * (i - W) + 6) (by omega), c4 (4 * (i - W + 1) + 3) (4 * (i - W) + 7) (by omega)])
      (by rw [pa_def, c4 (4 * (i - W - 1)) (4 * (i - W) - 4) (by omega), c4 (4 * (i - W - 1) + 1) (4 * (i - W) - 3) (by omega), c4 (4 * (i - W - 1) + 2) (4 * (i - W) - 2) (by omega), c4 (4 * (i - W - 1) + 3) (4 * (i - W) - 1) (by omega)])
  have hadd := unp_add hr (dx := dx) (W := W) (b := b) i k _ _ _ _ (q 0) (q 1) (q 2) (q 3)
  have c1 : (i : Int) < (n : Int) := by omega
  have c2 : ¬ (W : Int) = 0 := by omega
  have c3 : ¬ (i : Int) = 0 := by omega
  have c5 : ¬ ((y : Nat) : Int) = 0 := by omega
  have c6 : ¬ ((x : Nat) : Int) = 0 := by omega
  have c7 : (D : Int) < (T : Int) := by omega
  have j1 : i - 1 < i := by omega
  have j2 : i - W < i := by omega
  have j3 : i - W + 1 < i := by omega
  have j4 : i - W - 1 < i := by omega
  have c8 : ((i - 1 : Nat) : Int) < (i : Int) := Int.ofNat_lt.2 j1
  have c9 : ((i - W : Nat) : Int) < (i : Int) := Int.ofNat_lt.2 j2
  have c10 : ((i - W + 1 : Nat) : Int) < (i : Int) := Int.ofNat_lt.2 j3
  have c11 : ((i - W - 1 : Nat) : Int) < (i : Int) := Int.ofNat_lt.2 j4
  have c12 : i < 35184372088832 := by omega
  have d1 : i + 1 < 9223372036854775808 := by omega
  have d2 : i < 9223372036854775808 := by omega
  have d3 : 1 ≤ i := by omega
  have d4 : i - W + 1 < 9223372036854775808 := by omega
  have d5 : i - W < 9223372036854775808 := by omega
  have d6 : y / 2 ^ b * tl W b ≤ D := by rw [← eD.out]; exact Nat.le_add_right _ _
  have d7 : D < 9223372036854775808 := by omega
  have e1 : wrap64 ((i : Int) + 1) = ((i + 1 : Nat) : Int) := wa i 1 d1
  have ew : wrap64 ((i : Int) - (W : Int)) = ((i - W : Nat) : Int) := ws i W hiW d2
  have em : wrap64 ((i : Int) - 1) = ((i - 1 : Nat) : Int) := ws i 1 d3 d2
  have ewp : wrap64 (((i - W : Nat) : Int) + 1) = ((i - W + 1 : Nat) : Int) := wa (i - W) 1 d4
  have ewm : wrap64 (((i - W : Nat) : Int) - 1) = ((i - W - 1 : Nat) : Int) := ws (i - W) 1 hi3 d5
  have eidx : wrap64 (wrap64 (((y / 2 ^ b : Nat) : Int) * ((tl W b : Nat) : Int)) + ((x / 2 ^ b : Nat) : Int)) = (D : Int) := by
    rw [w64' (((y / 2 ^ b : Nat) : Int) * ((tl W b : Nat) : Int)) (y / 2 ^ b * tl W b) (by simp) (Nat.lt_of_le_of_lt d6 d7)]
    exact w64' _ _ (by rw [← eD.out]; simp) d7
  rw [Rl_snoc, spec_unpredicted.l0, range_len, range_len, Rl_len, if_pos c1, if_neg c2]
  rw [if_neg c3, tdiv_nat, tmod_nat, ey.out, ex.out, w64 y hyn]
  rw [if_neg c5, if_neg c6, if_pos (z _), shr_nat _ b hb, shr_nat _ b hb, eidx]
  rw [if_pos (z _), if_pos c7, rd_range T _ _ hD, hpart, Option.bind_some]
  rw [em, ew, ewp, ewm, if_pos (z _), if_pos c8, if_pos (z _), if_pos c9, if_pos (z _), if_pos c10, if_pos (z _), if_pos c11]
  rw [Rl_rd _ _ _ _ _ _ j1, Rl_rd _ _ _ _ _ _ j2, Rl_rd _ _ _ _ _ _ j3, Rl_rd _ _ _ _ _ _ j4, rd_range n _ i hi]
  rw [hft, Option.bind_some, if_pos (z _), hadd, Option.bind_some, if_pos c12, e1]
theorem unp_step {dx px : Nat → Int} {W b h n T : Nat} (hr : ∀ i, isByte (px i)) (hd : ∀ i, isByte (dx i)) (hW : 1 ≤ W) (hW2 : W ≤ 16384) (hh2 : h ≤ 16384) (hb : b ≤ 9) (hn : n = W * h) (hT : T = tl W b * tl h b)
    (hm : ∀ t, t < T → dx (4 * t + 1) ≤ 13) (i k : Nat) (hi : i < n) :
    spec_unpredicted.l0 (k + 5 + 1) ((List.range n).map fun j => pa px (4 * j)) (W : Int) (Rl dx W b px i) (tl W b : Int) (i : Int) 0 (b : Int) ((List.range T).map fun j => pa dx (4 * j)) =
      spec_unpredicted.l0 (k + 5) ((List.range n).map fun j => pa px (4 * j)) (W : Int) (Rl dx W b px (i + 1)) (tl W b : Int) ((i + 1 : Nat) : Int) 0 (b : Int) ((List.range T).map fun j => pa dx (4 * j)) := by
  have hn2 : n ≤ 268435456 := by rw [hn]; exact Nat.le_trans (Nat.mul_le_mul hW2 hh2) (by decide)
  by_cases h0 : i = 0
  · exact unp_first hr hW hn2 i k hi h0
  by_cases h1 : i < W
  · exact unp_top hr hW hn2 i k hi h0 h1
  by_cases h2 : i % W = 0
  · exact unp_left hr hW hn2 i k hi h0 h1 h2
  have hlt := Nat.mod_lt i (show 0 < W by omega)
  have hi1 : W + 1 ≤ i := by
    by_cases he : i = W
    · rw [he, Nat.mod_self] at h2; exact absurd rfl h2
    · omega
  have hdv : 1 ≤ i / W := (Nat.le_div_iff_mul_le (by omega)).2 (by omega)
  have hrow : i / W < h := by
    rw [Nat.div_lt_iff_lt_mul (by omega), Nat.mul_comm, ← hn]; exact hi
  have htx : i % W / 2 ^ b < tl W b := div_lt_tl hlt
  have hty : i / W / 2 ^ b < tl h b := div_lt_tl hrow
  have hidx : i / W / 2 ^ b * tl W b + i % W / 2 ^ b < T := by
    rw [hT]
    have : (i / W / 2 ^ b + 1) * tl W b ≤ tl h b * tl W b := Nat.mul_le_mul_right _ hty
    rw [Nat.add_mul, Nat.one_mul, Nat.mul_comm (tl h b)] at this
    exact Nat.lt_of_lt_of_le (Nat.add_lt_add_left htx _) this
  have hT2 : T ≤ n := by
    rw [hT, hn]
    exact Nat.mul_le_mul (tl_le (by omega)) (tl_le (by omega))
  exact unp_in hr hW hn2 i k hi hd hb _ _ _ ⟨rfl⟩ ⟨rfl⟩ ⟨rfl⟩ hdv (by omega) hidx hT2 hm h0 h1 hi1 h2 (by omega)
theorem unp_all {dx px : Nat → Int} {W b h n T : Nat} (hr : ∀ i, isByte (px i)) (hd : ∀ i, isByte (dx i)) (hW : 1 ≤ W) (hW2 : W ≤ 16384) (hh2 : h ≤ 16384) (hb : b ≤ 9) (hn : n = W * h) (hT : T = tl W b * tl h b)
    (hm : ∀ t, t < T → dx (4 * t + 1) ≤ 13) : ∀ m i k : Nat, i + m = n →
    spec_unpredicted.l0 (m + k + 5 + 1) ((List.range n).map fun j => pa px (4 * j)) (W : Int) (Rl dx W b px i) (tl W b : Int) (i : Int) 0 (b : Int) ((List.range T).map fun j => pa dx (4 * j)) = some (Rl dx W b px n)
  | 0, i, k, h => by
    rw [spec_unpredicted.l0, range_len, if_neg (by omega), show i = n by omega]
  | m + 1, i, k, h => by
    rw [unp_step hr hd hW hW2 hh2 hb hn hT hm i (m + 1 + k) (by omega), show m + 1 + k + 5 = m + k + 5 + 1 by omega]
    exact unp_all hr hd hW hW2 hh2 hb hn hT hm m (i + 1) k (by omega)
theorem unp_eq {dx px : Nat → Int} {W b h n T : Nat} (hr : ∀ i, isByte (px i)) (hd : ∀ i, isByte (dx i)) (hW : 1 ≤ W) (hW2 : W ≤ 16384) (hh2 : h ≤ 16384) (hb : b ≤ 9) (hn : n = W * h) (hT : T = tl W b * tl h b)
    (hm : ∀ t, t < T → dx (4 * t + 1) ≤ 13) (k : Nat) (hk : n + 6 ≤ k) :
    spec_unpredicted.f k ((List.range n).map fun j => pa px (4 * j)) (W : Int) 0 (b : Int) ((List.range T).map fun j => pa dx (4 * j)) = some (Rl dx W b px n) := by
  obtain ⟨d, rfl⟩ := Nat.exists_eq_add_of_le hk
  have := unp_all hr hd hW hW2 hh2 hb hn hT hm n 0 d (by omega)
  rw [show n + d + 5 + 1 = n + 6 + d by omega] at this
  rw [spec_unpredicted.f, rounded_eq W b hb hW2 hW, Option.bind_some]
  exact this
/-- THE REFERENCE IS THE CODE'S TRANSFORM. -/
theorem ref_eq {dx px : Nat → Int} {W b h : Nat} (hr : ∀ i, isByte (px i)) (hd : ∀ i, isByte (dx i)) (hW : 1 ≤ W) (hh : 1 ≤ h) (hW2 : W ≤ 16384) (hh2 : h ≤ 16384) (hb : b ≤ 9)
    (hm : ∀ t, t < tl W b * tl h b → dx (4 * t + 1) ≤ 13) (k : Nat) (hk : W * h + 6 ≤ k) :
    spec_Predictor.f k (W : Int) (h : Int) (b : Int) ((List.range (4 * (tl W b * tl h b))).map dx) ((List.range (4 * (W * h))).map px) = some ((List.range (4 * (W * h))).map (ipx dx W b px (W * h))) := by
  have hn2 : W * h ≤ 268435456 := Nat.le_trans (Nat.mul_le_mul hW2 hh2) (by decide)
  have hT2 : tl W b * tl h b ≤ W * h := Nat.mul_le_mul (tl_le hW) (tl_le hh)
  rw [spec_Predictor.f, joined_eq hr _ hn2 k (by omega), Option.bind_some, joined_eq hd _ (by omega) k (by omega), Option.bind_some, unp_eq hr hd hW hW2 hh2 hb rfl rfl hm k hk, Option.bind_some]
  have := split_eq (ipx_byte (dx := dx) (W := W) (b := b) hr (W * h)) (W * h) hn2 k (by omega)
  rw [Rl, this]
  rfl
end Go.Proofs.Ytgjcikajfnlocaa
