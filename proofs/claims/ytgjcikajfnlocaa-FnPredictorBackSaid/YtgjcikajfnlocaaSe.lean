/-
  OUR OWN, PRINTED by our program gen_ip2.py: inversePredictor whole: what it makes of the pixels.
-/
import Derived.Test.YtgjcikajfnlocaaSd
namespace Go.Proofs.Ytgjcikajfnlocaa
open Go.RowKit
set_option linter.unusedVariables false
theorem oc_u8 : oneCell Try.prog 5 = true := by kernel_rfl
theorem oc_u32 : oneCell Try.prog 38 = true := by kernel_rfl
theorem oc_i32 : oneCell Try.prog 21 = true := by kernel_rfl
theorem oc_sl : oneCell Try.prog 22 = true := by kernel_rfl
theorem fo_tr1 : fieldOff Try.prog 57 1 = some 1 := by kernel_rfl
theorem fo_tr2 : fieldOff Try.prog 57 2 = some 2 := by kernel_rfl
theorem fo_tr3 : fieldOff Try.prog 57 3 = some 3 := by kernel_rfl
theorem pf_nTiles : plainFn Try.prog 44 = true := by kernel_rfl

/-- How many blocks of 2^b a side has. -/
def tl (n b : Nat) : Nat := (n + 2 ^ b - 1) / 2 ^ b
theorem tl_pos {n b : Nat} (hn : 1 ≤ n) : 1 ≤ tl n b := by
  unfold tl
  have hp : 0 < 2 ^ b := Nat.two_pow_pos b
  exact (Nat.le_div_iff_mul_le hp).2 (by omega)
theorem div_lt_tl {n b x : Nat} (hx : x < n) : x / 2 ^ b < tl n b := by
  unfold tl
  have hp : 0 < 2 ^ b := Nat.two_pow_pos b
  rw [Nat.div_lt_iff_lt_mul hp]
  have h := Nat.div_add_mod (n + 2 ^ b - 1) (2 ^ b)
  have h2 := Nat.mod_lt (n + 2 ^ b - 1) hp
  rw [Nat.mul_comm] at h
  omega
theorem tl_le {n b : Nat} (hn : 1 ≤ n) : tl n b ≤ n := by
  unfold tl
  have hp : 0 < 2 ^ b := Nat.two_pow_pos b
  rw [Nat.div_le_iff_le_mul_add_pred hp]
  have h2 : n ≤ 2 ^ b * n := Nat.le_mul_of_pos_left n hp
  omega
theorem two_pow_le {b : Nat} (hb : b ≤ 9) : 2 ^ b ≤ 512 := Nat.le_trans (Nat.pow_le_pow_right (by omega) hb) (by decide)

theorem nTiles_any (n b : Nat) (hn : 1 ≤ n) (hn2 : n ≤ 16384) (hb : b ≤ 9) (w : World) : Calls Try.prog 44 #[.int .i32 (n : Int), .int .u32 (b : Int)] w fun e w' => e = .returned (.int .i32 ((tl n b : Nat) : Int)) ∧ w' = w := by
  have h2 := two_pow_le hb
  have hp : 0 < 2 ^ b := Nat.two_pow_pos b
  refine k_enter Try.func44 rfl (Nat.le_of_ble_eq_true rfl) (args := [_, _]) fun a hk => ?_
  conv => arg 2; whnf
  refine k_seq ?_
  refine rg (by kernel_rfl) ?_
  refine u_val hk (e_assign rfl) rfl (by decide) fun a hk => ?_
  refine u_nil ?_
  refine k_seq ?_
  refine rg (by kernel_rfl) ?_
  refine u_val hk (e_move rfl) rfl (by decide) fun a hk => ?_
  refine u_val hk (e_move rfl) rfl (by decide) fun a hk => ?_
  refine u_val hk (e_shl_eq b ((2 ^ b : Nat) : Int) rfl rfl rfl (by simp only [IntKind.bits]; omega) (i32_eq (by simp) (by omega) (by omega))) rfl (by decide) fun a hk => ?_
  refine u_val hk (e_add_eq ((n + (2 ^ b) : Nat) : Int) rfl rfl (i32_eq (by omega) (by omega) (by omega))) rfl (by decide) fun a hk => ?_
  refine u_val hk (e_sub_eq ((n + (2 ^ b) - 1 : Nat) : Int) rfl rfl (i32_eq (by omega) (by omega) (by omega))) rfl (by decide) fun a hk => ?_
  refine u_val hk (e_move rfl) rfl (by decide) fun a hk => ?_
  refine u_val hk (e_shr_eq b ((tl n b : Nat) : Int) rfl rfl rfl (by simp only [IntKind.bits]; omega) (fdiv_pow (n + 2 ^ b - 1) b)) rfl (by decide) fun a hk => ?_
  refine u_val hk (e_assign rfl) rfl (by decide) fun a hk => ?_
  refine u_nil ?_
  refine wp_ret ?_
  exact k_ret1 hk rfl rfl ⟨rfl, rfl⟩

/-- The mode of a pixel's block. -/
def modeAt (dx : Nat → Int) (W b i : Nat) : Nat := (dx (4 * (i / W / 2 ^ b * tl W b + i % W / 2 ^ b) + 1)).toNat % 16
/-- What is foretold of pixel i, channel by channel. -/
def pvAt (dx : Nat → Int) (W b : Nat) (f : Nat → Int) (i : Nat) : Nat → Int :=
  if i = 0 then predV 0 f 0 0 else if i < W then predV 1 f (4 * i) 0 else if i % W = 0 then predV 2 f (4 * i) (4 * (i - W)) else predV (modeAt dx W b i) f (4 * i) (4 * (i - W))
/-- The bytes when the first i pixels have been put back. -/
def ipx (dx : Nat → Int) (W b : Nat) (px : Nat → Int) : Nat → Nat → Int
  | 0 => px
  | i + 1 => step (ipx dx W b px i) (4 * i) (pvAt dx W b (ipx dx W b px i) i)
theorem ipx_byte {dx : Nat → Int} {W b : Nat} {px : Nat → Int} (hr : ∀ i, isByte (px i)) : ∀ n i, isByte (ipx dx W b px n i)
  | 0 => hr
  | n + 1 => step_byte (ipx_byte hr n)
theorem and15 {x : Int} (h : isByte x) : bits .and .u8 x 15 = ((x.toNat % 16 : Nat) : Int) := by
  rw [u8_and x 15 h.1 h.2 (by decide) (by decide)]
  have : x.toNat &&& (15 : Int).toNat = x.toNat % 16 := Nat.and_two_pow_sub_one_eq_mod x.toNat 4
  rw [this]

/-- The transform as it lies: its width, its bits, its pixels. -/
structure Tr (w : World) (tb to db dof dlen dcap W b : Nat) (dx : Nat → Int) : Prop where
  c1 : w.cell? ⟨tb, to + 1, none⟩ = some (.int .i32 (W : Int))
  c2 : w.cell? ⟨tb, to + 2, none⟩ = some (.int .u32 (b : Int))
  c3 : w.cell? ⟨tb, to + 3, none⟩ = some (.slice (some ⟨db, dof, none⟩) dlen dcap)
  cd : ∀ {i : Nat}, i < dlen → w.cell? ⟨db, dof + i, none⟩ = some (.int .u8 (dx i))
theorem Tr.keep {w w' : World} {pb tb to db dof dlen dcap W b : Nat} {dx : Nat → Int} (h : Tr w tb to db dof dlen dcap W b dx) (ho : Only pb w w') (h1 : tb ≠ pb) (h2 : db ≠ pb) : Tr w' tb to db dof dlen dcap W b dx :=
  ⟨(ho.cell h1).trans h.c1, (ho.cell h1).trans h.c2, (ho.cell h1).trans h.c3, fun hi => (ho.cell h2).trans (h.cd hi)⟩

theorem sw_any {Q : Exit → Act → World → Prop} {a : Act} {w w0 : World} {v0 v2 v8 v11 v12 v13 v15 : Value} {pb len cap p top md : Nat} {px : Nat → Int}
    (hk : Kn 1328 (L v0 (.slice (some ⟨pb, 0, none⟩) len cap) v2 (.int .i32 (p : Int)) v8 (.int .i64 (top : Int)) v11 v12 v13 (.int .u8 ((md : Nat) : Int)) v15) a)
    (hm : Mem w pb len px) (ho : Only pb w0 w) (hr : ∀ i, isByte (px i)) (h4 : 4 ≤ p) (ht : 4 ≤ top) (htp : top + 8 ≤ p) (hl : p + 4 ≤ len) (hlen : len ≤ 1073741824)
    (hQ : ∀ a' w', Kn 1328 (L v0 (.slice (some ⟨pb, 0, none⟩) len cap) v2 (.int .i32 (p : Int)) v8 (.int .i64 (top : Int)) v11 v12 v13 (.int .u8 ((md : Nat) : Int)) v15) a' → Mem w' pb len (step px p (predV md px p top)) → Only pb w0 w' → Q .normal a' w') :
    swCode.wp Try.prog Q a w := by
  match md with
  | 0 => exact sw_0 hk hm ho hr h4 ht htp hl hlen hQ
  | 1 => exact sw_1 hk hm ho hr h4 ht htp hl hlen hQ
  | 2 => exact sw_2 hk hm ho hr h4 ht htp hl hlen hQ
  | 3 => exact sw_3 hk hm ho hr h4 ht htp hl hlen hQ
  | 4 => exact sw_4 hk hm ho hr h4 ht htp hl hlen hQ
  | 5 => exact sw_5 hk hm ho hr h4 ht htp hl hlen hQ
  | 6 => exact sw_6 hk hm ho hr h4 ht htp hl hlen hQ
  | 7 => exact sw_7 hk hm ho hr h4 ht htp hl hlen hQ
  | 8 => exact sw_8 hk hm ho hr h4 ht htp hl hlen hQ
  | 9 => exact sw_9 hk hm ho hr h4 ht htp hl hlen hQ
  | 10 => exact sw_10 hk hm ho hr h4 ht htp hl hlen hQ
  | 11 => exact sw_11 hk hm ho hr h4 ht htp hl hlen hQ
  | 12 => exact sw_12 hk hm ho hr h4 ht htp hl hlen hQ
  | 13 => exact sw_13 hk hm ho hr h4 ht htp hl hlen hQ
  | m + 14 => exact sw_14 hk hm ho hr h4 ht htp hl hlen (by omega) hQ

set_option maxRecDepth 100000 in
theorem ip_row {Q : Exit → Act → World → Prop} {a : Act} {w : World} {w0 : World} {tb to db dof dlen dcap pb len cap W b h : Nat} {px dx : Nat → Int} 
    (h1 : tb ≠ pb) (h2 : db ≠ pb) (hr : ∀ i, isByte (px i)) (hd : ∀ i, isByte (dx i)) (hW : 1 ≤ W) (hh : 1 ≤ h) (hW2 : W ≤ 16384) (hh2 : h ≤ 16384) (hb : b ≤ 9) (hlen : len = 4 * (W * h)) (hdl : dlen = 4 * (tl W b * tl h b)) (hT : Tr w0 tb to db dof dlen dcap W b dx) 
    (hk : Kn 1328 [(0, (.pointer (some ⟨tb, to, none⟩))), (1, (.slice (some ⟨pb, 0, none⟩) len cap)), (2, (.int .i32 ((h : Nat) : Int))), (7, (.int .i32 ((4 : Nat) : Int))), (8, (.int .i32 ((2 ^ b - 1 : Nat) : Int))), (9, (.int .i32 ((1 : Nat) : Int)))] a) (hm : Mem w pb len (ipx dx W b px 1)) (ho : Only pb w0 w)
    (hQ : ∀ a' w', Kn 1328 [(0, (.pointer (some ⟨tb, to, none⟩))), (1, (.slice (some ⟨pb, 0, none⟩) len cap)), (2, (.int .i32 ((h : Nat) : Int))), (7, (.int .i32 ((4 * W : Nat) : Int))), (8, (.int .i32 ((2 ^ b - 1 : Nat) : Int)))] a' → Mem w' pb len (ipx dx W b px W) → Only pb w0 w' → Q .normal a' w') :
    (sub ipBody [true, true, true, true, false, true]).wp Try.prog Q a w := by
  have hWh : W ≤ W * h := Nat.le_mul_of_pos_right W hh
  have hWh2 : W * h ≤ 268435456 := Nat.le_trans (Nat.mul_le_mul hW2 hh2) (by decide)
  have hD : tl W b * tl h b ≤ W * h := Nat.mul_le_mul (tl_le hW) (tl_le hh)
  have hp0 : 0 < 2 ^ b := Nat.two_pow_pos b
  have hp9 := two_pow_le hb
  have htW := tl_pos (b := b) hW
  unfold ipBody
  conv => arg 2; whnf
  refine wp_block ?_
  refine k_loop (fun m a w => ∃ x : Nat, 1 ≤ x ∧ x ≤ W ∧ m = W - x ∧ Kn 1328 [(0, (.pointer (some ⟨tb, to, none⟩))), (1, (.slice (some ⟨pb, 0, none⟩) len cap)), (2, (.int .i32 ((h : Nat) : Int))), (7, (.int .i32 ((4 * x : Nat) : Int))), (8, (.int .i32 ((2 ^ b - 1 : Nat) : Int))), (9, (.int .i32 ((x : Nat) : Int)))] a ∧ Mem w pb len (ipx dx W b px x) ∧ Only pb w0 w) (W - 1) ⟨1, by omega, hW, rfl, hk, hm, ho⟩ ?_
  clear hk hm ho a w
  rintro m a w ⟨x, hx1, hx2, rfl, hk, hm, ho⟩
  refine k_seq ?_
  refine k_seq ?_
  refine rg (by kernel_rfl) ?_
  refine u_val hk (e_move rfl) rfl (by decide) fun a hk => ?_
  refine u_val hk (e_move rfl) rfl (by decide) fun a hk => ?_
  refine u_val hk (e_nilCheck rfl) rfl (by decide) fun a hk => ?_
  refine u_val hk (e_field fo_tr1 rfl) rfl (by decide) fun a hk => ?_
  refine u_val hk (e_load oc_i32 rfl (hT.keep ho h1 h2).c1) rfl (by decide) fun a hk => ?_
  refine u_val hk (e_lss rfl rfl) rfl (by decide) fun a hk => ?_
  refine u_nil ?_
  refine k_cond hk rfl (fun hc => ?_) (fun hc => ?_)
  · replace hc : x < W := by simpa using hc
    refine wp_skip ?_
    refine k_seq ?_
    refine wp_block ?_
    have e : ipx dx W b px (x + 1) = step (ipx dx W b px x) (4 * x) (predV 1 (ipx dx W b px x) (4 * x) 0) := by
      show step _ _ (pvAt dx W b _ x) = _
      unfold pvAt
      rw [if_neg (by omega), if_pos hc]
    replace hm := hm.pm (4 * x) (fun j => IntKind.u8.wrap (ipx dx W b px x (4 * x + j) + predV 1 (ipx dx W b px x) (4 * x) 0 j))
    have hl4 : 4 * x + 4 ≤ len := by omega
    refine k_seq ?_
    refine rgt 12 (by kernel_rfl) (by kernel_rfl) (by kernel_rfl) ?_
    replace ho := ho.drew
    replace hm := hm.drew
    refine r_val hk (e_move rfl) rfl (by decide) fun a hk => ?_
    refine r_val hk (e_move rfl) rfl (by decide) fun a hk => ?_
    refine r_val hk (e_add_eq ((4 * x + 0 : Nat) : Int) rfl rfl (i32_eq (by omega) (by omega) (by omega))) rfl (by decide) fun a hk => ?_
    refine r_val hk (e_idx0 (4 * x + 0) es22 rfl rfl rfl (by omega)) rfl (by decide) fun a hk => ?_
    refine r_val hk (e_load oc_u8 rfl (hm.old (i := 4 * x + 0) (by omega) (by omega))) rfl (by decide) fun a hk => ?_
    refine r_val hk (e_move rfl) rfl (by decide) fun a hk => ?_
    refine r_val hk (e_move rfl) rfl (by decide) fun a hk => ?_
    refine r_val hk (e_sub_eq ((4 * x - 4 : Nat) : Int) rfl rfl (i32_eq (by omega) (by omega) (by omega))) rfl (by decide) fun a hk => ?_
    refine r_val hk (e_idx0 (4 * x - 4) es22 rfl rfl rfl (by omega)) rfl (by decide) fun a hk => ?_
    refine r_val hk (e_load oc_u8 rfl (hm.old (i := 4 * x - 4) (by omega) (by omega))) rfl (by decide) fun a hk => ?_
    refine r_val hk (e_add rfl rfl) rfl (by decide) fun a hk => ?_
    refine r_val hk (e_idx0 (4 * x + 0) es22 rfl rfl rfl (by omega)) rfl (by decide) fun a hk => ?_
    refine u_put hk oc_u8 rfl rfl hm ho (by omega) rfl fun w a hk hm ho => ?_
    refine u_nil ?_
    refine k_seq ?_
    refine rgt 12 (by kernel_rfl) (by kernel_rfl) (by kernel_rfl) ?_
    replace ho := ho.drew
    replace hm := hm.drew
    refine r_val hk (e_move rfl) rfl (by decide) fun a hk => ?_
    refine r_val hk (e_move rfl) rfl (by decide) fun a hk => ?_
    refine r_val hk (e_add_eq ((4 * x + 1 : Nat) : Int) rfl rfl (i32_eq (by omega) (by omega) (by omega))) rfl (by decide) fun a hk => ?_
    refine r_val hk (e_idx0 (4 * x + 1) es22 rfl rfl rfl (by omega)) rfl (by decide) fun a hk => ?_
    refine r_val hk (e_load oc_u8 rfl (hm.old (i := 4 * x + 1) (by omega) (by omega))) rfl (by decide) fun a hk => ?_
    refine r_val hk (e_move rfl) rfl (by decide) fun a hk => ?_
    refine r_val hk (e_move rfl) rfl (by decide) fun a hk => ?_
    refine r_val hk (e_sub_eq ((4 * x - 3 : Nat) : Int) rfl rfl (i32_eq (by omega) (by omega) (by omega))) rfl (by decide) fun a hk => ?_
    refine r_val hk (e_idx0 (4 * x - 3) es22 rfl rfl rfl (by omega)) rfl (by decide) fun a hk => ?_
    refine r_val hk (e_load oc_u8 rfl (hm.old (i := 4 * x - 3) (by omega) (by omega))) rfl (by decide) fun a hk => ?_
    refine r_val hk (e_add rfl rfl) rfl (by decide) fun a hk => ?_
    refine r_val hk (e_idx0 (4 * x + 1) es22 rfl rfl rfl (by omega)) rfl (by decide) fun a hk => ?_
    refine u_put hk oc_u8 rfl rfl hm ho (by omega) rfl fun w a hk hm ho => ?_
    refine u_nil ?_
    refine k_seq ?_
    refine rgt 12 (by kernel_rfl) (by kernel_rfl) (by kernel_rfl) ?_
    replace ho := ho.drew
    replace hm := hm.drew
    refine r_val hk (e_move rfl) rfl (by decide) fun a hk => ?_
    refine r_val hk (e_move rfl) rfl (by decide) fun a hk => ?_
    refine r_val hk (e_add_eq ((4 * x + 2 : Nat) : Int) rfl rfl (i32_eq (by omega) (by omega) (by omega))) rfl (by decide) fun a hk => ?_
    refine r_val hk (e_idx0 (4 * x + 2) es22 rfl rfl rfl (by omega)) rfl (by decide) fun a hk => ?_
    refine r_val hk (e_load oc_u8 rfl (hm.old (i := 4 * x + 2) (by omega) (by omega))) rfl (by decide) fun a hk => ?_
    refine r_val hk (e_move rfl) rfl (by decide) fun a hk => ?_
    refine r_val hk (e_move rfl) rfl (by decide) fun a hk => ?_
    refine r_val hk (e_sub_eq ((4 * x - 2 : Nat) : Int) rfl rfl (i32_eq (by omega) (by omega) (by omega))) rfl (by decide) fun a hk => ?_
    refine r_val hk (e_idx0 (4 * x - 2) es22 rfl rfl rfl (by omega)) rfl (by decide) fun a hk => ?_
    refine r_val hk (e_load oc_u8 rfl (hm.old (i := 4 * x - 2) (by omega) (by omega))) rfl (by decide) fun a hk => ?_
    refine r_val hk (e_add rfl rfl) rfl (by decide) fun a hk => ?_
    refine r_val hk (e_idx0 (4 * x + 2) es22 rfl rfl rfl (by omega)) rfl (by decide) fun a hk => ?_
    refine u_put hk oc_u8 rfl rfl hm ho (by omega) rfl fun w a hk hm ho => ?_
    refine u_nil ?_
    refine k_seq ?_
    refine rgt 12 (by kernel_rfl) (by kernel_rfl) (by kernel_rfl) ?_
    replace ho := ho.drew
    replace hm := hm.drew
    refine r_val hk (e_move rfl) rfl (by decide) fun a hk => ?_
    refine r_val hk (e_move rfl) rfl (by decide) fun a hk => ?_
    refine r_val hk (e_add_eq ((4 * x + 3 : Nat) : Int) rfl rfl (i32_eq (by omega) (by omega) (by omega))) rfl (by decide) fun a hk => ?_
    refine r_val hk (e_idx0 (4 * x + 3) es22 rfl rfl rfl (by omega)) rfl (by decide) fun a hk => ?_
    refine r_val hk (e_load oc_u8 rfl (hm.old (i := 4 * x + 3) (by omega) (by omega))) rfl (by decide) fun a hk => ?_
    refine r_val hk (e_move rfl) rfl (by decide) fun a hk => ?_
    refine r_val hk (e_move rfl) rfl (by decide) fun a hk => ?_
    refine r_val hk (e_sub_eq ((4 * x - 1 : Nat) : Int) rfl rfl (i32_eq (by omega) (by omega) (by omega))) rfl (by decide) fun a hk => ?_
    refine r_val hk (e_idx0 (4 * x - 1) es22 rfl rfl rfl (by omega)) rfl (by decide) fun a hk => ?_
    refine r_val hk (e_load oc_u8 rfl (hm.old (i := 4 * x - 1) (by omega) (by omega))) rfl (by decide) fun a hk => ?_
    refine r_val hk (e_add rfl rfl) rfl (by decide) fun a hk => ?_
    refine r_val hk (e_idx0 (4 * x + 3) es22 rfl rfl rfl (by omega)) rfl (by decide) fun a hk => ?_
    refine u_put hk oc_u8 rfl rfl hm ho (by omega) rfl fun w a hk hm ho => ?_
    refine u_nil ?_
    refine rg (by kernel_rfl) ?_
    refine u_val hk (e_move rfl) rfl (by decide) fun a hk => ?_
    refine u_val hk (e_add_eq ((4 * (x + 1) : Nat) : Int) rfl rfl (i32_eq (by omega) (by omega) (by omega))) rfl (by decide) fun a hk => ?_
    refine u_val hk (e_assign rfl) rfl (by decide) fun a hk => ?_
    refine u_nil ?_
    refine rg (by kernel_rfl) ?_
    refine u_val hk (e_move rfl) rfl (by decide) fun a hk => ?_
    refine u_val hk (e_add_eq ((x + 1 : Nat) : Int) rfl rfl (i32_eq (by omega) (by omega) (by omega))) rfl (by decide) fun a hk => ?_
    refine u_val hk (e_assign rfl) rfl (by decide) fun a hk => ?_
    refine u_nil ?_
    exact ⟨W - (x + 1), by omega, x + 1, by omega, by omega, rfl, hk.sub (Sub.cons rfl (Sub.cons rfl (Sub.cons rfl (Sub.cons rfl (Sub.cons rfl (Sub.cons rfl (Sub.nil _))))))), by rw [e]; exact hm.mem, ho⟩
  · replace hc : x = W := by
      have : ¬ x < W := by simpa using hc
      omega
    subst hc
    refine wp_exit ?_
    exact hQ _ _ (hk.sub (Sub.cons rfl (Sub.cons rfl (Sub.cons rfl (Sub.cons rfl (Sub.cons rfl (Sub.nil _))))))) hm ho

set_option maxRecDepth 100000 in
theorem ip_cols {Q : Exit → Act → World → Prop} {a : Act} {w : World} {w0 : World} {tb to db dof dlen dcap pb len cap W b h : Nat} {px dx : Nat → Int} {y s t : Nat}
    (h1 : tb ≠ pb) (h2 : db ≠ pb) (hr : ∀ i, isByte (px i)) (hd : ∀ i, isByte (dx i)) (hW : 1 ≤ W) (hh : 1 ≤ h) (hW2 : W ≤ 16384) (hh2 : h ≤ 16384) (hb : b ≤ 9) (hlen : len = 4 * (W * h)) (hdl : dlen = 4 * (tl W b * tl h b)) (hT : Tr w0 tb to db dof dlen dcap W b dx) (hs : s = y * W) (ht : t = y / 2 ^ b * tl W b) (hy1 : 1 ≤ y) (hyh : y < h)
    (hk : Kn 1328 [(0, (.pointer (some ⟨tb, to, none⟩))), (1, (.slice (some ⟨pb, 0, none⟩) len cap)), (2, (.int .i32 ((h : Nat) : Int))), (7, (.int .i32 ((4 * (s + 1) : Nat) : Int))), (8, (.int .i32 ((2 ^ b - 1 : Nat) : Int))), (10, (.int .i64 ((4 * (s - W + 1) : Nat) : Int))), (11, (.int .i32 ((tl W b : Nat) : Int))), (12, (.int .i32 ((y : Nat) : Int))), (13, (.int .i32 ((4 * (t + 0) + 4 : Nat) : Int))), (14, (.int .u8 (((dx (4 * (t + 0) + 1)).toNat % 16 : Nat) : Int))), (15, (.int .i32 ((1 : Nat) : Int)))] a) (hm : Mem w pb len (ipx dx W b px (s + 1))) (ho : Only pb w0 w)
    (hQ : ∀ a' w', Kn 1328 [(0, (.pointer (some ⟨tb, to, none⟩))), (1, (.slice (some ⟨pb, 0, none⟩) len cap)), (2, (.int .i32 ((h : Nat) : Int))), (7, (.int .i32 ((4 * (s + W) : Nat) : Int))), (8, (.int .i32 ((2 ^ b - 1 : Nat) : Int))), (10, (.int .i64 ((4 * (s - W + W) : Nat) : Int))), (11, (.int .i32 ((tl W b : Nat) : Int))), (12, (.int .i32 ((y : Nat) : Int)))] a' → Mem w' pb len (ipx dx W b px (s + W)) → Only pb w0 w' → Q .normal a' w') :
    (sub ipBody [true, true, true, true, true, true, false, true, false, false, true, false, false, true, true, true, true, true, true, true, true, true]).wp Try.prog Q a w := by
  have hWh : W ≤ W * h := Nat.le_mul_of_pos_right W hh
  have hWh2 : W * h ≤ 268435456 := Nat.le_trans (Nat.mul_le_mul hW2 hh2) (by decide)
  have hD : tl W b * tl h b ≤ W * h := Nat.mul_le_mul (tl_le hW) (tl_le hh)
  have hp0 : 0 < 2 ^ b := Nat.two_pow_pos b
  have hp9 := two_pow_le hb
  have htW := tl_pos (b := b) hW
  unfold ipBody
  conv => arg 2; whnf
  have hsW : W ≤ s := by rw [hs]; exact Nat.le_mul_of_pos_left W hy1
  have hsh : s + W ≤ W * h := by
    have := Nat.mul_le_mul_right W (show y + 1 ≤ h from hyh)
    rw [Nat.add_mul, Nat.one_mul, Nat.mul_comm h W] at this
    omega
  have htD : t + tl W b ≤ tl W b * tl h b := by
    have := Nat.mul_le_mul_right (tl W b) (show y / 2 ^ b + 1 ≤ tl h b from div_lt_tl hyh)
    rw [Nat.add_mul, Nat.one_mul, Nat.mul_comm (tl h b)] at this
    omega
  refine wp_block ?_
  refine k_loop (fun m a w => ∃ x d : Nat, 1 ≤ x ∧ x ≤ W ∧ d = (x - 1) / 2 ^ b ∧ m = W - x ∧ Kn 1328 [(0, (.pointer (some ⟨tb, to, none⟩))), (1, (.slice (some ⟨pb, 0, none⟩) len cap)), (2, (.int .i32 ((h : Nat) : Int))), (7, (.int .i32 ((4 * (s + x) : Nat) : Int))), (8, (.int .i32 ((2 ^ b - 1 : Nat) : Int))), (10, (.int .i64 ((4 * (s - W + x) : Nat) : Int))), (11, (.int .i32 ((tl W b : Nat) : Int))), (12, (.int .i32 ((y : Nat) : Int))), (13, (.int .i32 ((4 * (t + d) + 4 : Nat) : Int))), (14, (.int .u8 (((dx (4 * (t + d) + 1)).toNat % 16 : Nat) : Int))), (15, (.int .i32 ((x : Nat) : Int)))] a ∧ Mem w pb len (ipx dx W b px (s + x)) ∧ Only pb w0 w) (W - 1) ⟨1, 0, by omega, hW, by simp, rfl, hk, hm, ho⟩ ?_
  clear hk hm ho a w
  rintro m a w ⟨x, d, hx1, hx2, hdx, rfl, hk, hm, ho⟩
  refine k_seq ?_
  refine k_seq ?_
  refine rg (by kernel_rfl) ?_
  refine u_val hk (e_move rfl) rfl (by decide) fun a hk => ?_
  refine u_val hk (e_move rfl) rfl (by decide) fun a hk => ?_
  refine u_val hk (e_nilCheck rfl) rfl (by decide) fun a hk => ?_
  refine u_val hk (e_field fo_tr1 rfl) rfl (by decide) fun a hk => ?_
  refine u_val hk (e_load oc_i32 rfl (hT.keep ho h1 h2).c1) rfl (by decide) fun a hk => ?_
  refine u_val hk (e_lss rfl rfl) rfl (by decide) fun a hk => ?_
  refine u_nil ?_
  refine k_cond hk rfl (fun hc => ?_) (fun hc => ?_)
  · replace hc : x < W := by simpa using hc
    have htx : x / 2 ^ b < tl W b := div_lt_tl hc
    refine wp_skip ?_
    refine k_seq ?_
    refine wp_block ?_
    refine k_seq ?_
    -- the block's mode
    have key : ∀ {R : Exit → Act → World → Prop}, (∀ a' w', Kn 1328 [(0, (.pointer (some ⟨tb, to, none⟩))), (1, (.slice (some ⟨pb, 0, none⟩) len cap)), (2, (.int .i32 ((h : Nat) : Int))), (7, (.int .i32 ((4 * (s + x) : Nat) : Int))), (8, (.int .i32 ((2 ^ b - 1 : Nat) : Int))), (10, (.int .i64 ((4 * (s - W + x) : Nat) : Int))), (11, (.int .i32 ((tl W b : Nat) : Int))), (12, (.int .i32 ((y : Nat) : Int))), (13, (.int .i32 ((4 * (t + x / 2 ^ b) + 4 : Nat) : Int))), (14, (.int .u8 (((dx (4 * (t + x / 2 ^ b) + 1)).toNat % 16 : Nat) : Int))), (15, (.int .i32 ((x : Nat) : Int)))] a' → Mem w' pb len (ipx dx W b px (s + x)) → Only pb w0 w' → R .normal a' w') → (sub ipBody [true, true, true, true, true, true, false, true, false, false, true, false, false, true, true, true, true, true, true, true, true, true, false, false, true, false, false, false]).wp Try.prog R a w := by
      intro R hR
      unfold ipBody
      conv => arg 2; whnf
      refine k_seq ?_
      by_cases hz : x % 2 ^ b = 0
      · have hd1 : x / 2 ^ b = d + 1 := by
          have h1' := Nat.div_add_mod x (2 ^ b)
          have h2' := Nat.div_add_mod (x - 1) (2 ^ b)
          have h3' := Nat.mod_lt (x - 1) hp0
          rw [← hdx] at h2'
          have hq : 2 ^ b * d < 2 ^ b * (x / 2 ^ b) := by omega
          have hq1 := Nat.lt_of_mul_lt_mul_left hq
          have hq2 : 2 ^ b * (x / 2 ^ b) < 2 ^ b * (d + 2) := by rw [Nat.mul_add]; omega
          have hq3 := Nat.lt_of_mul_lt_mul_left hq2
          omega
        rw [hd1] at hR htx
        refine rg (by kernel_rfl) ?_
        refine u_val hk (e_move rfl) rfl (by decide) fun a hk => ?_
        refine u_val hk (e_move rfl) rfl (by decide) fun a hk => ?_
        refine u_val hk (e_and_eq ((x % 2 ^ b : Nat) : Int) rfl rfl (and_mask x b (by omega) (by omega))) rfl (by decide) fun a hk => ?_
        refine u_val hk (e_eqlT rfl rfl (by omega)) rfl (by decide) fun a hk => ?_
        refine u_nil ?_
        refine k_true hk rfl ?_
        refine k_seq ?_
        refine rg (by kernel_rfl) ?_
        refine u_val hk (e_move rfl) rfl (by decide) fun a hk => ?_
        refine u_val hk (e_nilCheck rfl) rfl (by decide) fun a hk => ?_
        refine u_val hk (e_field fo_tr3 rfl) rfl (by decide) fun a hk => ?_
        refine u_val hk (e_load oc_sl rfl (hT.keep ho h1 h2).c3) rfl (by decide) fun a hk => ?_
        refine u_val hk (e_move rfl) rfl (by decide) fun a hk => ?_
        refine u_val hk (e_add_eq ((4 * (t + d) + 4 + 1 : Nat) : Int) rfl rfl (i32_eq (by omega) (by omega) (by omega))) rfl (by decide) fun a hk => ?_
        refine u_val hk (e_idx1 (4 * (t + (d + 1)) + 1) es22 rfl rfl (by omega) (by omega)) rfl (by decide) fun a hk => ?_
        refine u_val hk (e_load oc_u8 rfl ((hT.keep ho h1 h2).cd (by omega))) rfl (by decide) fun a hk => ?_
        refine u_val hk (e_and_eq _ rfl rfl (and15 (hd _))) rfl (by decide) fun a hk => ?_
        refine u_val hk (e_assign rfl) rfl (by decide) fun a hk => ?_
        refine u_nil ?_
        refine rg (by kernel_rfl) ?_
        refine u_val hk (e_move rfl) rfl (by decide) fun a hk => ?_
        refine u_val hk (e_add_eq ((4 * (t + (d + 1)) + 4 : Nat) : Int) rfl rfl (i32_eq (by omega) (by omega) (by omega))) rfl (by decide) fun a hk => ?_
        refine u_val hk (e_assign rfl) rfl (by decide) fun a hk => ?_
        refine u_nil ?_
        exact hR _ _ (hk.sub (Sub.cons rfl (Sub.cons rfl (Sub.cons rfl (Sub.cons rfl (Sub.cons rfl (Sub.cons rfl (Sub.cons rfl (Sub.cons rfl (Sub.cons rfl (Sub.cons rfl (Sub.cons rfl (Sub.nil _))))))))))))) hm ho
      · have hd1 : x / 2 ^ b = d := by
          have h1' := Nat.div_add_mod x (2 ^ b)
          have h2' := Nat.div_add_mod (x - 1) (2 ^ b)
          have h3' := Nat.mod_lt (x - 1) hp0
          have h4' := Nat.mod_lt x hp0
          rw [← hdx] at h2'
          have hq : 2 ^ b * d < 2 ^ b * (x / 2 ^ b + 1) := by rw [Nat.mul_add]; omega
          have hq1 := Nat.lt_of_mul_lt_mul_left hq
          have hq2 : 2 ^ b * (x / 2 ^ b) < 2 ^ b * (d + 1) := by rw [Nat.mul_add]; omega
          have hq3 := Nat.lt_of_mul_lt_mul_left hq2
          omega
        rw [hd1] at hR htx
        refine rg (by kernel_rfl) ?_
        refine u_val hk (e_move rfl) rfl (by decide) fun a hk => ?_
        refine u_val hk (e_move rfl) rfl (by decide) fun a hk => ?_
        refine u_val hk (e_and_eq ((x % 2 ^ b : Nat) : Int) rfl rfl (and_mask x b (by omega) (by omega))) rfl (by decide) fun a hk => ?_
        refine u_val hk (e_eqlF rfl rfl (by omega)) rfl (by decide) fun a hk => ?_
        refine u_nil ?_
        refine k_false hk rfl ?_
        refine wp_skip ?_
        exact hR _ _ (hk.sub (Sub.cons rfl (Sub.cons rfl (Sub.cons rfl (Sub.cons rfl (Sub.cons rfl (Sub.cons rfl (Sub.cons rfl (Sub.cons rfl (Sub.cons rfl (Sub.cons rfl (Sub.cons rfl (Sub.nil _))))))))))))) hm ho
    refine key fun a w hk hm ho => ?_
    clear key
    refine k_seq ?_
    have hdivW : (s + x) / W = y := by rw [hs, Nat.add_comm, Nat.add_mul_div_right _ _ (by omega), Nat.div_eq_of_lt hc, Nat.zero_add]
    have hmodW : (s + x) % W = x := by rw [hs, Nat.add_comm, Nat.add_mul_mod_self_right, Nat.mod_eq_of_lt hc]
    have hmode : modeAt dx W b (s + x) = (dx (4 * (t + x / 2 ^ b) + 1)).toNat % 16 := by unfold modeAt; rw [hdivW, hmodW, ht]
    have e : ipx dx W b px (s + (x + 1)) = step (ipx dx W b px (s + x)) (4 * (s + x)) (predV (modeAt dx W b (s + x)) (ipx dx W b px (s + x)) (4 * (s + x)) (4 * (s - W + x))) := by
      show step (ipx dx W b px (s + x)) (4 * (s + x)) (pvAt dx W b (ipx dx W b px (s + x)) (s + x)) = _
      unfold pvAt
      rw [if_neg (by omega), if_neg (by omega), if_neg (by omega), show s + x - W = s - W + x by omega]
    rw [← hmode] at hk
    refine sw_any hk hm ho (ipx_byte hr _) (by omega) (by omega) (by omega) (by omega) (by omega) fun a w hk hm ho => ?_
    rw [← e] at hm
    refine rg (by kernel_rfl) ?_
    refine u_val hk (e_move rfl) rfl (by decide) fun a hk => ?_
    refine u_val hk (e_add_eq ((4 * (s + (x + 1)) : Nat) : Int) rfl rfl (i32_eq (by omega) (by omega) (by omega))) rfl (by decide) fun a hk => ?_
    refine u_val hk (e_move rfl) rfl (by decide) fun a hk => ?_
    refine u_val hk (e_add_eq ((4 * (s - W + (x + 1)) : Nat) : Int) rfl rfl (i64_eq (by omega) (by omega) (by omega))) rfl (by decide) fun a hk => ?_
    refine u_val hk (e_assign rfl) rfl (by decide) fun a hk => ?_
    refine u_val hk (e_assign rfl) rfl (by decide) fun a hk => ?_
    refine u_nil ?_
    refine rg (by kernel_rfl) ?_
    refine u_val hk (e_move rfl) rfl (by decide) fun a hk => ?_
    refine u_val hk (e_add_eq ((x + 1 : Nat) : Int) rfl rfl (i32_eq (by omega) (by omega) (by omega))) rfl (by decide) fun a hk => ?_
    refine u_val hk (e_assign rfl) rfl (by decide) fun a hk => ?_
    refine u_nil ?_
    rw [hmode] at hk
    exact ⟨W - (x + 1), by omega, x + 1, x / 2 ^ b, by omega, by omega, rfl, rfl, hk.sub (Sub.cons rfl (Sub.cons rfl (Sub.cons rfl (Sub.cons rfl (Sub.cons rfl (Sub.cons rfl (Sub.cons rfl (Sub.cons rfl (Sub.cons rfl (Sub.cons rfl (Sub.cons rfl (Sub.nil _)))))))))))), hm, ho⟩
  · replace hc : x = W := by
      have : ¬ x < W := by simpa using hc
      omega
    subst hc
    refine wp_exit ?_
    exact hQ _ _ (hk.sub (Sub.cons rfl (Sub.cons rfl (Sub.cons rfl (Sub.cons rfl (Sub.cons rfl (Sub.cons rfl (Sub.cons rfl (Sub.cons rfl (Sub.nil _)))))))))) hm ho

set_option maxRecDepth 100000 in
theorem ip_rows {Q : Exit → Act → World → Prop} {a : Act} {w : World} {w0 : World} {tb to db dof dlen dcap pb len cap W b h : Nat} {px dx : Nat → Int} 
    (h1 : tb ≠ pb) (h2 : db ≠ pb) (hr : ∀ i, isByte (px i)) (hd : ∀ i, isByte (dx i)) (hW : 1 ≤ W) (hh : 1 ≤ h) (hW2 : W ≤ 16384) (hh2 : h ≤ 16384) (hb : b ≤ 9) (hlen : len = 4 * (W * h)) (hdl : dlen = 4 * (tl W b * tl h b)) (hT : Tr w0 tb to db dof dlen dcap W b dx) 
    (hk : Kn 1328 [(0, (.pointer (some ⟨tb, to, none⟩))), (1, (.slice (some ⟨pb, 0, none⟩) len cap)), (2, (.int .i32 ((h : Nat) : Int))), (7, (.int .i32 ((4 * W : Nat) : Int))), (8, (.int .i32 ((2 ^ b - 1 : Nat) : Int))), (10, (.int .i64 ((0 : Nat) : Int))), (11, (.int .i32 ((tl W b : Nat) : Int))), (12, (.int .i32 ((1 : Nat) : Int)))] a) (hm : Mem w pb len (ipx dx W b px W)) (ho : Only pb w0 w)
    (hQ : ∀ a' w', Kn 1328 [(0, (.pointer (some ⟨tb, to, none⟩))), (1, (.slice (some ⟨pb, 0, none⟩) len cap)), (2, (.int .i32 ((h : Nat) : Int))), (8, (.int .i32 ((2 ^ b - 1 : Nat) : Int)))] a' → Mem w' pb len (ipx dx W b px (W * h)) → Only pb w0 w' → Q .normal a' w') :
    (sub ipBody [true, true, true, true, true, true, false, true]).wp Try.prog Q a w := by
  have hWh : W ≤ W * h := Nat.le_mul_of_pos_right W hh
  have hWh2 : W * h ≤ 268435456 := Nat.le_trans (Nat.mul_le_mul hW2 hh2) (by decide)
  have hD : tl W b * tl h b ≤ W * h := Nat.mul_le_mul (tl_le hW) (tl_le hh)
  have hp0 : 0 < 2 ^ b := Nat.two_pow_pos b
  have hp9 := two_pow_le hb
  have htW := tl_pos (b := b) hW
  unfold ipBody
  conv => arg 2; whnf
  refine wp_block ?_
  refine k_loop (fun m a w => ∃ y s : Nat, 1 ≤ y ∧ y ≤ h ∧ s = y * W ∧ m = h - y ∧ Kn 1328 [(0, (.pointer (some ⟨tb, to, none⟩))), (1, (.slice (some ⟨pb, 0, none⟩) len cap)), (2, (.int .i32 ((h : Nat) : Int))), (7, (.int .i32 ((4 * s : Nat) : Int))), (8, (.int .i32 ((2 ^ b - 1 : Nat) : Int))), (10, (.int .i64 ((4 * (s - W) : Nat) : Int))), (11, (.int .i32 ((tl W b : Nat) : Int))), (12, (.int .i32 ((y : Nat) : Int)))] a ∧ Mem w pb len (ipx dx W b px s) ∧ Only pb w0 w) (h - 1) ⟨1, W, by omega, hh, by omega, rfl, by rw [Nat.sub_self]; exact hk, hm, ho⟩ ?_
  clear hk hm ho a w
  rintro m a w ⟨y, s, hy1, hy2, hs, rfl, hk, hm, ho⟩
  refine k_seq ?_
  refine k_seq ?_
  refine rg (by kernel_rfl) ?_
  refine u_val hk (e_move rfl) rfl (by decide) fun a hk => ?_
  refine u_val hk (e_move rfl) rfl (by decide) fun a hk => ?_
  refine u_val hk (e_lss rfl rfl) rfl (by decide) fun a hk => ?_
  refine u_nil ?_
  refine k_cond hk rfl (fun hc => ?_) (fun hc => ?_)
  · replace hc : y < h := by simpa using hc
    refine wp_skip ?_
    refine k_seq ?_
    refine wp_block ?_
    have hsW : W ≤ s := by rw [hs]; exact Nat.le_mul_of_pos_left W hy1
    have hsh : s + W ≤ W * h := by
      have := Nat.mul_le_mul_right W (show y + 1 ≤ h from hc)
      rw [Nat.add_mul, Nat.one_mul, Nat.mul_comm h W] at this
      omega
    obtain ⟨t, ht⟩ : ∃ t, t = y / 2 ^ b * tl W b := ⟨_, rfl⟩
    have htD : t + tl W b ≤ tl W b * tl h b := by
      have := Nat.mul_le_mul_right (tl W b) (show y / 2 ^ b + 1 ≤ tl h b from div_lt_tl hc)
      rw [Nat.add_mul, Nat.one_mul, Nat.mul_comm (tl h b)] at this
      omega
    have hyb : y / 2 ^ b ≤ y := Nat.div_le_self _ _
    have e : ipx dx W b px (s + 1) = step (ipx dx W b px s) (4 * s) (predV 2 (ipx dx W b px s) (4 * s) (4 * (s - W))) := by
      show step _ _ (pvAt dx W b _ s) = _
      unfold pvAt
      rw [if_neg (by omega), if_neg (by omega), if_pos (by rw [hs, Nat.mul_mod_left])]
    replace hm := hm.pm (4 * s) (fun j => IntKind.u8.wrap (ipx dx W b px s (4 * s + j) + predV 2 (ipx dx W b px s) (4 * s) (4 * (s - W)) j))
    have hl4 : 4 * s + 4 ≤ len := by omega
    refine k_seq ?_
    refine rgt 12 (by kernel_rfl) (by kernel_rfl) (by kernel_rfl) ?_
    replace ho := ho.drew
    replace hm := hm.drew
    refine r_val hk (e_move rfl) rfl (by decide) fun a hk => ?_
    refine r_val hk (e_move rfl) rfl (by decide) fun a hk => ?_
    refine r_val hk (e_add_eq ((4 * s + 0 : Nat) : Int) rfl rfl (i32_eq (by omega) (by omega) (by omega))) rfl (by decide) fun a hk => ?_
    refine r_val hk (e_idx0 (4 * s + 0) es22 rfl rfl rfl (by omega)) rfl (by decide) fun a hk => ?_
    refine r_val hk (e_load oc_u8 rfl (hm.old (i := 4 * s + 0) (by omega) (by omega))) rfl (by decide) fun a hk => ?_
    refine r_val hk (e_move rfl) rfl (by decide) fun a hk => ?_
    refine r_val hk (e_move rfl) rfl (by decide) fun a hk => ?_
    refine r_val hk (e_add_eq ((4 * (s - W) + 0 : Nat) : Int) rfl rfl (i64_eq (by omega) (by omega) (by omega))) rfl (by decide) fun a hk => ?_
    refine r_val hk (e_idx0 (4 * (s - W) + 0) es22 rfl rfl rfl (by omega)) rfl (by decide) fun a hk => ?_
    refine r_val hk (e_load oc_u8 rfl (hm.old (i := 4 * (s - W) + 0) (by omega) (by omega))) rfl (by decide) fun a hk => ?_
    refine r_val hk (e_add rfl rfl) rfl (by decide) fun a hk => ?_
    refine r_val hk (e_idx0 (4 * s + 0) es22 rfl rfl rfl (by omega)) rfl (by decide) fun a hk => ?_
    refine u_put hk oc_u8 rfl rfl hm ho (by omega) rfl fun w a hk hm ho => ?_
    refine u_nil ?_
    refine k_seq ?_
    refine rgt 12 (by kernel_rfl) (by kernel_rfl) (by kernel_rfl) ?_
    replace ho := ho.drew
    replace hm := hm.drew
    refine r_val hk (e_move rfl) rfl (by decide) fun a hk => ?_
    refine r_val hk (e_move rfl) rfl (by decide) fun a hk => ?_
    refine r_val hk (e_add_eq ((4 * s + 1 : Nat) : Int) rfl rfl (i32_eq (by omega) (by omega) (by omega))) rfl (by decide) fun a hk => ?_
    refine r_val hk (e_idx0 (4 * s + 1) es22 rfl rfl rfl (by omega)) rfl (by decide) fun a hk => ?_
    refine r_val hk (e_load oc_u8 rfl (hm.old (i := 4 * s + 1) (by omega) (by omega))) rfl (by decide) fun a hk => ?_
    refine r_val hk (e_move rfl) rfl (by decide) fun a hk => ?_
    refine r_val hk (e_move rfl) rfl (by decide) fun a hk => ?_
    refine r_val hk (e_add_eq ((4 * (s - W) + 1 : Nat) : Int) rfl rfl (i64_eq (by omega) (by omega) (by omega))) rfl (by decide) fun a hk => ?_
    refine r_val hk (e_idx0 (4 * (s - W) + 1) es22 rfl rfl rfl (by omega)) rfl (by decide) fun a hk => ?_
    refine r_val hk (e_load oc_u8 rfl (hm.old (i := 4 * (s - W) + 1) (by omega) (by omega))) rfl (by decide) fun a hk => ?_
    refine r_val hk (e_add rfl rfl) rfl (by decide) fun a hk => ?_
    refine r_val hk (e_idx0 (4 * s + 1) es22 rfl rfl rfl (by omega)) rfl (by decide) fun a hk => ?_
    refine u_put hk oc_u8 rfl rfl hm ho (by omega) rfl fun w a hk hm ho => ?_
    refine u_nil ?_
    refine k_seq ?_
    refine rgt 12 (by kernel_rfl) (by kernel_rfl) (by kernel_rfl) ?_
    replace ho := ho.drew
    replace hm := hm.drew
    refine r_val hk (e_move rfl) rfl (by decide) fun a hk => ?_
    refine r_val hk (e_move rfl) rfl (by decide) fun a hk => ?_
    refine r_val hk (e_add_eq ((4 * s + 2 : Nat) : Int) rfl rfl (i32_eq (by omega) (by omega) (by omega))) rfl (by decide) fun a hk => ?_
    refine r_val hk (e_idx0 (4 * s + 2) es22 rfl rfl rfl (by omega)) rfl (by decide) fun a hk => ?_
    refine r_val hk (e_load oc_u8 rfl (hm.old (i := 4 * s + 2) (by omega) (by omega))) rfl (by decide) fun a hk => ?_
    refine r_val hk (e_move rfl) rfl (by decide) fun a hk => ?_
    refine r_val hk (e_move rfl) rfl (by decide) fun a hk => ?_
    refine r_val hk (e_add_eq ((4 * (s - W) + 2 : Nat) : Int) rfl rfl (i64_eq (by omega) (by omega) (by omega))) rfl (by decide) fun a hk => ?_
    refine r_val hk (e_idx0 (4 * (s - W) + 2) es22 rfl rfl rfl (by omega)) rfl (by decide) fun a hk => ?_
    refine r_val hk (e_load oc_u8 rfl (hm.old (i := 4 * (s - W) + 2) (by omega) (by omega))) rfl (by decide) fun a hk => ?_
    refine r_val hk (e_add rfl rfl) rfl (by decide) fun a hk => ?_
    refine r_val hk (e_idx0 (4 * s + 2) es22 rfl rfl rfl (by omega)) rfl (by decide) fun a hk => ?_
    refine u_put hk oc_u8 rfl rfl hm ho (by omega) rfl fun w a hk hm ho => ?_
    refine u_nil ?_
    refine k_seq ?_
    refine rgt 12 (by kernel_rfl) (by kernel_rfl) (by kernel_rfl) ?_
    replace ho := ho.drew
    replace hm := hm.drew
    refine r_val hk (e_move rfl) rfl (by decide) fun a hk => ?_
    refine r_val hk (e_move rfl) rfl (by decide) fun a hk => ?_
    refine r_val hk (e_add_eq ((4 * s + 3 : Nat) : Int) rfl rfl (i32_eq (by omega) (by omega) (by omega))) rfl (by decide) fun a hk => ?_
    refine r_val hk (e_idx0 (4 * s + 3) es22 rfl rfl rfl (by omega)) rfl (by decide) fun a hk => ?_
    refine r_val hk (e_load oc_u8 rfl (hm.old (i := 4 * s + 3) (by omega) (by omega))) rfl (by decide) fun a hk => ?_
    refine r_val hk (e_move rfl) rfl (by decide) fun a hk => ?_
    refine r_val hk (e_move rfl) rfl (by decide) fun a hk => ?_
    refine r_val hk (e_add_eq ((4 * (s - W) + 3 : Nat) : Int) rfl rfl (i64_eq (by omega) (by omega) (by omega))) rfl (by decide) fun a hk => ?_
    refine r_val hk (e_idx0 (4 * (s - W) + 3) es22 rfl rfl rfl (by omega)) rfl (by decide) fun a hk => ?_
    refine r_val hk (e_load oc_u8 rfl (hm.old (i := 4 * (s - W) + 3) (by omega) (by omega))) rfl (by decide) fun a hk => ?_
    refine r_val hk (e_add rfl rfl) rfl (by decide) fun a hk => ?_
    refine r_val hk (e_idx0 (4 * s + 3) es22 rfl rfl rfl (by omega)) rfl (by decide) fun a hk => ?_
    refine u_put hk oc_u8 rfl rfl hm ho (by omega) rfl fun w a hk hm ho => ?_
    refine u_nil ?_
    replace hm := hm.mem
    rw [← e] at hm
    refine k_seq ?_
    refine rg (by kernel_rfl) ?_
    refine u_val hk (e_move rfl) rfl (by decide) fun a hk => ?_
    refine u_val hk (e_add_eq ((4 * (s + 1) : Nat) : Int) rfl rfl (i32_eq (by omega) (by omega) (by omega))) rfl (by decide) fun a hk => ?_
    refine u_val hk (e_move rfl) rfl (by decide) fun a hk => ?_
    refine u_val hk (e_add_eq ((4 * (s - W + 1) : Nat) : Int) rfl rfl (i64_eq (by omega) (by omega) (by omega))) rfl (by decide) fun a hk => ?_
    refine u_val hk (e_assign rfl) rfl (by decide) fun a hk => ?_
    refine u_val hk (e_assign rfl) rfl (by decide) fun a hk => ?_
    refine u_nil ?_
    refine k_seq ?_
    have hmul : ((4 * (y / 2 ^ b) : Nat) : Int) * ((tl W b : Nat) : Int) = ((4 * (t + 0) : Nat) : Int) := by rw [ht, Nat.add_zero, ← Int.natCast_mul, Nat.mul_assoc]
    refine rg (by kernel_rfl) ?_
    refine u_val hk (e_move rfl) rfl (by decide) fun a hk => ?_
    refine u_val hk (e_move rfl) rfl (by decide) fun a hk => ?_
    refine u_val hk (e_nilCheck rfl) rfl (by decide) fun a hk => ?_
    refine u_val hk (e_field fo_tr2 rfl) rfl (by decide) fun a hk => ?_
    refine u_val hk (e_load oc_u32 rfl (hT.keep ho h1 h2).c2) rfl (by decide) fun a hk => ?_
    refine u_val hk (e_shr_eq b ((y / 2 ^ b : Nat) : Int) rfl rfl rfl (by simp only [IntKind.bits]; omega) (fdiv_pow y b)) rfl (by decide) fun a hk => ?_
    refine u_val hk (e_mul_eq ((4 * (y / 2 ^ b) : Nat) : Int) rfl rfl (i32_eq (by omega) (by omega) (by omega))) rfl (by decide) fun a hk => ?_
    refine u_val hk (e_move rfl) rfl (by decide) fun a hk => ?_
    refine u_val hk (e_mul_eq ((4 * (t + 0) : Nat) : Int) rfl rfl (i32_eq hmul (by omega) (by omega))) rfl (by decide) fun a hk => ?_
    refine u_val hk (e_assign rfl) rfl (by decide) fun a hk => ?_
    refine u_nil ?_
    refine k_seq ?_
    refine rg (by kernel_rfl) ?_
    refine u_val hk (e_move rfl) rfl (by decide) fun a hk => ?_
    refine u_val hk (e_nilCheck rfl) rfl (by decide) fun a hk => ?_
    refine u_val hk (e_field fo_tr3 rfl) rfl (by decide) fun a hk => ?_
    refine u_val hk (e_load oc_sl rfl (hT.keep ho h1 h2).c3) rfl (by decide) fun a hk => ?_
    refine u_val hk (e_move rfl) rfl (by decide) fun a hk => ?_
    refine u_val hk (e_add_eq ((4 * (t + 0) + 1 : Nat) : Int) rfl rfl (i32_eq (by omega) (by omega) (by omega))) rfl (by decide) fun a hk => ?_
    refine u_val hk (e_idx1 (4 * (t + 0) + 1) es22 rfl rfl rfl (by omega)) rfl (by decide) fun a hk => ?_
    refine u_val hk (e_load oc_u8 rfl ((hT.keep ho h1 h2).cd (by omega))) rfl (by decide) fun a hk => ?_
    refine u_val hk (e_and_eq _ rfl rfl (and15 (hd _))) rfl (by decide) fun a hk => ?_
    refine u_val hk (e_assign rfl) rfl (by decide) fun a hk => ?_
    refine u_nil ?_
    refine k_seq ?_
    refine rg (by kernel_rfl) ?_
    refine u_val hk (e_move rfl) rfl (by decide) fun a hk => ?_
    refine u_val hk (e_add_eq ((4 * (t + 0) + 4 : Nat) : Int) rfl rfl (i32_eq (by omega) (by omega) (by omega))) rfl (by decide) fun a hk => ?_
    refine u_val hk (e_assign rfl) rfl (by decide) fun a hk => ?_
    refine u_nil ?_
    refine k_seq ?_
    refine rg (by kernel_rfl) ?_
    refine u_val hk (e_assign rfl) rfl (by decide) fun a hk => ?_
    refine u_nil ?_
    refine ip_cols (t := t) h1 h2 hr hd hW hh hW2 hh2 hb hlen hdl hT hs ht hy1 hc (hk.sub (Sub.cons rfl (Sub.cons rfl (Sub.cons rfl (Sub.cons rfl (Sub.cons rfl (Sub.cons rfl (Sub.cons rfl (Sub.cons rfl (Sub.cons rfl (Sub.cons rfl (Sub.cons rfl (Sub.nil _))))))))))))) hm ho fun a w hk hm ho => ?_
    refine rg (by kernel_rfl) ?_
    refine u_val hk (e_move rfl) rfl (by decide) fun a hk => ?_
    refine u_val hk (e_add_eq ((y + 1 : Nat) : Int) rfl rfl (i32_eq (by omega) (by omega) (by omega))) rfl (by decide) fun a hk => ?_
    refine u_val hk (e_assign rfl) rfl (by decide) fun a hk => ?_
    refine u_nil ?_
    exact ⟨h - (y + 1), by omega, y + 1, s + W, by omega, by omega, by rw [hs, Nat.add_mul, Nat.one_mul], rfl, by rw [show s + W - W = s - W + W by omega]; exact hk.sub (Sub.cons rfl (Sub.cons rfl (Sub.cons rfl (Sub.cons rfl (Sub.cons rfl (Sub.cons rfl (Sub.cons rfl (Sub.cons rfl (Sub.nil _))))))))), hm, ho⟩
  · replace hc : y = h := by
      have : ¬ y < h := by simpa using hc
      omega
    subst hc
    refine wp_exit ?_
    rw [Nat.mul_comm W y, ← hs] at hQ
    exact hQ _ _ (hk.sub (Sub.cons rfl (Sub.cons rfl (Sub.cons rfl (Sub.cons rfl (Sub.nil _)))))) hm ho

set_option maxRecDepth 100000 in
/-- inversePredictor: it puts back what was foretold, pixel by pixel, in the row that it is given, and hands that row back. -/
theorem ip_any {w0 : World} {tb to db dof dlen dcap pb len cap W b h : Nat} {px dx : Nat → Int}
    (h1 : tb ≠ pb) (h2 : db ≠ pb) (hr : ∀ i, isByte (px i)) (hd : ∀ i, isByte (dx i)) (hW : 1 ≤ W) (hh : 1 ≤ h) (hW2 : W ≤ 16384) (hh2 : h ≤ 16384) (hb : b ≤ 9) (hlen : len = 4 * (W * h)) (hdl : dlen = 4 * (tl W b * tl h b)) (hT : Tr w0 tb to db dof dlen dcap W b dx) (hm : Mem w0 pb len px) :
    Calls Try.prog 32 #[.pointer (some ⟨tb, to, none⟩), .slice (some ⟨pb, 0, none⟩) len cap, .int .i32 (h : Int)] w0 fun e w' =>
      e = .returned (.slice (some ⟨pb, 0, none⟩) len cap) ∧ Mem w' pb len (ipx dx W b px (W * h)) ∧ Only pb w0 w' := by
  have hWh : W ≤ W * h := Nat.le_mul_of_pos_right W hh
  have hWh2 : W * h ≤ 268435456 := Nat.le_trans (Nat.mul_le_mul hW2 hh2) (by decide)
  have hD : tl W b * tl h b ≤ W * h := Nat.mul_le_mul (tl_le hW) (tl_le hh)
  have hp0 : 0 < 2 ^ b := Nat.two_pow_pos b
  have hp9 := two_pow_le hb
  have ho := Only.refl pb w0
  generalize hw : w0 = w at hm ho ⊢
  subst hw
  refine k_enter Try.func32 rfl (Nat.le_of_ble_eq_true rfl) (args := [_, _, _]) fun a hk => ?_
  conv => arg 2; whnf
  refine k_seq ?_
  refine rg (by kernel_rfl) ?_
  refine u_val hk (e_assign rfl) rfl (by decide) fun a hk => ?_
  refine u_nil ?_
  refine k_seq ?_
  refine k_seq ?_
  refine rgl ?_
  refine l_val hk rfl (e_move rfl) rfl (by decide) fun a hk => ?_
  refine l_val hk rfl (e_nilCheck rfl) rfl (by decide) fun a hk => ?_
  refine l_val hk rfl (e_field fo_tr1 rfl) rfl (by decide) fun a hk => ?_
  refine l_val hk rfl (e_load oc_i32 rfl (hT.keep ho h1 h2).c1) rfl (by decide) fun a hk => ?_
  refine l_val hk rfl (e_eqlF rfl rfl (by omega)) rfl (by decide) fun a hk => ?_
  refine l_val hk rfl (e_move rfl) rfl (by decide) fun a hk => ?_
  refine l_on hk rfl rfl (e_move rfl) rfl (by decide) fun a hk => ?_
  refine l_on hk rfl rfl (e_eqlF rfl rfl (by omega)) rfl (by decide) fun a hk => ?_
  refine l_val hk rfl (e_pickF rfl rfl) rfl (by decide) fun a hk => ?_
  refine l_nil ?_
  refine k_false hk rfl ?_
  refine wp_skip ?_
  refine k_seq ?_
  replace hm := hm.pm 3 (fun j => IntKind.u8.wrap (px (3 + j) + 255))
  refine rg (by kernel_rfl) ?_
  refine u_val hk (e_move rfl) rfl (by decide) fun a hk => ?_
  refine u_val hk (e_idx0 (3) es22 rfl rfl rfl (by omega)) rfl (by decide) fun a hk => ?_
  refine u_val hk (e_load oc_u8 rfl (hm.old (i := 3) (by omega) (by omega))) rfl (by decide) fun a hk => ?_
  refine u_val hk (e_add rfl rfl) rfl (by decide) fun a hk => ?_
  refine u_val hk (e_idx0 (3) es22 rfl rfl rfl (by omega)) rfl (by decide) fun a hk => ?_
  refine u_put (p := 3) (c := 0) hk oc_u8 rfl rfl hm ho (by omega) rfl fun w a hk hm ho => ?_
  refine u_nil ?_
  have e1 : ipx dx W b px 1 = step px 0 (predV 0 px 0 0) := rfl
  replace hm := PM.mem0 (p := 0) (top := 0) hm hr
  rw [← e1] at hm
  refine k_seq ?_
  refine rgs (by kernel_rfl) (by kernel_rfl) (by kernel_rfl) ?_
  replace ho := ho.drew
  replace hm := hm.drew
  refine r_val hk (e_move rfl) rfl (by decide) fun a hk => ?_
  refine r_val hk (e_nilCheck rfl) rfl (by decide) fun a hk => ?_
  refine r_val hk (e_field fo_tr2 rfl) rfl (by decide) fun a hk => ?_
  refine r_val hk (e_load oc_u32 rfl (hT.keep ho h1 h2).c2) rfl (by decide) fun a hk => ?_
  refine r_val hk (e_shl_eq b ((2 ^ b : Nat) : Int) rfl rfl rfl (by simp only [IntKind.bits]; omega) (i32_eq (by simp) (by omega) (by omega))) rfl (by decide) fun a hk => ?_
  refine r_val hk (e_sub_eq ((2 ^ b - 1 : Nat) : Int) rfl rfl (i32_eq (by omega) (by omega) (by omega))) rfl (by decide) fun a hk => ?_
  refine r_val hk (e_assign rfl) rfl (by decide) fun a hk => ?_
  refine r_val hk (e_assign rfl) rfl (by decide) fun a hk => ?_
  refine r_nil ?_
  refine k_seq ?_
  refine k_seq ?_
  refine rg (by kernel_rfl) ?_
  refine u_val hk (e_assign rfl) rfl (by decide) fun a hk => ?_
  refine u_nil ?_
  refine ip_row h1 h2 hr hd hW hh hW2 hh2 hb hlen hdl hT (hk.sub (Sub.cons rfl (Sub.cons rfl (Sub.cons rfl (Sub.cons rfl (Sub.cons rfl (Sub.cons rfl (Sub.nil _)))))))) hm ho fun a w hk hm ho => ?_
  refine k_seq ?_
  refine rgs (by kernel_rfl) (by kernel_rfl) (by kernel_rfl) ?_
  replace ho := ho.drew
  replace hm := hm.drew
  refine r_val hk (e_move rfl) rfl (by decide) fun a hk => ?_
  refine r_val hk (e_nilCheck rfl) rfl (by decide) fun a hk => ?_
  refine r_val hk (e_field fo_tr1 rfl) rfl (by decide) fun a hk => ?_
  refine r_val hk (e_load oc_i32 rfl (hT.keep ho h1 h2).c1) rfl (by decide) fun a hk => ?_
  refine r_val hk (e_move rfl) rfl (by decide) fun a hk => ?_
  refine r_val hk (e_nilCheck rfl) rfl (by decide) fun a hk => ?_
  refine r_val hk (e_field fo_tr2 rfl) rfl (by decide) fun a hk => ?_
  refine r_val hk (e_load oc_u32 rfl (hT.keep ho h1 h2).c2) rfl (by decide) fun a hk => ?_
  refine r_call hk (c_func pf_nTiles rfl) (nTiles_any W b hW hW2 hb _) rfl (by decide) fun a hk => ?_
  refine r_val hk (e_assign rfl) rfl (by decide) fun a hk => ?_
  refine r_val hk (e_assign rfl) rfl (by decide) fun a hk => ?_
  refine r_nil ?_
  refine k_seq ?_
  refine k_seq ?_
  refine rg (by kernel_rfl) ?_
  refine u_val hk (e_assign rfl) rfl (by decide) fun a hk => ?_
  refine u_nil ?_
  refine ip_rows h1 h2 hr hd hW hh hW2 hh2 hb hlen hdl hT (hk.sub (Sub.cons rfl (Sub.cons rfl (Sub.cons rfl (Sub.cons rfl (Sub.cons rfl (Sub.cons rfl (Sub.cons rfl (Sub.cons rfl (Sub.nil _)))))))))) hm ho fun a w hk hm ho => ?_
  refine k_seq ?_
  refine rg (by kernel_rfl) ?_
  refine u_val hk (e_move rfl) rfl (by decide) fun a hk => ?_
  refine u_val hk (e_assign rfl) rfl (by decide) fun a hk => ?_
  refine u_nil ?_
  refine wp_ret ?_
  exact k_ret1 hk rfl rfl ⟨rfl, hm, ho⟩
end Go.Proofs.Ytgjcikajfnlocaa
