/-
  OUR OWN: FnPredictorBack: laws.guess, laws.predicted, (*writer).block by contract.
-/
import Derived.Test.YtgjcikajfnlocaaBc
namespace Go.Proofs.Ytgjcikajfnlocaa
open Go.RowKit Go.Proofs.Ytgjcikajfnlocaa.PFnPredictorBack Go.Proofs.YtgjcikajfnlocaaW.PrintWords Go.Proofs.YtgjcikajfnlocaaW.PrintLast
set_option linter.unusedVariables false
set_option linter.unusedSimpArgs false

theorem guess_any {f : Nat → Int} (hf : ∀ i, isByte (f i)) (m p top : Nat) (hm : m ≤ 13) (L T TR TL : Int)
    (eL : L = pk (f (p - 4)) (f (p - 3)) (f (p - 2)) (f (p - 1))) (eT : T = pk (f (top + 0)) (f (top + 1)) (f (top + 2)) (f (top + 3))) (eTR : TR = pk (f (top + 4)) (f (top + 5)) (f (top + 6)) (f (top + 7))) (eTL : TL = pk (f (top - 4)) (f (top - 3)) (f (top - 2)) (f (top - 1))) (w : World) :
    Calls Try.prog 28 #[.int .i64 (m : Int), .int .u32 L, .int .u32 T, .int .u32 TL, .int .u32 TR] w fun e w' => e = .returned (.int .u32 (pk (predV m f p top 0) (predV m f p top 1) (predV m f p top 2) (predV m f p top 3))) ∧ Below w.heap.size w w' := by
  have A := fun x y : Nat => avg_byte (hf x) (hf y)
  match m, hm with
  | 0, _ => have := guess_0 L T TL TR w; rw [← pk_ff] at this; exact this
  | 1, _ => exact (guess_1 L T TL TR w).mono fun e w' h => ⟨h.1.trans (by rw [eL]; rfl), h.2⟩
  | 2, _ => exact (guess_2 L T TL TR w).mono fun e w' h => ⟨h.1.trans (by rw [eT]; rfl), h.2⟩
  | 3, _ => exact (guess_3 L T TL TR w).mono fun e w' h => ⟨h.1.trans (by rw [eTR]; rfl), h.2⟩
  | 4, _ => exact (guess_4 L T TL TR w).mono fun e w' h => ⟨h.1.trans (by rw [eTL]; rfl), h.2⟩
  | 5, _ => rw [eL, eT, eTR, eTL]; exact guess_5 _ _ _ _ _ _ (Aside0.mk fun w => drawB (laws_between.calls _ _ _ w (between_pk (hf _) (hf _) (hf _) (hf _) (hf _) (hf _) (hf _) (hf _)))) (Aside0.mk fun w => drawB (laws_between.calls _ _ _ w (between_pk (A _ _) (A _ _) (A _ _) (A _ _) (hf _) (hf _) (hf _) (hf _)))) w
  | 6, _ => rw [eL, eT, eTR, eTL]; exact guess_6 _ _ _ _ _ (Aside0.mk fun w => drawB (laws_between.calls _ _ _ w (between_pk (hf _) (hf _) (hf _) (hf _) (hf _) (hf _) (hf _) (hf _)))) w
  | 7, _ => rw [eL, eT, eTR, eTL]; exact guess_7 _ _ _ _ _ (Aside0.mk fun w => drawB (laws_between.calls _ _ _ w (between_pk (hf _) (hf _) (hf _) (hf _) (hf _) (hf _) (hf _) (hf _)))) w
  | 8, _ => rw [eL, eT, eTR, eTL]; exact guess_8 _ _ _ _ _ (Aside0.mk fun w => drawB (laws_between.calls _ _ _ w (between_pk (hf _) (hf _) (hf _) (hf _) (hf _) (hf _) (hf _) (hf _)))) w
  | 9, _ => rw [eL, eT, eTR, eTL]; exact guess_9 _ _ _ _ _ (Aside0.mk fun w => drawB (laws_between.calls _ _ _ w (between_pk (hf _) (hf _) (hf _) (hf _) (hf _) (hf _) (hf _) (hf _)))) w
  | 10, _ => rw [eL, eT, eTR, eTL]; exact guess_10 _ _ _ _ _ _ _ (Aside0.mk fun w => drawB (laws_between.calls _ _ _ w (between_pk (hf _) (hf _) (hf _) (hf _) (hf _) (hf _) (hf _) (hf _)))) (Aside0.mk fun w => drawB (laws_between.calls _ _ _ w (between_pk (hf _) (hf _) (hf _) (hf _) (hf _) (hf _) (hf _) (hf _)))) (Aside0.mk fun w => drawB (laws_between.calls _ _ _ w (between_pk (A _ _) (A _ _) (A _ _) (A _ _) (A _ _) (A _ _) (A _ _) (A _ _)))) w
  | 11, _ => rw [eL, eT, eTL]; refine (guess_11 _ _ _ _ _ (Aside0.mk fun w => laws_chosen.calls 5 _ _ _ _ w (chosen_pk (hf _) (hf _) (hf _) (hf _) (hf _) (hf _) (hf _) (hf _) (hf _) (hf _) (hf _) (hf _) 0)) w).mono fun e w' h => ⟨?_, h.2⟩; rw [h.1, chosen_two]; rfl
  | 12, _ => rw [eL, eT, eTR, eTL]; exact guess_12 _ _ _ _ _ (Aside0.mk fun w => full_any (hf _) (hf _) (hf _) (hf _) (hf _) (hf _) (hf _) (hf _) (hf _) (hf _) (hf _) (hf _) w) w
  | 13, _ => rw [eL, eT, eTR, eTL]; exact guess_13 _ _ _ _ _ _ (Aside0.mk fun w => drawB (laws_between.calls _ _ _ w (between_pk (hf _) (hf _) (hf _) (hf _) (hf _) (hf _) (hf _) (hf _)))) (Aside0.mk fun w => half_any (A _ _) (A _ _) (A _ _) (A _ _) (hf _) (hf _) (hf _) (hf _) w) w
  | m + 14, hm => exact absurd hm (by omega)
theorem in_ret {k : Nat} {Q : Exit → Act → World → Prop} {a : Act} {w : World} (h : Q .ret a w) : Exit.inBlock k Q .ret a w := h
theorem then_ret {K : Act → World → Prop} {Q : Exit → Act → World → Prop} {a : Act} {w : World} (h : Q .ret a w) : Exit.then K Q .ret a w := h
theorem es31 : elemSize Try.prog 31 = some 1 := by kernel_rfl
theorem oc38 : oneCell Try.prog 38 = true := by kernel_rfl
theorem pf_guess : plainFn Try.prog 28 = true := by kernel_rfl
theorem e_rem_nat {l : KL} {w : World} {dst : Option Tmp} {ty : TypeId} {pos : String} {after : Array Edge} {guard : Option (Nat × Bool)} {t yt : TypeId} {x y : Operand} {i j : Nat} (hx : opv l x = some (.int .i64 (i : Int))) (hy : opv l y = some (.int .i64 (j : Int))) (hj : 1 ≤ j) :
    Ev Try.prog l ⟨dst, .binOp .rem t x y yt, ty, pos, after, guard⟩ w (.int .i64 ((i % j : Nat) : Int)) w := e_rem hx hy (by omega)
theorem e_quo_nat {l : KL} {w : World} {dst : Option Tmp} {ty : TypeId} {pos : String} {after : Array Edge} {guard : Option (Nat × Bool)} {t yt : TypeId} {x y : Operand} {i j : Nat} (hx : opv l x = some (.int .i64 (i : Int))) (hy : opv l y = some (.int .i64 (j : Int))) (hj : 1 ≤ j) (hi : i < 9223372036854775808) :
    Ev Try.prog l ⟨dst, .binOp .quo t x y yt, ty, pos, after, guard⟩ w (.int .i64 ((i / j : Nat) : Int)) w := by
  have h := e_quo (P := Try.prog) (w := w) (dst := dst) (ty := ty) (pos := pos) (after := after) (guard := guard) (t := t) (yt := yt) hx hy (by omega)
  rw [tdiv_nat, i64_w, w64 _ (Nat.lt_of_le_of_lt (Nat.div_le_self i j) hi)] at h
  exact h

set_option maxRecDepth 100000 in
theorem predicted_any {px dx : Nat → Int} (hr : ∀ i, isByte (px i)) {W b i n m xb xo cap : Nat} (hm : modeAt dx W b i = m) (hm13 : m ≤ 13) (hW : 1 ≤ W) (hW2 : W ≤ 16384) (hi : i < n) (hn : n ≤ 268435456) (w0 : World)
    (hx : ∀ {j : Nat}, j < n → w0.cell? ⟨xb, xo + j, none⟩ = some (.int .u32 (pa px (4 * j)))) :
    Calls Try.prog 14 #[.slice (some ⟨xb, xo, none⟩) n cap, .int .i64 (W : Int), .int .i64 (i : Int), .int .i64 (m : Int)] w0 fun e w' =>
      e = .returned (.int .u32 (pk (pvAt dx W b px i 0) (pvAt dx W b px i 1) (pvAt dx W b px i 2) (pvAt dx W b px i 3))) ∧ Below w0.heap.size w0 w' := by
  have hlt := Nat.mod_lt i (show 0 < W by omega)
  refine k_enter Try.func14 rfl (Nat.le_of_ble_eq_true rfl) (args := [_, _, _, _]) fun a hk => ?_
  conv => arg 2; whnf
  refine k_seq ?_
  refine rg (by kernel_rfl) ?_
  refine u_val hk (e_assign rfl) rfl (by decide) fun a hk => ?_
  refine u_nil ?_
  refine k_seq ?_
  refine rgs (by kernel_rfl) (by kernel_rfl) (by kernel_rfl) ?_
  refine r_val hk (e_move rfl) rfl (by decide) fun a hk => ?_
  refine r_val hk (e_move rfl) rfl (by decide) fun a hk => ?_
  refine r_val hk (e_rem_nat rfl rfl hW) rfl (by decide) fun a hk => ?_
  refine r_val hk (e_move rfl) rfl (by decide) fun a hk => ?_
  refine r_val hk (e_move rfl) rfl (by decide) fun a hk => ?_
  refine r_val hk (e_quo_nat rfl rfl hW (by omega)) rfl (by decide) fun a hk => ?_
  refine r_val hk (e_assign rfl) rfl (by decide) fun a hk => ?_
  refine r_val hk (e_assign rfl) rfl (by decide) fun a hk => ?_
  refine r_nil ?_
  have hB : Below w0.heap.size w0 w0.drew := below_drew (Below.refl _ _)
  replace hx : ∀ {j : Nat}, j < n → w0.drew.cell? ⟨xb, xo + j, none⟩ = some (.int .u32 (pa px (4 * j))) := hx
  generalize w0.drew = w at hB hx ⊢
  replace hk := hk.sub (l' := [(0, .slice (some ⟨xb, xo, none⟩) n cap), (1, .int .i64 (W : Int)), (2, .int .i64 (i : Int)), (3, .int .i64 (m : Int)), (9, .int .i64 ((i % W : Nat) : Int)), (10, .int .i64 ((i / W : Nat) : Int))]) (Sub.cons rfl (Sub.cons rfl (Sub.cons rfl (Sub.cons rfl (Sub.cons rfl (Sub.cons rfl (Sub.nil _)))))))
  refine k_seq ?_
  refine wp_block ?_
  refine k_seq ?_
  refine rg (by kernel_rfl) ?_
  refine u_val hk (e_move rfl) rfl (by decide) fun a hk => ?_
  refine u_val hk (e_eql rfl rfl) rfl (by decide) fun a hk => ?_
  refine u_val hk (e_assign rfl) rfl (by decide) fun a hk => ?_
  refine u_nil ?_
  refine k_cond hk rfl (fun hc => ?_) (fun hc => ?_)
  · have h0 : i = 0 := by have := of_decide_eq_true hc; omega
    refine k_seq ?_
    refine rg (by kernel_rfl) ?_
    refine u_val hk (e_assign rfl) rfl (by decide) fun a hk => ?_
    refine u_nil ?_
    refine wp_ret ?_
    refine in_ret (then_ret ?_)
    refine k_ret1 hk rfl rfl ⟨?_, hB⟩
    have e : ∀ c, pvAt dx W b px i c = predV 0 px 0 0 c := fun c => by rw [pvAt, if_pos h0]
    rw [e, e, e, e, ← pk_ff]
    rfl
  have h0 : ¬ i = 0 := by have := of_decide_eq_false hc; omega
  refine k_seq ?_
  refine rg (by kernel_rfl) ?_
  refine u_val hk (e_move rfl) rfl (by decide) fun a hk => ?_
  refine u_val hk (e_eql rfl rfl) rfl (by decide) fun a hk => ?_
  refine u_val hk (e_assign rfl) rfl (by decide) fun a hk => ?_
  refine u_nil ?_
  refine k_cond hk rfl (fun hc => ?_) (fun hc => ?_)
  · have h1 : i < W := by
      have := of_decide_eq_true hc
      have h2 : i / W = 0 := by omega
      exact (Nat.div_eq_zero_iff_lt (by omega)).1 h2
    refine k_seq ?_
    refine rg (by kernel_rfl) ?_
    refine u_val hk (e_move rfl) rfl (by decide) fun a hk => ?_
    refine u_val hk (e_move rfl) rfl (by decide) fun a hk => ?_
    refine u_val hk (e_sub_eq ((i - 1 : Nat) : Int) rfl rfl (i64_eq (by omega) (by omega) (by omega))) rfl (by decide) fun a hk => ?_
    refine u_val hk (e_idx1 (i - 1) es31 rfl rfl rfl (by omega)) rfl (by decide) fun a hk => ?_
    refine u_val hk (e_load oc38 rfl (hx (by omega))) rfl (by decide) fun a hk => ?_
    refine u_val hk (e_assign rfl) rfl (by decide) fun a hk => ?_
    refine u_nil ?_
    refine wp_ret ?_
    refine in_ret (then_ret ?_)
    refine k_ret1 hk rfl rfl ⟨?_, hB⟩
    have e : ∀ c, c < 4 → pvAt dx W b px i c = px (4 * (i - 1) + c) := fun c hc => by
      rw [pvAt, if_neg h0, if_pos h1]
      show px (4 * i - (4 - c)) = _
      congr 1; omega
    rw [e 0 (by omega), e 1 (by omega), e 2 (by omega), e 3 (by omega)]
    rfl
  have h1 : ¬ i < W := fun h => by
    have := of_decide_eq_false hc
    have h2 : i / W = 0 := Nat.div_eq_of_lt h
    omega
  refine k_seq ?_
  refine rg (by kernel_rfl) ?_
  refine u_val hk (e_move rfl) rfl (by decide) fun a hk => ?_
  refine u_val hk (e_eql rfl rfl) rfl (by decide) fun a hk => ?_
  refine u_val hk (e_assign rfl) rfl (by decide) fun a hk => ?_
  refine u_nil ?_
  refine k_cond hk rfl (fun hc => ?_) (fun hc => ?_)
  · have h2 : i % W = 0 := by have := of_decide_eq_true hc; omega
    refine k_seq ?_
    refine rg (by kernel_rfl) ?_
    refine u_val hk (e_move rfl) rfl (by decide) fun a hk => ?_
    refine u_val hk (e_move rfl) rfl (by decide) fun a hk => ?_
    refine u_val hk (e_move rfl) rfl (by decide) fun a hk => ?_
    refine u_val hk (e_sub_eq ((i - W : Nat) : Int) rfl rfl (i64_eq (by omega) (by omega) (by omega))) rfl (by decide) fun a hk => ?_
    refine u_val hk (e_idx1 (i - W) es31 rfl rfl rfl (by omega)) rfl (by decide) fun a hk => ?_
    refine u_val hk (e_load oc38 rfl (hx (by omega))) rfl (by decide) fun a hk => ?_
    refine u_val hk (e_assign rfl) rfl (by decide) fun a hk => ?_
    refine u_nil ?_
    refine wp_ret ?_
    refine in_ret (then_ret ?_)
    refine k_ret1 hk rfl rfl ⟨?_, hB⟩
    have e : ∀ c, pvAt dx W b px i c = px (4 * (i - W) + c) := fun c => by
      rw [pvAt, if_neg h0, if_neg h1, if_pos h2]
      rfl
    rw [e, e, e, e]
    rfl
  have h2 : ¬ i % W = 0 := by have := of_decide_eq_false hc; omega
  have hi1 : W + 1 ≤ i := by
    by_cases he : i = W
    · rw [he, Nat.mod_self] at h2; exact absurd rfl h2
    · omega
  have hW3 : 2 ≤ W := by omega
  replace hk := hk.sub (l' := [(0, .slice (some ⟨xb, xo, none⟩) n cap), (1, .int .i64 (W : Int)), (2, .int .i64 (i : Int)), (3, .int .i64 (m : Int))]) (Sub.cons rfl (Sub.cons rfl (Sub.cons rfl (Sub.cons rfl (Sub.nil _)))))
  refine wp_skip ?_
  refine k_seq ?_
  refine rgt 26 (by kernel_rfl) (by kernel_rfl) (by kernel_rfl) ?_
  replace hB := below_drew hB
  replace hx : ∀ {j : Nat}, j < n → w.drew.cell? ⟨xb, xo + j, none⟩ = some (.int .u32 (pa px (4 * j))) := hx
  refine r_val hk (e_move rfl) rfl (by decide) fun a hk => ?_
  refine r_val hk (e_move rfl) rfl (by decide) fun a hk => ?_
  refine r_val hk (e_move rfl) rfl (by decide) fun a hk => ?_
  refine r_val hk (e_sub_eq ((i - 1 : Nat) : Int) rfl rfl (i64_eq (by omega) (by omega) (by omega))) rfl (by decide) fun a hk => ?_
  refine r_val hk (e_idx1 (i - 1) es31 rfl rfl rfl (by omega)) rfl (by decide) fun a hk => ?_
  refine r_val hk (e_load oc38 rfl (hx (by omega))) rfl (by decide) fun a hk => ?_
  refine r_val hk (e_move rfl) rfl (by decide) fun a hk => ?_
  refine r_val hk (e_move rfl) rfl (by decide) fun a hk => ?_
  refine r_val hk (e_move rfl) rfl (by decide) fun a hk => ?_
  refine r_val hk (e_sub_eq ((i - W : Nat) : Int) rfl rfl (i64_eq (by omega) (by omega) (by omega))) rfl (by decide) fun a hk => ?_
  refine r_val hk (e_idx1 (i - W) es31 rfl rfl rfl (by omega)) rfl (by decide) fun a hk => ?_
  refine r_val hk (e_load oc38 rfl (hx (by omega))) rfl (by decide) fun a hk => ?_
  refine r_val hk (e_move rfl) rfl (by decide) fun a hk => ?_
  refine r_val hk (e_move rfl) rfl (by decide) fun a hk => ?_
  refine r_val hk (e_move rfl) rfl (by decide) fun a hk => ?_
  refine r_val hk (e_sub_eq ((i - W : Nat) : Int) rfl rfl (i64_eq (by omega) (by omega) (by omega))) rfl (by decide) fun a hk => ?_
  refine r_val hk (e_sub_eq ((i - W - 1 : Nat) : Int) rfl rfl (i64_eq (by omega) (by omega) (by omega))) rfl (by decide) fun a hk => ?_
  refine r_val hk (e_idx1 (i - W - 1) es31 rfl rfl rfl (by omega)) rfl (by decide) fun a hk => ?_
  refine r_val hk (e_load oc38 rfl (hx (by omega))) rfl (by decide) fun a hk => ?_
  refine r_val hk (e_move rfl) rfl (by decide) fun a hk => ?_
  refine r_val hk (e_move rfl) rfl (by decide) fun a hk => ?_
  refine r_val hk (e_move rfl) rfl (by decide) fun a hk => ?_
  refine r_val hk (e_sub_eq ((i - W : Nat) : Int) rfl rfl (i64_eq (by omega) (by omega) (by omega))) rfl (by decide) fun a hk => ?_
  refine r_val hk (e_add_eq ((i - W + 1 : Nat) : Int) rfl rfl (i64_eq (by omega) (by omega) (by omega))) rfl (by decide) fun a hk => ?_
  refine r_val hk (e_idx1 (i - W + 1) es31 rfl rfl rfl (by omega)) rfl (by decide) fun a hk => ?_
  refine r_val hk (e_load oc38 rfl (hx (by omega))) rfl (by decide) fun a hk => ?_
  refine r_nil ?_
  have c4 : ∀ (x y : Nat), x = y → px x = px y := fun x y h => by rw [h]
  have hg := guess_any hr m (4 * i) (4 * (i - W)) hm13 (pa px (4 * (i - 1))) (pa px (4 * (i - W))) (pa px (4 * (i - W + 1))) (pa px (4 * (i - W - 1)))
      (by rw [pa_def, c4 (4 * (i - 1)) (4 * i - 4) (by omega), c4 (4 * (i - 1) + 1) (4 * i - 3) (by omega), c4 (4 * (i - 1) + 2) (4 * i - 2) (by omega), c4 (4 * (i - 1) + 3) (4 * i - 1) (by omega)])
      (pa_def0 _ _)
      (by rw [pa_def, c4 (4 * (i - W + 1)) (4 * (i - W) + 4) (by omega), c4 (4 * (i - W + 1) + 1) (4 * (i - W) + 5) (by omega), c4 (4 * (i - W + 1) + 2) (4 * (i - W) + 6) (by omega), c4 (4 * (i - W + 1) + 3) (4 * (i - W) + 7) (by omega)])
      (by rw [pa_def, c4 (4 * (i - W - 1)) (4 * (i - W) - 4) (by omega), c4 (4 * (i - W - 1) + 1) (4 * (i - W) - 3) (by omega), c4 (4 * (i - W - 1) + 2) (4 * (i - W) - 2) (by omega), c4 (4 * (i - W - 1) + 3) (4 * (i - W) - 1) (by omega)]) w.drew
  have e : ∀ c, predV m px (4 * i) (4 * (i - W)) c = pvAt dx W b px i c := fun c => by rw [pvAt, if_neg h0, if_neg h1, if_neg h2, hm]
  rw [e, e, e, e] at hg
  refine u_callB hk (c_func pf_guess rfl) hg rfl (by decide) fun w1 a hk hb => ?_
  refine u_val hk (e_assign rfl) rfl (by decide) fun a hk => ?_
  refine u_nil ?_
  refine wp_ret ?_
  exact k_ret1 hk rfl rfl ⟨rfl, hB.trans (hb.mono hB.size)⟩
theorem blocks_any {n b : Nat} (hn : n ≤ 16384) (h1 : 1 ≤ n) (hb : b ≤ 9) (w : World) : Calls Try.prog 17 #[.int .i64 (n : Int), .int .i64 (b : Int)] w fun e w' => e = .returned (.int .i64 ((tl n b : Nat) : Int)) ∧ w' = w := by
  have h2 := two_pow_le hb
  have hp : 0 < 2 ^ b := Nat.two_pow_pos b
  refine k_enter Try.func17 rfl (Nat.le_of_ble_eq_true rfl) (args := [_, _]) fun a hk => ?_
  conv => arg 2; whnf
  refine k_seq ?_
  refine rg (by kernel_rfl) ?_
  refine u_val hk (e_assign rfl) rfl (by decide) fun a hk => ?_
  refine u_nil ?_
  refine k_seq ?_
  refine rg (by kernel_rfl) ?_
  refine u_val hk (e_move rfl) rfl (by decide) fun a hk => ?_
  refine u_val hk (e_move rfl) rfl (by decide) fun a hk => ?_
  refine u_val hk (e_shl_eq b ((2 ^ b : Nat) : Int) rfl rfl rfl (by simp only [IntKind.bits]; omega) (i64_eq (by simp) (by omega) (by omega))) rfl (by decide) fun a hk => ?_
  refine u_val hk (e_add_eq ((n + (2 ^ b) : Nat) : Int) rfl rfl (i64_eq (by omega) (by omega) (by omega))) rfl (by decide) fun a hk => ?_
  refine u_val hk (e_sub_eq ((n + (2 ^ b) - 1 : Nat) : Int) rfl rfl (i64_eq (by omega) (by omega) (by omega))) rfl (by decide) fun a hk => ?_
  refine u_val hk (e_move rfl) rfl (by decide) fun a hk => ?_
  refine u_val hk (e_shr_eq b ((tl n b : Nat) : Int) rfl rfl rfl (by simp only [IntKind.bits]; omega) (fdiv_pow (n + 2 ^ b - 1) b)) rfl (by decide) fun a hk => ?_
  refine u_val hk (e_assign rfl) rfl (by decide) fun a hk => ?_
  refine u_nil ?_
  refine wp_ret ?_
  exact k_ret1 hk rfl rfl ⟨rfl, rfl⟩
theorem fo_wr3 : fieldOff Try.prog 37 3 = some 4 := by kernel_rfl
theorem fo_wr2 : fieldOff Try.prog 37 2 = some 3 := by kernel_rfl
theorem pf_blocks : plainFn Try.prog 17 = true := by kernel_rfl
set_option maxRecDepth 100000 in
theorem block_any {W b i eb : Nat} (hW : 1 ≤ W) (hW2 : W ≤ 16384) (hb : b ≤ 9) (hi : i ≤ 268435456) (hB : i / W / 2 ^ b * tl W b + i % W / 2 ^ b ≤ 268435456) (w0 : World) (hw0 : w0.cell? ⟨eb, 4, none⟩ = some (.int .i64 (W : Int))) :
    Calls Try.prog 15 #[.pointer (some ⟨eb, 0, none⟩), .int .i64 (i : Int), .int .i64 (b : Int)] w0 fun e w' => e = .returned (.int .i64 ((i / W / 2 ^ b * tl W b + i % W / 2 ^ b : Nat) : Int)) ∧ Below w0.heap.size w0 w' := by
  generalize hy : i / W / 2 ^ b = y at hB ⊢
  generalize hx : i % W / 2 ^ b = x at hB ⊢
  have hyx : y * tl W b ≤ 268435456 := by omega
  refine k_enter Try.func15 rfl (Nat.le_of_ble_eq_true rfl) (args := [_, _, _]) fun a hk => ?_
  conv => arg 2; whnf
  refine k_seq ?_
  refine rg (by kernel_rfl) ?_
  refine u_val hk (e_assign rfl) rfl (by decide) fun a hk => ?_
  refine u_nil ?_
  refine k_seq ?_
  refine rgs (by kernel_rfl) (by kernel_rfl) (by kernel_rfl) ?_
  have hw : w0.drew.cell? ⟨eb, 0 + 4, none⟩ = some (.int .i64 (W : Int)) := hw0
  refine r_val hk (e_move rfl) rfl (by decide) fun a hk => ?_
  refine r_val hk (e_move rfl) rfl (by decide) fun a hk => ?_
  refine r_val hk (e_nilCheck rfl) rfl (by decide) fun a hk => ?_
  refine r_val hk (e_field fo_wr3 rfl) rfl (by decide) fun a hk => ?_
  refine r_val hk (e_load oc3 rfl hw) rfl (by decide) fun a hk => ?_
  refine r_val hk (e_quo_nat rfl rfl hW (by omega)) rfl (by decide) fun a hk => ?_
  refine r_val hk (e_move rfl) rfl (by decide) fun a hk => ?_
  refine r_val hk (e_shr_eq b ((y : Nat) : Int) rfl rfl rfl (by simp only [IntKind.bits]; omega) (by rw [fdiv_pow, hy])) rfl (by decide) fun a hk => ?_
  refine r_val hk (e_move rfl) rfl (by decide) fun a hk => ?_
  refine r_val hk (e_nilCheck rfl) rfl (by decide) fun a hk => ?_
  refine r_val hk (e_field fo_wr3 rfl) rfl (by decide) fun a hk => ?_
  refine r_val hk (e_load oc3 rfl hw) rfl (by decide) fun a hk => ?_
  refine r_val hk (e_move rfl) rfl (by decide) fun a hk => ?_
  refine r_call hk (c_func pf_blocks rfl) (blocks_any hW2 hW hb _) rfl (by decide) fun a hk => ?_
  refine r_val hk (e_mul_eq ((y * tl W b : Nat) : Int) rfl rfl (i64_eq (by simp) (by omega) (by omega))) rfl (by decide) fun a hk => ?_
  refine r_val hk (e_move rfl) rfl (by decide) fun a hk => ?_
  refine r_val hk (e_move rfl) rfl (by decide) fun a hk => ?_
  refine r_val hk (e_nilCheck rfl) rfl (by decide) fun a hk => ?_
  refine r_val hk (e_field fo_wr3 rfl) rfl (by decide) fun a hk => ?_
  refine r_val hk (e_load oc3 rfl hw) rfl (by decide) fun a hk => ?_
  refine r_val hk (e_rem_nat rfl rfl hW) rfl (by decide) fun a hk => ?_
  refine r_val hk (e_move rfl) rfl (by decide) fun a hk => ?_
  refine r_val hk (e_shr_eq b ((x : Nat) : Int) rfl rfl rfl (by simp only [IntKind.bits]; omega) (by rw [fdiv_pow, hx])) rfl (by decide) fun a hk => ?_
  refine r_val hk (e_add_eq ((y * tl W b + x : Nat) : Int) rfl rfl (i64_eq (by omega) (by omega) (by omega))) rfl (by decide) fun a hk => ?_
  refine r_val hk (e_assign rfl) rfl (by decide) fun a hk => ?_
  refine r_nil ?_
  refine wp_ret ?_
  exact k_ret1 hk rfl rfl ⟨rfl, below_drew (Below.refl _ _)⟩
end Go.Proofs.Ytgjcikajfnlocaa
