/-
  OUR OWN, PRINTED by our program gen_ip.py: the switch of inversePredictor, case by case.
-/
import Derived.Test.YtgjcikajfnlocaaSc
namespace Go.Proofs.Ytgjcikajfnlocaa
open Go.RowKit
set_option linter.unusedVariables false
noncomputable def ipBody : Code := Try.f32.body.getD .skip
theorem es22 : elemSize Try.prog 22 = some 1 := by kernel_rfl
theorem oc5 : oneCell Try.prog 5 = true := by kernel_rfl
theorem ti5_21 : toInt Try.prog 5 21 .i32 = true := by kernel_rfl
theorem ti21_5 : toInt Try.prog 21 5 .u8 = true := by kernel_rfl
theorem pf_avg2 : plainFn Try.prog 41 = true := by kernel_rfl
theorem pf_full : plainFn Try.prog 42 = true := by kernel_rfl
theorem pf_half : plainFn Try.prog 43 = true := by kernel_rfl
theorem pf_abs : plainFn Try.prog 45 = true := by kernel_rfl
/-- The locals. -/
abbrev L (v0 v1 v2 v7 v8 v10 v11 v12 v13 v14 v15 : Value) : KL := [(0, v0), (1, v1), (2, v2), (7, v7), (8, v8), (10, v10), (11, v11), (12, v12), (13, v13), (14, v14), (15, v15)]
/-- The switch. -/
noncomputable def swCode : Code := sub ipBody [true, true, true, true, true, true, false, true, false, false, true, false, false, true, true, true, true, true, true, true, true, true, false, false, true, false, false, true, false]

set_option maxRecDepth 100000 in
theorem sw_0 {Q : Exit → Act → World → Prop} {a : Act} {w w0 : World} {v0 v2 v8 v11 v12 v13 v15 : Value} {pb len cap p top : Nat} {px : Nat → Int}
    (hk : Kn 1328 (L v0 (.slice (some ⟨pb, 0, none⟩) len cap) v2 (.int .i32 (p : Int)) v8 (.int .i64 (top : Int)) v11 v12 v13 (.int .u8 (0 : Int)) v15) a)
    (hm : Mem w pb len px) (ho : Only pb w0 w) (hr : ∀ i, isByte (px i)) (h4 : 4 ≤ p) (ht : 4 ≤ top) (htp : top + 8 ≤ p) (hl : p + 4 ≤ len) (hlen : len ≤ 1073741824)
    (hQ : ∀ a' w', Kn 1328 (L v0 (.slice (some ⟨pb, 0, none⟩) len cap) v2 (.int .i32 (p : Int)) v8 (.int .i64 (top : Int)) v11 v12 v13 (.int .u8 (0 : Int)) v15) a' → Mem w' pb len (step px p (predV 0 px p top)) → Only pb w0 w' → Q .normal a' w') :
    swCode.wp Try.prog Q a w := by
  unfold swCode ipBody
  conv => arg 2; whnf
  refine k_seq ?_
  refine rg (by kernel_rfl) ?_
  refine u_val hk (e_move rfl) rfl (by decide) fun a hk => ?_
  refine u_nil ?_
  refine wp_block ?_
  refine k_seq ?_
  refine rg (by kernel_rfl) ?_
  refine u_val hk (e_eqlT rfl rfl (by decide)) rfl (by decide) fun a hk => ?_
  refine u_val hk (e_assign rfl) rfl (by decide) fun a hk => ?_
  refine u_nil ?_
  refine k_true hk rfl ?_
  replace hm := hm.pm (p + 3) (fun j => IntKind.u8.wrap (px (p + 3 + j) + 255))
  refine rg (by kernel_rfl) ?_
  refine u_val hk (e_move rfl) rfl (by decide) fun a hk => ?_
  refine u_val hk (e_move rfl) rfl (by decide) fun a hk => ?_
  refine u_val hk (e_add_eq ((p + 3 : Nat) : Int) rfl rfl (i32_eq (by omega) (by omega) (by omega))) rfl (by decide) fun a hk => ?_
  refine u_val hk (e_idx0 (p + 3) es22 rfl rfl rfl (by omega)) rfl (by decide) fun a hk => ?_
  refine u_val hk (e_load oc5 rfl (hm.old (i := p + 3) (by omega) (by omega))) rfl (by decide) fun a hk => ?_
  refine u_val hk (e_add rfl rfl) rfl (by decide) fun a hk => ?_
  refine u_val hk (e_idx0 (p + 3) es22 rfl rfl rfl (by omega)) rfl (by decide) fun a hk => ?_
  refine u_put (p := p + 3) (c := 0) hk oc5 rfl rfl hm ho (by omega) rfl fun w a hk hm ho => ?_
  refine u_nil ?_
  exact hQ _ _ (hk.sub (Sub.cons rfl (Sub.cons rfl (Sub.cons rfl (Sub.cons rfl (Sub.cons rfl (Sub.cons rfl (Sub.cons rfl (Sub.cons rfl (Sub.cons rfl (Sub.cons rfl (Sub.cons rfl (Sub.nil _))))))))))))) (hm.mem0 hr) ho

set_option maxRecDepth 100000 in
theorem sw_1 {Q : Exit → Act → World → Prop} {a : Act} {w w0 : World} {v0 v2 v8 v11 v12 v13 v15 : Value} {pb len cap p top : Nat} {px : Nat → Int}
    (hk : Kn 1328 (L v0 (.slice (some ⟨pb, 0, none⟩) len cap) v2 (.int .i32 (p : Int)) v8 (.int .i64 (top : Int)) v11 v12 v13 (.int .u8 (1 : Int)) v15) a)
    (hm : Mem w pb len px) (ho : Only pb w0 w) (hr : ∀ i, isByte (px i)) (h4 : 4 ≤ p) (ht : 4 ≤ top) (htp : top + 8 ≤ p) (hl : p + 4 ≤ len) (hlen : len ≤ 1073741824)
    (hQ : ∀ a' w', Kn 1328 (L v0 (.slice (some ⟨pb, 0, none⟩) len cap) v2 (.int .i32 (p : Int)) v8 (.int .i64 (top : Int)) v11 v12 v13 (.int .u8 (1 : Int)) v15) a' → Mem w' pb len (step px p (predV 1 px p top)) → Only pb w0 w' → Q .normal a' w') :
    swCode.wp Try.prog Q a w := by
  unfold swCode ipBody
  conv => arg 2; whnf
  refine k_seq ?_
  refine rg (by kernel_rfl) ?_
  refine u_val hk (e_move rfl) rfl (by decide) fun a hk => ?_
  refine u_nil ?_
  refine wp_block ?_
  refine k_seq ?_
  refine rg (by kernel_rfl) ?_
  refine u_val hk (e_eqlF rfl rfl (by decide)) rfl (by decide) fun a hk => ?_
  refine u_val hk (e_assign rfl) rfl (by decide) fun a hk => ?_
  refine u_nil ?_
  refine k_false hk rfl ?_
  refine k_seq ?_
  refine rg (by kernel_rfl) ?_
  refine u_val hk (e_eqlT rfl rfl (by decide)) rfl (by decide) fun a hk => ?_
  refine u_val hk (e_assign rfl) rfl (by decide) fun a hk => ?_
  refine u_nil ?_
  refine k_true hk rfl ?_
  replace hm := hm.pm p (fun j => IntKind.u8.wrap (px (p + j) + predV 1 px p top j))
  refine k_seq ?_
  refine rgt 12 (by kernel_rfl) (by kernel_rfl) (by kernel_rfl) ?_
  replace hm := hm.drew
  replace ho := ho.drew
  refine r_val hk (e_move rfl) rfl (by decide) fun a hk => ?_
  refine r_val hk (e_move rfl) rfl (by decide) fun a hk => ?_
  refine r_val hk (e_add_eq ((p + 0 : Nat) : Int) rfl rfl (i32_eq (by omega) (by omega) (by omega))) rfl (by decide) fun a hk => ?_
  refine r_val hk (e_idx0 (p + 0) es22 rfl rfl rfl (by omega)) rfl (by decide) fun a hk => ?_
  refine r_val hk (e_load oc5 rfl (hm.old (i := p + 0) (by omega) (by omega))) rfl (by decide) fun a hk => ?_
  refine r_val hk (e_move rfl) rfl (by decide) fun a hk => ?_
  refine r_val hk (e_move rfl) rfl (by decide) fun a hk => ?_
  refine r_val hk (e_sub_eq ((p - 4 : Nat) : Int) rfl rfl (i32_eq (by omega) (by omega) (by omega))) rfl (by decide) fun a hk => ?_
  refine r_val hk (e_idx0 (p - 4) es22 rfl rfl rfl (by omega)) rfl (by decide) fun a hk => ?_
  refine r_val hk (e_load oc5 rfl (hm.old (i := p - 4) (by omega) (by omega))) rfl (by decide) fun a hk => ?_
  refine r_val hk (e_add rfl rfl) rfl (by decide) fun a hk => ?_
  refine r_val hk (e_idx0 (p + 0) es22 rfl rfl rfl (by omega)) rfl (by decide) fun a hk => ?_
  refine u_put hk oc5 rfl rfl hm ho (by omega) rfl fun w a hk hm ho => ?_
  refine u_nil ?_
  refine k_seq ?_
  refine rgt 12 (by kernel_rfl) (by kernel_rfl) (by kernel_rfl) ?_
  replace hm := hm.drew
  replace ho := ho.drew
  refine r_val hk (e_move rfl) rfl (by decide) fun a hk => ?_
  refine r_val hk (e_move rfl) rfl (by decide) fun a hk => ?_
  refine r_val hk (e_add_eq ((p + 1 : Nat) : Int) rfl rfl (i32_eq (by omega) (by omega) (by omega))) rfl (by decide) fun a hk => ?_
  refine r_val hk (e_idx0 (p + 1) es22 rfl rfl rfl (by omega)) rfl (by decide) fun a hk => ?_
  refine r_val hk (e_load oc5 rfl (hm.old (i := p + 1) (by omega) (by omega))) rfl (by decide) fun a hk => ?_
  refine r_val hk (e_move rfl) rfl (by decide) fun a hk => ?_
  refine r_val hk (e_move rfl) rfl (by decide) fun a hk => ?_
  refine r_val hk (e_sub_eq ((p - 3 : Nat) : Int) rfl rfl (i32_eq (by omega) (by omega) (by omega))) rfl (by decide) fun a hk => ?_
  refine r_val hk (e_idx0 (p - 3) es22 rfl rfl rfl (by omega)) rfl (by decide) fun a hk => ?_
  refine r_val hk (e_load oc5 rfl (hm.old (i := p - 3) (by omega) (by omega))) rfl (by decide) fun a hk => ?_
  refine r_val hk (e_add rfl rfl) rfl (by decide) fun a hk => ?_
  refine r_val hk (e_idx0 (p + 1) es22 rfl rfl rfl (by omega)) rfl (by decide) fun a hk => ?_
  refine u_put hk oc5 rfl rfl hm ho (by omega) rfl fun w a hk hm ho => ?_
  refine u_nil ?_
  refine k_seq ?_
  refine rgt 12 (by kernel_rfl) (by kernel_rfl) (by kernel_rfl) ?_
  replace hm := hm.drew
  replace ho := ho.drew
  refine r_val hk (e_move rfl) rfl (by decide) fun a hk => ?_
  refine r_val hk (e_move rfl) rfl (by decide) fun a hk => ?_
  refine r_val hk (e_add_eq ((p + 2 : Nat) : Int) rfl rfl (i32_eq (by omega) (by omega) (by omega))) rfl (by decide) fun a hk => ?_
  refine r_val hk (e_idx0 (p + 2) es22 rfl rfl rfl (by omega)) rfl (by decide) fun a hk => ?_
  refine r_val hk (e_load oc5 rfl (hm.old (i := p + 2) (by omega) (by omega))) rfl (by decide) fun a hk => ?_
  refine r_val hk (e_move rfl) rfl (by decide) fun a hk => ?_
  refine r_val hk (e_move rfl) rfl (by decide) fun a hk => ?_
  refine r_val hk (e_sub_eq ((p - 2 : Nat) : Int) rfl rfl (i32_eq (by omega) (by omega) (by omega))) rfl (by decide) fun a hk => ?_
  refine r_val hk (e_idx0 (p - 2) es22 rfl rfl rfl (by omega)) rfl (by decide) fun a hk => ?_
  refine r_val hk (e_load oc5 rfl (hm.old (i := p - 2) (by omega) (by omega))) rfl (by decide) fun a hk => ?_
  refine r_val hk (e_add rfl rfl) rfl (by decide) fun a hk => ?_
  refine r_val hk (e_idx0 (p + 2) es22 rfl rfl rfl (by omega)) rfl (by decide) fun a hk => ?_
  refine u_put hk oc5 rfl rfl hm ho (by omega) rfl fun w a hk hm ho => ?_
  refine u_nil ?_
  refine rgt 12 (by kernel_rfl) (by kernel_rfl) (by kernel_rfl) ?_
  replace hm := hm.drew
  replace ho := ho.drew
  refine r_val hk (e_move rfl) rfl (by decide) fun a hk => ?_
  refine r_val hk (e_move rfl) rfl (by decide) fun a hk => ?_
  refine r_val hk (e_add_eq ((p + 3 : Nat) : Int) rfl rfl (i32_eq (by omega) (by omega) (by omega))) rfl (by decide) fun a hk => ?_
  refine r_val hk (e_idx0 (p + 3) es22 rfl rfl rfl (by omega)) rfl (by decide) fun a hk => ?_
  refine r_val hk (e_load oc5 rfl (hm.old (i := p + 3) (by omega) (by omega))) rfl (by decide) fun a hk => ?_
  refine r_val hk (e_move rfl) rfl (by decide) fun a hk => ?_
  refine r_val hk (e_move rfl) rfl (by decide) fun a hk => ?_
  refine r_val hk (e_sub_eq ((p - 1 : Nat) : Int) rfl rfl (i32_eq (by omega) (by omega) (by omega))) rfl (by decide) fun a hk => ?_
  refine r_val hk (e_idx0 (p - 1) es22 rfl rfl rfl (by omega)) rfl (by decide) fun a hk => ?_
  refine r_val hk (e_load oc5 rfl (hm.old (i := p - 1) (by omega) (by omega))) rfl (by decide) fun a hk => ?_
  refine r_val hk (e_add rfl rfl) rfl (by decide) fun a hk => ?_
  refine r_val hk (e_idx0 (p + 3) es22 rfl rfl rfl (by omega)) rfl (by decide) fun a hk => ?_
  refine u_put hk oc5 rfl rfl hm ho (by omega) rfl fun w a hk hm ho => ?_
  refine u_nil ?_
  exact hQ _ _ (hk.sub (Sub.cons rfl (Sub.cons rfl (Sub.cons rfl (Sub.cons rfl (Sub.cons rfl (Sub.cons rfl (Sub.cons rfl (Sub.cons rfl (Sub.cons rfl (Sub.cons rfl (Sub.cons rfl (Sub.nil _))))))))))))) hm.mem ho

set_option maxRecDepth 100000 in
theorem sw_2 {Q : Exit → Act → World → Prop} {a : Act} {w w0 : World} {v0 v2 v8 v11 v12 v13 v15 : Value} {pb len cap p top : Nat} {px : Nat → Int}
    (hk : Kn 1328 (L v0 (.slice (some ⟨pb, 0, none⟩) len cap) v2 (.int .i32 (p : Int)) v8 (.int .i64 (top : Int)) v11 v12 v13 (.int .u8 (2 : Int)) v15) a)
    (hm : Mem w pb len px) (ho : Only pb w0 w) (hr : ∀ i, isByte (px i)) (h4 : 4 ≤ p) (ht : 4 ≤ top) (htp : top + 8 ≤ p) (hl : p + 4 ≤ len) (hlen : len ≤ 1073741824)
    (hQ : ∀ a' w', Kn 1328 (L v0 (.slice (some ⟨pb, 0, none⟩) len cap) v2 (.int .i32 (p : Int)) v8 (.int .i64 (top : Int)) v11 v12 v13 (.int .u8 (2 : Int)) v15) a' → Mem w' pb len (step px p (predV 2 px p top)) → Only pb w0 w' → Q .normal a' w') :
    swCode.wp Try.prog Q a w := by
  unfold swCode ipBody
  conv => arg 2; whnf
  refine k_seq ?_
  refine rg (by kernel_rfl) ?_
  refine u_val hk (e_move rfl) rfl (by decide) fun a hk => ?_
  refine u_nil ?_
  refine wp_block ?_
  refine k_seq ?_
  refine rg (by kernel_rfl) ?_
  refine u_val hk (e_eqlF rfl rfl (by decide)) rfl (by decide) fun a hk => ?_
  refine u_val hk (e_assign rfl) rfl (by decide) fun a hk => ?_
  refine u_nil ?_
  refine k_false hk rfl ?_
  refine k_seq ?_
  refine rg (by kernel_rfl) ?_
  refine u_val hk (e_eqlF rfl rfl (by decide)) rfl (by decide) fun a hk => ?_
  refine u_val hk (e_assign rfl) rfl (by decide) fun a hk => ?_
  refine u_nil ?_
  refine k_false hk rfl ?_
  refine k_seq ?_
  refine rg (by kernel_rfl) ?_
  refine u_val hk (e_eqlT rfl rfl (by decide)) rfl (by decide) fun a hk => ?_
  refine u_val hk (e_assign rfl) rfl (by decide) fun a hk => ?_
  refine u_nil ?_
  refine k_true hk rfl ?_
  replace hm := hm.pm p (fun j => IntKind.u8.wrap (px (p + j) + predV 2 px p top j))
  refine k_seq ?_
  refine rgt 12 (by kernel_rfl) (by kernel_rfl) (by kernel_rfl) ?_
  replace hm := hm.drew
  replace ho := ho.drew
  refine r_val hk (e_move rfl) rfl (by decide) fun a hk => ?_
  refine r_val hk (e_move rfl) rfl (by decide) fun a hk => ?_
  refine r_val hk (e_add_eq ((p + 0 : Nat) : Int) rfl rfl (i32_eq (by omega) (by omega) (by omega))) rfl (by decide) fun a hk => ?_
  refine r_val hk (e_idx0 (p + 0) es22 rfl rfl rfl (by omega)) rfl (by decide) fun a hk => ?_
  refine r_val hk (e_load oc5 rfl (hm.old (i := p + 0) (by omega) (by omega))) rfl (by decide) fun a hk => ?_
  refine r_val hk (e_move rfl) rfl (by decide) fun a hk => ?_
  refine r_val hk (e_move rfl) rfl (by decide) fun a hk => ?_
  refine r_val hk (e_add_eq ((top + 0 : Nat) : Int) rfl rfl (i64_eq (by omega) (by omega) (by omega))) rfl (by decide) fun a hk => ?_
  refine r_val hk (e_idx0 (top + 0) es22 rfl rfl rfl (by omega)) rfl (by decide) fun a hk => ?_
  refine r_val hk (e_load oc5 rfl (hm.old (i := top + 0) (by omega) (by omega))) rfl (by decide) fun a hk => ?_
  refine r_val hk (e_add rfl rfl) rfl (by decide) fun a hk => ?_
  refine r_val hk (e_idx0 (p + 0) es22 rfl rfl rfl (by omega)) rfl (by decide) fun a hk => ?_
  refine u_put hk oc5 rfl rfl hm ho (by omega) rfl fun w a hk hm ho => ?_
  refine u_nil ?_
  refine k_seq ?_
  refine rgt 12 (by kernel_rfl) (by kernel_rfl) (by kernel_rfl) ?_
  replace hm := hm.drew
  replace ho := ho.drew
  refine r_val hk (e_move rfl) rfl (by decide) fun a hk => ?_
  refine r_val hk (e_move rfl) rfl (by decide) fun a hk => ?_
  refine r_val hk (e_add_eq ((p + 1 : Nat) : Int) rfl rfl (i32_eq (by omega) (by omega) (by omega))) rfl (by decide) fun a hk => ?_
  refine r_val hk (e_idx0 (p + 1) es22 rfl rfl rfl (by omega)) rfl (by decide) fun a hk => ?_
  refine r_val hk (e_load oc5 rfl (hm.old (i := p + 1) (by omega) (by omega))) rfl (by decide) fun a hk => ?_
  refine r_val hk (e_move rfl) rfl (by decide) fun a hk => ?_
  refine r_val hk (e_move rfl) rfl (by decide) fun a hk => ?_
  refine r_val hk (e_add_eq ((top + 1 : Nat) : Int) rfl rfl (i64_eq (by omega) (by omega) (by omega))) rfl (by decide) fun a hk => ?_
  refine r_val hk (e_idx0 (top + 1) es22 rfl rfl rfl (by omega)) rfl (by decide) fun a hk => ?_
  refine r_val hk (e_load oc5 rfl (hm.old (i := top + 1) (by omega) (by omega))) rfl (by decide) fun a hk => ?_
  refine r_val hk (e_add rfl rfl) rfl (by decide) fun a hk => ?_
  refine r_val hk (e_idx0 (p + 1) es22 rfl rfl rfl (by omega)) rfl (by decide) fun a hk => ?_
  refine u_put hk oc5 rfl rfl hm ho (by omega) rfl fun w a hk hm ho => ?_
  refine u_nil ?_
  refine k_seq ?_
  refine rgt 12 (by kernel_rfl) (by kernel_rfl) (by kernel_rfl) ?_
  replace hm := hm.drew
  replace ho := ho.drew
  refine r_val hk (e_move rfl) rfl (by decide) fun a hk => ?_
  refine r_val hk (e_move rfl) rfl (by decide) fun a hk => ?_
  refine r_val hk (e_add_eq ((p + 2 : Nat) : Int) rfl rfl (i32_eq (by omega) (by omega) (by omega))) rfl (by decide) fun a hk => ?_
  refine r_val hk (e_idx0 (p + 2) es22 rfl rfl rfl (by omega)) rfl (by decide) fun a hk => ?_
  refine r_val hk (e_load oc5 rfl (hm.old (i := p + 2) (by omega) (by omega))) rfl (by decide) fun a hk => ?_
  refine r_val hk (e_move rfl) rfl (by decide) fun a hk => ?_
  refine r_val hk (e_move rfl) rfl (by decide) fun a hk => ?_
  refine r_val hk (e_add_eq ((top + 2 : Nat) : Int) rfl rfl (i64_eq (by omega) (by omega) (by omega))) rfl (by decide) fun a hk => ?_
  refine r_val hk (e_idx0 (top + 2) es22 rfl rfl rfl (by omega)) rfl (by decide) fun a hk => ?_
  refine r_val hk (e_load oc5 rfl (hm.old (i := top + 2) (by omega) (by omega))) rfl (by decide) fun a hk => ?_
  refine r_val hk (e_add rfl rfl) rfl (by decide) fun a hk => ?_
  refine r_val hk (e_idx0 (p + 2) es22 rfl rfl rfl (by omega)) rfl (by decide) fun a hk => ?_
  refine u_put hk oc5 rfl rfl hm ho (by omega) rfl fun w a hk hm ho => ?_
  refine u_nil ?_
  refine rgt 12 (by kernel_rfl) (by kernel_rfl) (by kernel_rfl) ?_
  replace hm := hm.drew
  replace ho := ho.drew
  refine r_val hk (e_move rfl) rfl (by decide) fun a hk => ?_
  refine r_val hk (e_move rfl) rfl (by decide) fun a hk => ?_
  refine r_val hk (e_add_eq ((p + 3 : Nat) : Int) rfl rfl (i32_eq (by omega) (by omega) (by omega))) rfl (by decide) fun a hk => ?_
  refine r_val hk (e_idx0 (p + 3) es22 rfl rfl rfl (by omega)) rfl (by decide) fun a hk => ?_
  refine r_val hk (e_load oc5 rfl (hm.old (i := p + 3) (by omega) (by omega))) rfl (by decide) fun a hk => ?_
  refine r_val hk (e_move rfl) rfl (by decide) fun a hk => ?_
  refine r_val hk (e_move rfl) rfl (by decide) fun a hk => ?_
  refine r_val hk (e_add_eq ((top + 3 : Nat) : Int) rfl rfl (i64_eq (by omega) (by omega) (by omega))) rfl (by decide) fun a hk => ?_
  refine r_val hk (e_idx0 (top + 3) es22 rfl rfl rfl (by omega)) rfl (by decide) fun a hk => ?_
  refine r_val hk (e_load oc5 rfl (hm.old (i := top + 3) (by omega) (by omega))) rfl (by decide) fun a hk => ?_
  refine r_val hk (e_add rfl rfl) rfl (by decide) fun a hk => ?_
  refine r_val hk (e_idx0 (p + 3) es22 rfl rfl rfl (by omega)) rfl (by decide) fun a hk => ?_
  refine u_put hk oc5 rfl rfl hm ho (by omega) rfl fun w a hk hm ho => ?_
  refine u_nil ?_
  exact hQ _ _ (hk.sub (Sub.cons rfl (Sub.cons rfl (Sub.cons rfl (Sub.cons rfl (Sub.cons rfl (Sub.cons rfl (Sub.cons rfl (Sub.cons rfl (Sub.cons rfl (Sub.cons rfl (Sub.cons rfl (Sub.nil _))))))))))))) hm.mem ho

set_option maxRecDepth 100000 in
theorem sw_3 {Q : Exit → Act → World → Prop} {a : Act} {w w0 : World} {v0 v2 v8 v11 v12 v13 v15 : Value} {pb len cap p top : Nat} {px : Nat → Int}
    (hk : Kn 1328 (L v0 (.slice (some ⟨pb, 0, none⟩) len cap) v2 (.int .i32 (p : Int)) v8 (.int .i64 (top : Int)) v11 v12 v13 (.int .u8 (3 : Int)) v15) a)
    (hm : Mem w pb len px) (ho : Only pb w0 w) (hr : ∀ i, isByte (px i)) (h4 : 4 ≤ p) (ht : 4 ≤ top) (htp : top + 8 ≤ p) (hl : p + 4 ≤ len) (hlen : len ≤ 1073741824)
    (hQ : ∀ a' w', Kn 1328 (L v0 (.slice (some ⟨pb, 0, none⟩) len cap) v2 (.int .i32 (p : Int)) v8 (.int .i64 (top : Int)) v11 v12 v13 (.int .u8 (3 : Int)) v15) a' → Mem w' pb len (step px p (predV 3 px p top)) → Only pb w0 w' → Q .normal a' w') :
    swCode.wp Try.prog Q a w := by
  unfold swCode ipBody
  conv => arg 2; whnf
  refine k_seq ?_
  refine rg (by kernel_rfl) ?_
  refine u_val hk (e_move rfl) rfl (by decide) fun a hk => ?_
  refine u_nil ?_
  refine wp_block ?_
  refine k_seq ?_
  refine rg (by kernel_rfl) ?_
  refine u_val hk (e_eqlF rfl rfl (by decide)) rfl (by decide) fun a hk => ?_
  refine u_val hk (e_assign rfl) rfl (by decide) fun a hk => ?_
  refine u_nil ?_
  refine k_false hk rfl ?_
  refine k_seq ?_
  refine rg (by kernel_rfl) ?_
  refine u_val hk (e_eqlF rfl rfl (by decide)) rfl (by decide) fun a hk => ?_
  refine u_val hk (e_assign rfl) rfl (by decide) fun a hk => ?_
  refine u_nil ?_
  refine k_false hk rfl ?_
  refine k_seq ?_
  refine rg (by kernel_rfl) ?_
  refine u_val hk (e_eqlF rfl rfl (by decide)) rfl (by decide) fun a hk => ?_
  refine u_val hk (e_assign rfl) rfl (by decide) fun a hk => ?_
  refine u_nil ?_
  refine k_false hk rfl ?_
  refine k_seq ?_
  refine rg (by kernel_rfl) ?_
  refine u_val hk (e_eqlT rfl rfl (by decide)) rfl (by decide) fun a hk => ?_
  refine u_val hk (e_assign rfl) rfl (by decide) fun a hk => ?_
  refine u_nil ?_
  refine k_true hk rfl ?_
  replace hm := hm.pm p (fun j => IntKind.u8.wrap (px (p + j) + predV 3 px p top j))
  refine k_seq ?_
  refine rgt 12 (by kernel_rfl) (by kernel_rfl) (by kernel_rfl) ?_
  replace hm := hm.drew
  replace ho := ho.drew
  refine r_val hk (e_move rfl) rfl (by decide) fun a hk => ?_
  refine r_val hk (e_move rfl) rfl (by decide) fun a hk => ?_
  refine r_val hk (e_add_eq ((p + 0 : Nat) : Int) rfl rfl (i32_eq (by omega) (by omega) (by omega))) rfl (by decide) fun a hk => ?_
  refine r_val hk (e_idx0 (p + 0) es22 rfl rfl rfl (by omega)) rfl (by decide) fun a hk => ?_
  refine r_val hk (e_load oc5 rfl (hm.old (i := p + 0) (by omega) (by omega))) rfl (by decide) fun a hk => ?_
  refine r_val hk (e_move rfl) rfl (by decide) fun a hk => ?_
  refine r_val hk (e_move rfl) rfl (by decide) fun a hk => ?_
  refine r_val hk (e_add_eq ((top + 4 : Nat) : Int) rfl rfl (i64_eq (by omega) (by omega) (by omega))) rfl (by decide) fun a hk => ?_
  refine r_val hk (e_idx0 (top + 4) es22 rfl rfl rfl (by omega)) rfl (by decide) fun a hk => ?_
  refine r_val hk (e_load oc5 rfl (hm.old (i := top + 4) (by omega) (by omega))) rfl (by decide) fun a hk => ?_
  refine r_val hk (e_add rfl rfl) rfl (by decide) fun a hk => ?_
  refine r_val hk (e_idx0 (p + 0) es22 rfl rfl rfl (by omega)) rfl (by decide) fun a hk => ?_
  refine u_put hk oc5 rfl rfl hm ho (by omega) rfl fun w a hk hm ho => ?_
  refine u_nil ?_
  refine k_seq ?_
  refine rgt 12 (by kernel_rfl) (by kernel_rfl) (by kernel_rfl) ?_
  replace hm := hm.drew
  replace ho := ho.drew
  refine r_val hk (e_move rfl) rfl (by decide) fun a hk => ?_
  refine r_val hk (e_move rfl) rfl (by decide) fun a hk => ?_
  refine r_val hk (e_add_eq ((p + 1 : Nat) : Int) rfl rfl (i32_eq (by omega) (by omega) (by omega))) rfl (by decide) fun a hk => ?_
  refine r_val hk (e_idx0 (p + 1) es22 rfl rfl rfl (by omega)) rfl (by decide) fun a hk => ?_
  refine r_val hk (e_load oc5 rfl (hm.old (i := p + 1) (by omega) (by omega))) rfl (by decide) fun a hk => ?_
  refine r_val hk (e_move rfl) rfl (by decide) fun a hk => ?_
  refine r_val hk (e_move rfl) rfl (by decide) fun a hk => ?_
  refine r_val hk (e_add_eq ((top + 5 : Nat) : Int) rfl rfl (i64_eq (by omega) (by omega) (by omega))) rfl (by decide) fun a hk => ?_
  refine r_val hk (e_idx0 (top + 5) es22 rfl rfl rfl (by omega)) rfl (by decide) fun a hk => ?_
  refine r_val hk (e_load oc5 rfl (hm.old (i := top + 5) (by omega) (by omega))) rfl (by decide) fun a hk => ?_
  refine r_val hk (e_add rfl rfl) rfl (by decide) fun a hk => ?_
  refine r_val hk (e_idx0 (p + 1) es22 rfl rfl rfl (by omega)) rfl (by decide) fun a hk => ?_
  refine u_put hk oc5 rfl rfl hm ho (by omega) rfl fun w a hk hm ho => ?_
  refine u_nil ?_
  refine k_seq ?_
  refine rgt 12 (by kernel_rfl) (by kernel_rfl) (by kernel_rfl) ?_
  replace hm := hm.drew
  replace ho := ho.drew
  refine r_val hk (e_move rfl) rfl (by decide) fun a hk => ?_
  refine r_val hk (e_move rfl) rfl (by decide) fun a hk => ?_
  refine r_val hk (e_add_eq ((p + 2 : Nat) : Int) rfl rfl (i32_eq (by omega) (by omega) (by omega))) rfl (by decide) fun a hk => ?_
  refine r_val hk (e_idx0 (p + 2) es22 rfl rfl rfl (by omega)) rfl (by decide) fun a hk => ?_
  refine r_val hk (e_load oc5 rfl (hm.old (i := p + 2) (by omega) (by omega))) rfl (by decide) fun a hk => ?_
  refine r_val hk (e_move rfl) rfl (by decide) fun a hk => ?_
  refine r_val hk (e_move rfl) rfl (by decide) fun a hk => ?_
  refine r_val hk (e_add_eq ((top + 6 : Nat) : Int) rfl rfl (i64_eq (by omega) (by omega) (by omega))) rfl (by decide) fun a hk => ?_
  refine r_val hk (e_idx0 (top + 6) es22 rfl rfl rfl (by omega)) rfl (by decide) fun a hk => ?_
  refine r_val hk (e_load oc5 rfl (hm.old (i := top + 6) (by omega) (by omega))) rfl (by decide) fun a hk => ?_
  refine r_val hk (e_add rfl rfl) rfl (by decide) fun a hk => ?_
  refine r_val hk (e_idx0 (p + 2) es22 rfl rfl rfl (by omega)) rfl (by decide) fun a hk => ?_
  refine u_put hk oc5 rfl rfl hm ho (by omega) rfl fun w a hk hm ho => ?_
  refine u_nil ?_
  refine rgt 12 (by kernel_rfl) (by kernel_rfl) (by kernel_rfl) ?_
  replace hm := hm.drew
  replace ho := ho.drew
  refine r_val hk (e_move rfl) rfl (by decide) fun a hk => ?_
  refine r_val hk (e_move rfl) rfl (by decide) fun a hk => ?_
  refine r_val hk (e_add_eq ((p + 3 : Nat) : Int) rfl rfl (i32_eq (by omega) (by omega) (by omega))) rfl (by decide) fun a hk => ?_
  refine r_val hk (e_idx0 (p + 3) es22 rfl rfl rfl (by omega)) rfl (by decide) fun a hk => ?_
  refine r_val hk (e_load oc5 rfl (hm.old (i := p + 3) (by omega) (by omega))) rfl (by decide) fun a hk => ?_
  refine r_val hk (e_move rfl) rfl (by decide) fun a hk => ?_
  refine r_val hk (e_move rfl) rfl (by decide) fun a hk => ?_
  refine r_val hk (e_add_eq ((top + 7 : Nat) : Int) rfl rfl (i64_eq (by omega) (by omega) (by omega))) rfl (by decide) fun a hk => ?_
  refine r_val hk (e_idx0 (top + 7) es22 rfl rfl rfl (by omega)) rfl (by decide) fun a hk => ?_
  refine r_val hk (e_load oc5 rfl (hm.old (i := top + 7) (by omega) (by omega))) rfl (by decide) fun a hk => ?_
  refine r_val hk (e_add rfl rfl) rfl (by decide) fun a hk => ?_
  refine r_val hk (e_idx0 (p + 3) es22 rfl rfl rfl (by omega)) rfl (by decide) fun a hk => ?_
  refine u_put hk oc5 rfl rfl hm ho (by omega) rfl fun w a hk hm ho => ?_
  refine u_nil ?_
  exact hQ _ _ (hk.sub (Sub.cons rfl (Sub.cons rfl (Sub.cons rfl (Sub.cons rfl (Sub.cons rfl (Sub.cons rfl (Sub.cons rfl (Sub.cons rfl (Sub.cons rfl (Sub.cons rfl (Sub.cons rfl (Sub.nil _))))))))))))) hm.mem ho

set_option maxRecDepth 100000 in
theorem sw_4 {Q : Exit → Act → World → Prop} {a : Act} {w w0 : World} {v0 v2 v8 v11 v12 v13 v15 : Value} {pb len cap p top : Nat} {px : Nat → Int}
    (hk : Kn 1328 (L v0 (.slice (some ⟨pb, 0, none⟩) len cap) v2 (.int .i32 (p : Int)) v8 (.int .i64 (top : Int)) v11 v12 v13 (.int .u8 (4 : Int)) v15) a)
    (hm : Mem w pb len px) (ho : Only pb w0 w) (hr : ∀ i, isByte (px i)) (h4 : 4 ≤ p) (ht : 4 ≤ top) (htp : top + 8 ≤ p) (hl : p + 4 ≤ len) (hlen : len ≤ 1073741824)
    (hQ : ∀ a' w', Kn 1328 (L v0 (.slice (some ⟨pb, 0, none⟩) len cap) v2 (.int .i32 (p : Int)) v8 (.int .i64 (top : Int)) v11 v12 v13 (.int .u8 (4 : Int)) v15) a' → Mem w' pb len (step px p (predV 4 px p top)) → Only pb w0 w' → Q .normal a' w') :
    swCode.wp Try.prog Q a w := by
  unfold swCode ipBody
  conv => arg 2; whnf
  refine k_seq ?_
  refine rg (by kernel_rfl) ?_
  refine u_val hk (e_move rfl) rfl (by decide) fun a hk => ?_
  refine u_nil ?_
  refine wp_block ?_
  refine k_seq ?_
  refine rg (by kernel_rfl) ?_
  refine u_val hk (e_eqlF rfl rfl (by decide)) rfl (by decide) fun a hk => ?_
  refine u_val hk (e_assign rfl) rfl (by decide) fun a hk => ?_
  refine u_nil ?_
  refine k_false hk rfl ?_
  refine k_seq ?_
  refine rg (by kernel_rfl) ?_
  refine u_val hk (e_eqlF rfl rfl (by decide)) rfl (by decide) fun a hk => ?_
  refine u_val hk (e_assign rfl) rfl (by decide) fun a hk => ?_
  refine u_nil ?_
  refine k_false hk rfl ?_
  refine k_seq ?_
  refine rg (by kernel_rfl) ?_
  refine u_val hk (e_eqlF rfl rfl (by decide)) rfl (by decide) fun a hk => ?_
  refine u_val hk (e_assign rfl) rfl (by decide) fun a hk => ?_
  refine u_nil ?_
  refine k_false hk rfl ?_
  refine k_seq ?_
  refine rg (by kernel_rfl) ?_
  refine u_val hk (e_eqlF rfl rfl (by decide)) rfl (by decide) fun a hk => ?_
  refine u_val hk (e_assign rfl) rfl (by decide) fun a hk => ?_
  refine u_nil ?_
  refine k_false hk rfl ?_
  refine k_seq ?_
  refine rg (by kernel_rfl) ?_
  refine u_val hk (e_eqlT rfl rfl (by decide)) rfl (by decide) fun a hk => ?_
  refine u_val hk (e_assign rfl) rfl (by decide) fun a hk => ?_
  refine u_nil ?_
  refine k_true hk rfl ?_
  replace hm := hm.pm p (fun j => IntKind.u8.wrap (px (p + j) + predV 4 px p top j))
  refine k_seq ?_
  refine rgt 12 (by kernel_rfl) (by kernel_rfl) (by kernel_rfl) ?_
  replace hm := hm.drew
  replace ho := ho.drew
  refine r_val hk (e_move rfl) rfl (by decide) fun a hk => ?_
  refine r_val hk (e_move rfl) rfl (by decide) fun a hk => ?_
  refine r_val hk (e_add_eq ((p + 0 : Nat) : Int) rfl rfl (i32_eq (by omega) (by omega) (by omega))) rfl (by decide) fun a hk => ?_
  refine r_val hk (e_idx0 (p + 0) es22 rfl rfl rfl (by omega)) rfl (by decide) fun a hk => ?_
  refine r_val hk (e_load oc5 rfl (hm.old (i := p + 0) (by omega) (by omega))) rfl (by decide) fun a hk => ?_
  refine r_val hk (e_move rfl) rfl (by decide) fun a hk => ?_
  refine r_val hk (e_move rfl) rfl (by decide) fun a hk => ?_
  refine r_val hk (e_sub_eq ((top - 4 : Nat) : Int) rfl rfl (i64_eq (by omega) (by omega) (by omega))) rfl (by decide) fun a hk => ?_
  refine r_val hk (e_idx0 (top - 4) es22 rfl rfl rfl (by omega)) rfl (by decide) fun a hk => ?_
  refine r_val hk (e_load oc5 rfl (hm.old (i := top - 4) (by omega) (by omega))) rfl (by decide) fun a hk => ?_
  refine r_val hk (e_add rfl rfl) rfl (by decide) fun a hk => ?_
  refine r_val hk (e_idx0 (p + 0) es22 rfl rfl rfl (by omega)) rfl (by decide) fun a hk => ?_
  refine u_put hk oc5 rfl rfl hm ho (by omega) rfl fun w a hk hm ho => ?_
  refine u_nil ?_
  refine k_seq ?_
  refine rgt 12 (by kernel_rfl) (by kernel_rfl) (by kernel_rfl) ?_
  replace hm := hm.drew
  replace ho := ho.drew
  refine r_val hk (e_move rfl) rfl (by decide) fun a hk => ?_
  refine r_val hk (e_move rfl) rfl (by decide) fun a hk => ?_
  refine r_val hk (e_add_eq ((p + 1 : Nat) : Int) rfl rfl (i32_eq (by omega) (by omega) (by omega))) rfl (by decide) fun a hk => ?_
  refine r_val hk (e_idx0 (p + 1) es22 rfl rfl rfl (by omega)) rfl (by decide) fun a hk => ?_
  refine r_val hk (e_load oc5 rfl (hm.old (i := p + 1) (by omega) (by omega))) rfl (by decide) fun a hk => ?_
  refine r_val hk (e_move rfl) rfl (by decide) fun a hk => ?_
  refine r_val hk (e_move rfl) rfl (by decide) fun a hk => ?_
  refine r_val hk (e_sub_eq ((top - 3 : Nat) : Int) rfl rfl (i64_eq (by omega) (by omega) (by omega))) rfl (by decide) fun a hk => ?_
  refine r_val hk (e_idx0 (top - 3) es22 rfl rfl rfl (by omega)) rfl (by decide) fun a hk => ?_
  refine r_val hk (e_load oc5 rfl (hm.old (i := top - 3) (by omega) (by omega))) rfl (by decide) fun a hk => ?_
  refine r_val hk (e_add rfl rfl) rfl (by decide) fun a hk => ?_
  refine r_val hk (e_idx0 (p + 1) es22 rfl rfl rfl (by omega)) rfl (by decide) fun a hk => ?_
  refine u_put hk oc5 rfl rfl hm ho (by omega) rfl fun w a hk hm ho => ?_
  refine u_nil ?_
  refine k_seq ?_
  refine rgt 12 (by kernel_rfl) (by kernel_rfl) (by kernel_rfl) ?_
  replace hm := hm.drew
  replace ho := ho.drew
  refine r_val hk (e_move rfl) rfl (by decide) fun a hk => ?_
  refine r_val hk (e_move rfl) rfl (by decide) fun a hk => ?_
  refine r_val hk (e_add_eq ((p + 2 : Nat) : Int) rfl rfl (i32_eq (by omega) (by omega) (by omega))) rfl (by decide) fun a hk => ?_
  refine r_val hk (e_idx0 (p + 2) es22 rfl rfl rfl (by omega)) rfl (by decide) fun a hk => ?_
  refine r_val hk (e_load oc5 rfl (hm.old (i := p + 2) (by omega) (by omega))) rfl (by decide) fun a hk => ?_
  refine r_val hk (e_move rfl) rfl (by decide) fun a hk => ?_
  refine r_val hk (e_move rfl) rfl (by decide) fun a hk => ?_
  refine r_val hk (e_sub_eq ((top - 2 : Nat) : Int) rfl rfl (i64_eq (by omega) (by omega) (by omega))) rfl (by decide) fun a hk => ?_
  refine r_val hk (e_idx0 (top - 2) es22 rfl rfl rfl (by omega)) rfl (by decide) fun a hk => ?_
  refine r_val hk (e_load oc5 rfl (hm.old (i := top - 2) (by omega) (by omega))) rfl (by decide) fun a hk => ?_
  refine r_val hk (e_add rfl rfl) rfl (by decide) fun a hk => ?_
  refine r_val hk (e_idx0 (p + 2) es22 rfl rfl rfl (by omega)) rfl (by decide) fun a hk => ?_
  refine u_put hk oc5 rfl rfl hm ho (by omega) rfl fun w a hk hm ho => ?_
  refine u_nil ?_
  refine rgt 12 (by kernel_rfl) (by kernel_rfl) (by kernel_rfl) ?_
  replace hm := hm.drew
  replace ho := ho.drew
  refine r_val hk (e_move rfl) rfl (by decide) fun a hk => ?_
  refine r_val hk (e_move rfl) rfl (by decide) fun a hk => ?_
  refine r_val hk (e_add_eq ((p + 3 : Nat) : Int) rfl rfl (i32_eq (by omega) (by omega) (by omega))) rfl (by decide) fun a hk => ?_
  refine r_val hk (e_idx0 (p + 3) es22 rfl rfl rfl (by omega)) rfl (by decide) fun a hk => ?_
  refine r_val hk (e_load oc5 rfl (hm.old (i := p + 3) (by omega) (by omega))) rfl (by decide) fun a hk => ?_
  refine r_val hk (e_move rfl) rfl (by decide) fun a hk => ?_
  refine r_val hk (e_move rfl) rfl (by decide) fun a hk => ?_
  refine r_val hk (e_sub_eq ((top - 1 : Nat) : Int) rfl rfl (i64_eq (by omega) (by omega) (by omega))) rfl (by decide) fun a hk => ?_
  refine r_val hk (e_idx0 (top - 1) es22 rfl rfl rfl (by omega)) rfl (by decide) fun a hk => ?_
  refine r_val hk (e_load oc5 rfl (hm.old (i := top - 1) (by omega) (by omega))) rfl (by decide) fun a hk => ?_
  refine r_val hk (e_add rfl rfl) rfl (by decide) fun a hk => ?_
  refine r_val hk (e_idx0 (p + 3) es22 rfl rfl rfl (by omega)) rfl (by decide) fun a hk => ?_
  refine u_put hk oc5 rfl rfl hm ho (by omega) rfl fun w a hk hm ho => ?_
  refine u_nil ?_
  exact hQ _ _ (hk.sub (Sub.cons rfl (Sub.cons rfl (Sub.cons rfl (Sub.cons rfl (Sub.cons rfl (Sub.cons rfl (Sub.cons rfl (Sub.cons rfl (Sub.cons rfl (Sub.cons rfl (Sub.cons rfl (Sub.nil _))))))))))))) hm.mem ho

set_option maxRecDepth 100000 in
theorem sw_5 {Q : Exit → Act → World → Prop} {a : Act} {w w0 : World} {v0 v2 v8 v11 v12 v13 v15 : Value} {pb len cap p top : Nat} {px : Nat → Int}
    (hk : Kn 1328 (L v0 (.slice (some ⟨pb, 0, none⟩) len cap) v2 (.int .i32 (p : Int)) v8 (.int .i64 (top : Int)) v11 v12 v13 (.int .u8 (5 : Int)) v15) a)
    (hm : Mem w pb len px) (ho : Only pb w0 w) (hr : ∀ i, isByte (px i)) (h4 : 4 ≤ p) (ht : 4 ≤ top) (htp : top + 8 ≤ p) (hl : p + 4 ≤ len) (hlen : len ≤ 1073741824)
    (hQ : ∀ a' w', Kn 1328 (L v0 (.slice (some ⟨pb, 0, none⟩) len cap) v2 (.int .i32 (p : Int)) v8 (.int .i64 (top : Int)) v11 v12 v13 (.int .u8 (5 : Int)) v15) a' → Mem w' pb len (step px p (predV 5 px p top)) → Only pb w0 w' → Q .normal a' w') :
    swCode.wp Try.prog Q a w := by
  unfold swCode ipBody
  conv => arg 2; whnf
  refine k_seq ?_
  refine rg (by kernel_rfl) ?_
  refine u_val hk (e_move rfl) rfl (by decide) fun a hk => ?_
  refine u_nil ?_
  refine wp_block ?_
  refine k_seq ?_
  refine rg (by kernel_rfl) ?_
  refine u_val hk (e_eqlF rfl rfl (by decide)) rfl (by decide) fun a hk => ?_
  refine u_val hk (e_assign rfl) rfl (by decide) fun a hk => ?_
  refine u_nil ?_
  refine k_false hk rfl ?_
  refine k_seq ?_
  refine rg (by kernel_rfl) ?_
  refine u_val hk (e_eqlF rfl rfl (by decide)) rfl (by decide) fun a hk => ?_
  refine u_val hk (e_assign rfl) rfl (by decide) fun a hk => ?_
  refine u_nil ?_
  refine k_false hk rfl ?_
  refine k_seq ?_
  refine rg (by kernel_rfl) ?_
  refine u_val hk (e_eqlF rfl rfl (by decide)) rfl (by decide) fun a hk => ?_
  refine u_val hk (e_assign rfl) rfl (by decide) fun a hk => ?_
  refine u_nil ?_
  refine k_false hk rfl ?_
  refine k_seq ?_
  refine rg (by kernel_rfl) ?_
  refine u_val hk (e_eqlF rfl rfl (by decide)) rfl (by decide) fun a hk => ?_
  refine u_val hk (e_assign rfl) rfl (by decide) fun a hk => ?_
  refine u_nil ?_
  refine k_false hk rfl ?_
  refine k_seq ?_
  refine rg (by kernel_rfl) ?_
  refine u_val hk (e_eqlF rfl rfl (by decide)) rfl (by decide) fun a hk => ?_
  refine u_val hk (e_assign rfl) rfl (by decide) fun a hk => ?_
  refine u_nil ?_
  refine k_false hk rfl ?_
  refine k_seq ?_
  refine rg (by kernel_rfl) ?_
  refine u_val hk (e_eqlT rfl rfl (by decide)) rfl (by decide) fun a hk => ?_
  refine u_val hk (e_assign rfl) rfl (by decide) fun a hk => ?_
  refine u_nil ?_
  refine k_true hk rfl ?_
  replace hm := hm.pm p (fun j => IntKind.u8.wrap (px (p + j) + predV 5 px p top j))
  refine k_seq ?_
  refine rgt 24 (by kernel_rfl) (by kernel_rfl) (by kernel_rfl) ?_
  replace hm := hm.drew
  replace ho := ho.drew
  refine r_val hk (e_move rfl) rfl (by decide) fun a hk => ?_
  refine r_val hk (e_move rfl) rfl (by decide) fun a hk => ?_
  refine r_val hk (e_add_eq ((p + 0 : Nat) : Int) rfl rfl (i32_eq (by omega) (by omega) (by omega))) rfl (by decide) fun a hk => ?_
  refine r_val hk (e_idx0 (p + 0) es22 rfl rfl rfl (by omega)) rfl (by decide) fun a hk => ?_
  refine r_val hk (e_load oc5 rfl (hm.old (i := p + 0) (by omega) (by omega))) rfl (by decide) fun a hk => ?_
  refine r_val hk (e_move rfl) rfl (by decide) fun a hk => ?_
  refine r_val hk (e_move rfl) rfl (by decide) fun a hk => ?_
  refine r_val hk (e_sub_eq ((p - 4 : Nat) : Int) rfl rfl (i32_eq (by omega) (by omega) (by omega))) rfl (by decide) fun a hk => ?_
  refine r_val hk (e_idx0 (p - 4) es22 rfl rfl rfl (by omega)) rfl (by decide) fun a hk => ?_
  refine r_val hk (e_load oc5 rfl (hm.old (i := p - 4) (by omega) (by omega))) rfl (by decide) fun a hk => ?_
  refine r_val hk (e_move rfl) rfl (by decide) fun a hk => ?_
  refine r_val hk (e_move rfl) rfl (by decide) fun a hk => ?_
  refine r_val hk (e_add_eq ((top + 4 : Nat) : Int) rfl rfl (i64_eq (by omega) (by omega) (by omega))) rfl (by decide) fun a hk => ?_
  refine r_val hk (e_idx0 (top + 4) es22 rfl rfl rfl (by omega)) rfl (by decide) fun a hk => ?_
  refine r_val hk (e_load oc5 rfl (hm.old (i := top + 4) (by omega) (by omega))) rfl (by decide) fun a hk => ?_
  refine r_call hk (c_func pf_avg2 rfl) (avg_any _ _ (hr _) (hr _) _) rfl (by decide) fun a hk => ?_
  refine r_val hk (e_move rfl) rfl (by decide) fun a hk => ?_
  refine r_val hk (e_move rfl) rfl (by decide) fun a hk => ?_
  refine r_val hk (e_add_eq ((top + 0 : Nat) : Int) rfl rfl (i64_eq (by omega) (by omega) (by omega))) rfl (by decide) fun a hk => ?_
  refine r_val hk (e_idx0 (top + 0) es22 rfl rfl rfl (by omega)) rfl (by decide) fun a hk => ?_
  refine r_val hk (e_load oc5 rfl (hm.old (i := top + 0) (by omega) (by omega))) rfl (by decide) fun a hk => ?_
  refine r_call hk (c_func pf_avg2 rfl) (avg_any _ _ (avg_byte (hr _) (hr _)) (hr _) _) rfl (by decide) fun a hk => ?_
  refine r_val hk (e_add rfl rfl) rfl (by decide) fun a hk => ?_
  refine r_val hk (e_idx0 (p + 0) es22 rfl rfl rfl (by omega)) rfl (by decide) fun a hk => ?_
  refine u_put hk oc5 rfl rfl hm ho (by omega) rfl fun w a hk hm ho => ?_
  refine u_nil ?_
  refine k_seq ?_
  refine rgt 24 (by kernel_rfl) (by kernel_rfl) (by kernel_rfl) ?_
  replace hm := hm.drew
  replace ho := ho.drew
  refine r_val hk (e_move rfl) rfl (by decide) fun a hk => ?_
  refine r_val hk (e_move rfl) rfl (by decide) fun a hk => ?_
  refine r_val hk (e_add_eq ((p + 1 : Nat) : Int) rfl rfl (i32_eq (by omega) (by omega) (by omega))) rfl (by decide) fun a hk => ?_
  refine r_val hk (e_idx0 (p + 1) es22 rfl rfl rfl (by omega)) rfl (by decide) fun a hk => ?_
  refine r_val hk (e_load oc5 rfl (hm.old (i := p + 1) (by omega) (by omega))) rfl (by decide) fun a hk => ?_
  refine r_val hk (e_move rfl) rfl (by decide) fun a hk => ?_
  refine r_val hk (e_move rfl) rfl (by decide) fun a hk => ?_
  refine r_val hk (e_sub_eq ((p - 3 : Nat) : Int) rfl rfl (i32_eq (by omega) (by omega) (by omega))) rfl (by decide) fun a hk => ?_
  refine r_val hk (e_idx0 (p - 3) es22 rfl rfl rfl (by omega)) rfl (by decide) fun a hk => ?_
  refine r_val hk (e_load oc5 rfl (hm.old (i := p - 3) (by omega) (by omega))) rfl (by decide) fun a hk => ?_
  refine r_val hk (e_move rfl) rfl (by decide) fun a hk => ?_
  refine r_val hk (e_move rfl) rfl (by decide) fun a hk => ?_
  refine r_val hk (e_add_eq ((top + 5 : Nat) : Int) rfl rfl (i64_eq (by omega) (by omega) (by omega))) rfl (by decide) fun a hk => ?_
  refine r_val hk (e_idx0 (top + 5) es22 rfl rfl rfl (by omega)) rfl (by decide) fun a hk => ?_
  refine r_val hk (e_load oc5 rfl (hm.old (i := top + 5) (by omega) (by omega))) rfl (by decide) fun a hk => ?_
  refine r_call hk (c_func pf_avg2 rfl) (avg_any _ _ (hr _) (hr _) _) rfl (by decide) fun a hk => ?_
  refine r_val hk (e_move rfl) rfl (by decide) fun a hk => ?_
  refine r_val hk (e_move rfl) rfl (by decide) fun a hk => ?_
  refine r_val hk (e_add_eq ((top + 1 : Nat) : Int) rfl rfl (i64_eq (by omega) (by omega) (by omega))) rfl (by decide) fun a hk => ?_
  refine r_val hk (e_idx0 (top + 1) es22 rfl rfl rfl (by omega)) rfl (by decide) fun a hk => ?_
  refine r_val hk (e_load oc5 rfl (hm.old (i := top + 1) (by omega) (by omega))) rfl (by decide) fun a hk => ?_
  refine r_call hk (c_func pf_avg2 rfl) (avg_any _ _ (avg_byte (hr _) (hr _)) (hr _) _) rfl (by decide) fun a hk => ?_
  refine r_val hk (e_add rfl rfl) rfl (by decide) fun a hk => ?_
  refine r_val hk (e_idx0 (p + 1) es22 rfl rfl rfl (by omega)) rfl (by decide) fun a hk => ?_
  refine u_put hk oc5 rfl rfl hm ho (by omega) rfl fun w a hk hm ho => ?_
  refine u_nil ?_
  refine k_seq ?_
  refine rgt 24 (by kernel_rfl) (by kernel_rfl) (by kernel_rfl) ?_
  replace hm := hm.drew
  replace ho := ho.drew
  refine r_val hk (e_move rfl) rfl (by decide) fun a hk => ?_
  refine r_val hk (e_move rfl) rfl (by decide) fun a hk => ?_
  refine r_val hk (e_add_eq ((p + 2 : Nat) : Int) rfl rfl (i32_eq (by omega) (by omega) (by omega))) rfl (by decide) fun a hk => ?_
  refine r_val hk (e_idx0 (p + 2) es22 rfl rfl rfl (by omega)) rfl (by decide) fun a hk => ?_
  refine r_val hk (e_load oc5 rfl (hm.old (i := p + 2) (by omega) (by omega))) rfl (by decide) fun a hk => ?_
  refine r_val hk (e_move rfl) rfl (by decide) fun a hk => ?_
  refine r_val hk (e_move rfl) rfl (by decide) fun a hk => ?_
  refine r_val hk (e_sub_eq ((p - 2 : Nat) : Int) rfl rfl (i32_eq (by omega) (by omega) (by omega))) rfl (by decide) fun a hk => ?_
  refine r_val hk (e_idx0 (p - 2) es22 rfl rfl rfl (by omega)) rfl (by decide) fun a hk => ?_
  refine r_val hk (e_load oc5 rfl (hm.old (i := p - 2) (by omega) (by omega))) rfl (by decide) fun a hk => ?_
  refine r_val hk (e_move rfl) rfl (by decide) fun a hk => ?_
  refine r_val hk (e_move rfl) rfl (by decide) fun a hk => ?_
  refine r_val hk (e_add_eq ((top + 6 : Nat) : Int) rfl rfl (i64_eq (by omega) (by omega) (by omega))) rfl (by decide) fun a hk => ?_
  refine r_val hk (e_idx0 (top + 6) es22 rfl rfl rfl (by omega)) rfl (by decide) fun a hk => ?_
  refine r_val hk (e_load oc5 rfl (hm.old (i := top + 6) (by omega) (by omega))) rfl (by decide) fun a hk => ?_
  refine r_call hk (c_func pf_avg2 rfl) (avg_any _ _ (hr _) (hr _) _) rfl (by decide) fun a hk => ?_
  refine r_val hk (e_move rfl) rfl (by decide) fun a hk => ?_
  refine r_val hk (e_move rfl) rfl (by decide) fun a hk => ?_
  refine r_val hk (e_add_eq ((top + 2 : Nat) : Int) rfl rfl (i64_eq (by omega) (by omega) (by omega))) rfl (by decide) fun a hk => ?_
  refine r_val hk (e_idx0 (top + 2) es22 rfl rfl rfl (by omega)) rfl (by decide) fun a hk => ?_
  refine r_val hk (e_load oc5 rfl (hm.old (i := top + 2) (by omega) (by omega))) rfl (by decide) fun a hk => ?_
  refine r_call hk (c_func pf_avg2 rfl) (avg_any _ _ (avg_byte (hr _) (hr _)) (hr _) _) rfl (by decide) fun a hk => ?_
  refine r_val hk (e_add rfl rfl) rfl (by decide) fun a hk => ?_
  refine r_val hk (e_idx0 (p + 2) es22 rfl rfl rfl (by omega)) rfl (by decide) fun a hk => ?_
  refine u_put hk oc5 rfl rfl hm ho (by omega) rfl fun w a hk hm ho => ?_
  refine u_nil ?_
  refine rgt 24 (by kernel_rfl) (by kernel_rfl) (by kernel_rfl) ?_
  replace hm := hm.drew
  replace ho := ho.drew
  refine r_val hk (e_move rfl) rfl (by decide) fun a hk => ?_
  refine r_val hk (e_move rfl) rfl (by decide) fun a hk => ?_
  refine r_val hk (e_add_eq ((p + 3 : Nat) : Int) rfl rfl (i32_eq (by omega) (by omega) (by omega))) rfl (by decide) fun a hk => ?_
  refine r_val hk (e_idx0 (p + 3) es22 rfl rfl rfl (by omega)) rfl (by decide) fun a hk => ?_
  refine r_val hk (e_load oc5 rfl (hm.old (i := p + 3) (by omega) (by omega))) rfl (by decide) fun a hk => ?_
  refine r_val hk (e_move rfl) rfl (by decide) fun a hk => ?_
  refine r_val hk (e_move rfl) rfl (by decide) fun a hk => ?_
  refine r_val hk (e_sub_eq ((p - 1 : Nat) : Int) rfl rfl (i32_eq (by omega) (by omega) (by omega))) rfl (by decide) fun a hk => ?_
  refine r_val hk (e_idx0 (p - 1) es22 rfl rfl rfl (by omega)) rfl (by decide) fun a hk => ?_
  refine r_val hk (e_load oc5 rfl (hm.old (i := p - 1) (by omega) (by omega))) rfl (by decide) fun a hk => ?_
  refine r_val hk (e_move rfl) rfl (by decide) fun a hk => ?_
  refine r_val hk (e_move rfl) rfl (by decide) fun a hk => ?_
  refine r_val hk (e_add_eq ((top + 7 : Nat) : Int) rfl rfl (i64_eq (by omega) (by omega) (by omega))) rfl (by decide) fun a hk => ?_
  refine r_val hk (e_idx0 (top + 7) es22 rfl rfl rfl (by omega)) rfl (by decide) fun a hk => ?_
  refine r_val hk (e_load oc5 rfl (hm.old (i := top + 7) (by omega) (by omega))) rfl (by decide) fun a hk => ?_
  refine r_call hk (c_func pf_avg2 rfl) (avg_any _ _ (hr _) (hr _) _) rfl (by decide) fun a hk => ?_
  refine r_val hk (e_move rfl) rfl (by decide) fun a hk => ?_
  refine r_val hk (e_move rfl) rfl (by decide) fun a hk => ?_
  refine r_val hk (e_add_eq ((top + 3 : Nat) : Int) rfl rfl (i64_eq (by omega) (by omega) (by omega))) rfl (by decide) fun a hk => ?_
  refine r_val hk (e_idx0 (top + 3) es22 rfl rfl rfl (by omega)) rfl (by decide) fun a hk => ?_
  refine r_val hk (e_load oc5 rfl (hm.old (i := top + 3) (by omega) (by omega))) rfl (by decide) fun a hk => ?_
  refine r_call hk (c_func pf_avg2 rfl) (avg_any _ _ (avg_byte (hr _) (hr _)) (hr _) _) rfl (by decide) fun a hk => ?_
  refine r_val hk (e_add rfl rfl) rfl (by decide) fun a hk => ?_
  refine r_val hk (e_idx0 (p + 3) es22 rfl rfl rfl (by omega)) rfl (by decide) fun a hk => ?_
  refine u_put hk oc5 rfl rfl hm ho (by omega) rfl fun w a hk hm ho => ?_
  refine u_nil ?_
  exact hQ _ _ (hk.sub (Sub.cons rfl (Sub.cons rfl (Sub.cons rfl (Sub.cons rfl (Sub.cons rfl (Sub.cons rfl (Sub.cons rfl (Sub.cons rfl (Sub.cons rfl (Sub.cons rfl (Sub.cons rfl (Sub.nil _))))))))))))) hm.mem ho

set_option maxRecDepth 100000 in
theorem sw_6 {Q : Exit → Act → World → Prop} {a : Act} {w w0 : World} {v0 v2 v8 v11 v12 v13 v15 : Value} {pb len cap p top : Nat} {px : Nat → Int}
    (hk : Kn 1328 (L v0 (.slice (some ⟨pb, 0, none⟩) len cap) v2 (.int .i32 (p : Int)) v8 (.int .i64 (top : Int)) v11 v12 v13 (.int .u8 (6 : Int)) v15) a)
    (hm : Mem w pb len px) (ho : Only pb w0 w) (hr : ∀ i, isByte (px i)) (h4 : 4 ≤ p) (ht : 4 ≤ top) (htp : top + 8 ≤ p) (hl : p + 4 ≤ len) (hlen : len ≤ 1073741824)
    (hQ : ∀ a' w', Kn 1328 (L v0 (.slice (some ⟨pb, 0, none⟩) len cap) v2 (.int .i32 (p : Int)) v8 (.int .i64 (top : Int)) v11 v12 v13 (.int .u8 (6 : Int)) v15) a' → Mem w' pb len (step px p (predV 6 px p top)) → Only pb w0 w' → Q .normal a' w') :
    swCode.wp Try.prog Q a w := by
  unfold swCode ipBody
  conv => arg 2; whnf
  refine k_seq ?_
  refine rg (by kernel_rfl) ?_
  refine u_val hk (e_move rfl) rfl (by decide) fun a hk => ?_
  refine u_nil ?_
  refine wp_block ?_
  refine k_seq ?_
  refine rg (by kernel_rfl) ?_
  refine u_val hk (e_eqlF rfl rfl (by decide)) rfl (by decide) fun a hk => ?_
  refine u_val hk (e_assign rfl) rfl (by decide) fun a hk => ?_
  refine u_nil ?_
  refine k_false hk rfl ?_
  refine k_seq ?_
  refine rg (by kernel_rfl) ?_
  refine u_val hk (e_eqlF rfl rfl (by decide)) rfl (by decide) fun a hk => ?_
  refine u_val hk (e_assign rfl) rfl (by decide) fun a hk => ?_
  refine u_nil ?_
  refine k_false hk rfl ?_
  refine k_seq ?_
  refine rg (by kernel_rfl) ?_
  refine u_val hk (e_eqlF rfl rfl (by decide)) rfl (by decide) fun a hk => ?_
  refine u_val hk (e_assign rfl) rfl (by decide) fun a hk => ?_
  refine u_nil ?_
  refine k_false hk rfl ?_
  refine k_seq ?_
  refine rg (by kernel_rfl) ?_
  refine u_val hk (e_eqlF rfl rfl (by decide)) rfl (by decide) fun a hk => ?_
  refine u_val hk (e_assign rfl) rfl (by decide) fun a hk => ?_
  refine u_nil ?_
  refine k_false hk rfl ?_
  refine k_seq ?_
  refine rg (by kernel_rfl) ?_
  refine u_val hk (e_eqlF rfl rfl (by decide)) rfl (by decide) fun a hk => ?_
  refine u_val hk (e_assign rfl) rfl (by decide) fun a hk => ?_
  refine u_nil ?_
  refine k_false hk rfl ?_
  refine k_seq ?_
  refine rg (by kernel_rfl) ?_
  refine u_val hk (e_eqlF rfl rfl (by decide)) rfl (by decide) fun a hk => ?_
  refine u_val hk (e_assign rfl) rfl (by decide) fun a hk => ?_
  refine u_nil ?_
  refine k_false hk rfl ?_
  refine k_seq ?_
  refine rg (by kernel_rfl) ?_
  refine u_val hk (e_eqlT rfl rfl (by decide)) rfl (by decide) fun a hk => ?_
  refine u_val hk (e_assign rfl) rfl (by decide) fun a hk => ?_
  refine u_nil ?_
  refine k_true hk rfl ?_
  replace hm := hm.pm p (fun j => IntKind.u8.wrap (px (p + j) + predV 6 px p top j))
  refine k_seq ?_
  refine rgt 18 (by kernel_rfl) (by kernel_rfl) (by kernel_rfl) ?_
  replace hm := hm.drew
  replace ho := ho.drew
  refine r_val hk (e_move rfl) rfl (by decide) fun a hk => ?_
  refine r_val hk (e_move rfl) rfl (by decide) fun a hk => ?_
  refine r_val hk (e_add_eq ((p + 0 : Nat) : Int) rfl rfl (i32_eq (by omega) (by omega) (by omega))) rfl (by decide) fun a hk => ?_
  refine r_val hk (e_idx0 (p + 0) es22 rfl rfl rfl (by omega)) rfl (by decide) fun a hk => ?_
  refine r_val hk (e_load oc5 rfl (hm.old (i := p + 0) (by omega) (by omega))) rfl (by decide) fun a hk => ?_
  refine r_val hk (e_move rfl) rfl (by decide) fun a hk => ?_
  refine r_val hk (e_move rfl) rfl (by decide) fun a hk => ?_
  refine r_val hk (e_sub_eq ((p - 4 : Nat) : Int) rfl rfl (i32_eq (by omega) (by omega) (by omega))) rfl (by decide) fun a hk => ?_
  refine r_val hk (e_idx0 (p - 4) es22 rfl rfl rfl (by omega)) rfl (by decide) fun a hk => ?_
  refine r_val hk (e_load oc5 rfl (hm.old (i := p - 4) (by omega) (by omega))) rfl (by decide) fun a hk => ?_
  refine r_val hk (e_move rfl) rfl (by decide) fun a hk => ?_
  refine r_val hk (e_move rfl) rfl (by decide) fun a hk => ?_
  refine r_val hk (e_sub_eq ((top - 4 : Nat) : Int) rfl rfl (i64_eq (by omega) (by omega) (by omega))) rfl (by decide) fun a hk => ?_
  refine r_val hk (e_idx0 (top - 4) es22 rfl rfl rfl (by omega)) rfl (by decide) fun a hk => ?_
  refine r_val hk (e_load oc5 rfl (hm.old (i := top - 4) (by omega) (by omega))) rfl (by decide) fun a hk => ?_
  refine r_call hk (c_func pf_avg2 rfl) (avg_any _ _ (hr _) (hr _) _) rfl (by decide) fun a hk => ?_
  refine r_val hk (e_add rfl rfl) rfl (by decide) fun a hk => ?_
  refine r_val hk (e_idx0 (p + 0) es22 rfl rfl rfl (by omega)) rfl (by decide) fun a hk => ?_
  refine u_put hk oc5 rfl rfl hm ho (by omega) rfl fun w a hk hm ho => ?_
  refine u_nil ?_
  refine k_seq ?_
  refine rgt 18 (by kernel_rfl) (by kernel_rfl) (by kernel_rfl) ?_
  replace hm := hm.drew
  replace ho := ho.drew
  refine r_val hk (e_move rfl) rfl (by decide) fun a hk => ?_
  refine r_val hk (e_move rfl) rfl (by decide) fun a hk => ?_
  refine r_val hk (e_add_eq ((p + 1 : Nat) : Int) rfl rfl (i32_eq (by omega) (by omega) (by omega))) rfl (by decide) fun a hk => ?_
  refine r_val hk (e_idx0 (p + 1) es22 rfl rfl rfl (by omega)) rfl (by decide) fun a hk => ?_
  refine r_val hk (e_load oc5 rfl (hm.old (i := p + 1) (by omega) (by omega))) rfl (by decide) fun a hk => ?_
  refine r_val hk (e_move rfl) rfl (by decide) fun a hk => ?_
  refine r_val hk (e_move rfl) rfl (by decide) fun a hk => ?_
  refine r_val hk (e_sub_eq ((p - 3 : Nat) : Int) rfl rfl (i32_eq (by omega) (by omega) (by omega))) rfl (by decide) fun a hk => ?_
  refine r_val hk (e_idx0 (p - 3) es22 rfl rfl rfl (by omega)) rfl (by decide) fun a hk => ?_
  refine r_val hk (e_load oc5 rfl (hm.old (i := p - 3) (by omega) (by omega))) rfl (by decide) fun a hk => ?_
  refine r_val hk (e_move rfl) rfl (by decide) fun a hk => ?_
  refine r_val hk (e_move rfl) rfl (by decide) fun a hk => ?_
  refine r_val hk (e_sub_eq ((top - 3 : Nat) : Int) rfl rfl (i64_eq (by omega) (by omega) (by omega))) rfl (by decide) fun a hk => ?_
  refine r_val hk (e_idx0 (top - 3) es22 rfl rfl rfl (by omega)) rfl (by decide) fun a hk => ?_
  refine r_val hk (e_load oc5 rfl (hm.old (i := top - 3) (by omega) (by omega))) rfl (by decide) fun a hk => ?_
  refine r_call hk (c_func pf_avg2 rfl) (avg_any _ _ (hr _) (hr _) _) rfl (by decide) fun a hk => ?_
  refine r_val hk (e_add rfl rfl) rfl (by decide) fun a hk => ?_
  refine r_val hk (e_idx0 (p + 1) es22 rfl rfl rfl (by omega)) rfl (by decide) fun a hk => ?_
  refine u_put hk oc5 rfl rfl hm ho (by omega) rfl fun w a hk hm ho => ?_
  refine u_nil ?_
  refine k_seq ?_
  refine rgt 18 (by kernel_rfl) (by kernel_rfl) (by kernel_rfl) ?_
  replace hm := hm.drew
  replace ho := ho.drew
  refine r_val hk (e_move rfl) rfl (by decide) fun a hk => ?_
  refine r_val hk (e_move rfl) rfl (by decide) fun a hk => ?_
  refine r_val hk (e_add_eq ((p + 2 : Nat) : Int) rfl rfl (i32_eq (by omega) (by omega) (by omega))) rfl (by decide) fun a hk => ?_
  refine r_val hk (e_idx0 (p + 2) es22 rfl rfl rfl (by omega)) rfl (by decide) fun a hk => ?_
  refine r_val hk (e_load oc5 rfl (hm.old (i := p + 2) (by omega) (by omega))) rfl (by decide) fun a hk => ?_
  refine r_val hk (e_move rfl) rfl (by decide) fun a hk => ?_
  refine r_val hk (e_move rfl) rfl (by decide) fun a hk => ?_
  refine r_val hk (e_sub_eq ((p - 2 : Nat) : Int) rfl rfl (i32_eq (by omega) (by omega) (by omega))) rfl (by decide) fun a hk => ?_
  refine r_val hk (e_idx0 (p - 2) es22 rfl rfl rfl (by omega)) rfl (by decide) fun a hk => ?_
  refine r_val hk (e_load oc5 rfl (hm.old (i := p - 2) (by omega) (by omega))) rfl (by decide) fun a hk => ?_
  refine r_val hk (e_move rfl) rfl (by decide) fun a hk => ?_
  refine r_val hk (e_move rfl) rfl (by decide) fun a hk => ?_
  refine r_val hk (e_sub_eq ((top - 2 : Nat) : Int) rfl rfl (i64_eq (by omega) (by omega) (by omega))) rfl (by decide) fun a hk => ?_
  refine r_val hk (e_idx0 (top - 2) es22 rfl rfl rfl (by omega)) rfl (by decide) fun a hk => ?_
  refine r_val hk (e_load oc5 rfl (hm.old (i := top - 2) (by omega) (by omega))) rfl (by decide) fun a hk => ?_
  refine r_call hk (c_func pf_avg2 rfl) (avg_any _ _ (hr _) (hr _) _) rfl (by decide) fun a hk => ?_
  refine r_val hk (e_add rfl rfl) rfl (by decide) fun a hk => ?_
  refine r_val hk (e_idx0 (p + 2) es22 rfl rfl rfl (by omega)) rfl (by decide) fun a hk => ?_
  refine u_put hk oc5 rfl rfl hm ho (by omega) rfl fun w a hk hm ho => ?_
  refine u_nil ?_
  refine rgt 18 (by kernel_rfl) (by kernel_rfl) (by kernel_rfl) ?_
  replace hm := hm.drew
  replace ho := ho.drew
  refine r_val hk (e_move rfl) rfl (by decide) fun a hk => ?_
  refine r_val hk (e_move rfl) rfl (by decide) fun a hk => ?_
  refine r_val hk (e_add_eq ((p + 3 : Nat) : Int) rfl rfl (i32_eq (by omega) (by omega) (by omega))) rfl (by decide) fun a hk => ?_
  refine r_val hk (e_idx0 (p + 3) es22 rfl rfl rfl (by omega)) rfl (by decide) fun a hk => ?_
  refine r_val hk (e_load oc5 rfl (hm.old (i := p + 3) (by omega) (by omega))) rfl (by decide) fun a hk => ?_
  refine r_val hk (e_move rfl) rfl (by decide) fun a hk => ?_
  refine r_val hk (e_move rfl) rfl (by decide) fun a hk => ?_
  refine r_val hk (e_sub_eq ((p - 1 : Nat) : Int) rfl rfl (i32_eq (by omega) (by omega) (by omega))) rfl (by decide) fun a hk => ?_
  refine r_val hk (e_idx0 (p - 1) es22 rfl rfl rfl (by omega)) rfl (by decide) fun a hk => ?_
  refine r_val hk (e_load oc5 rfl (hm.old (i := p - 1) (by omega) (by omega))) rfl (by decide) fun a hk => ?_
  refine r_val hk (e_move rfl) rfl (by decide) fun a hk => ?_
  refine r_val hk (e_move rfl) rfl (by decide) fun a hk => ?_
  refine r_val hk (e_sub_eq ((top - 1 : Nat) : Int) rfl rfl (i64_eq (by omega) (by omega) (by omega))) rfl (by decide) fun a hk => ?_
  refine r_val hk (e_idx0 (top - 1) es22 rfl rfl rfl (by omega)) rfl (by decide) fun a hk => ?_
  refine r_val hk (e_load oc5 rfl (hm.old (i := top - 1) (by omega) (by omega))) rfl (by decide) fun a hk => ?_
  refine r_call hk (c_func pf_avg2 rfl) (avg_any _ _ (hr _) (hr _) _) rfl (by decide) fun a hk => ?_
  refine r_val hk (e_add rfl rfl) rfl (by decide) fun a hk => ?_
  refine r_val hk (e_idx0 (p + 3) es22 rfl rfl rfl (by omega)) rfl (by decide) fun a hk => ?_
  refine u_put hk oc5 rfl rfl hm ho (by omega) rfl fun w a hk hm ho => ?_
  refine u_nil ?_
  exact hQ _ _ (hk.sub (Sub.cons rfl (Sub.cons rfl (Sub.cons rfl (Sub.cons rfl (Sub.cons rfl (Sub.cons rfl (Sub.cons rfl (Sub.cons rfl (Sub.cons rfl (Sub.cons rfl (Sub.cons rfl (Sub.nil _))))))))))))) hm.mem ho

set_option maxRecDepth 100000 in
theorem sw_7 {Q : Exit → Act → World → Prop} {a : Act} {w w0 : World} {v0 v2 v8 v11 v12 v13 v15 : Value} {pb len cap p top : Nat} {px : Nat → Int}
    (hk : Kn 1328 (L v0 (.slice (some ⟨pb, 0, none⟩) len cap) v2 (.int .i32 (p : Int)) v8 (.int .i64 (top : Int)) v11 v12 v13 (.int .u8 (7 : Int)) v15) a)
    (hm : Mem w pb len px) (ho : Only pb w0 w) (hr : ∀ i, isByte (px i)) (h4 : 4 ≤ p) (ht : 4 ≤ top) (htp : top + 8 ≤ p) (hl : p + 4 ≤ len) (hlen : len ≤ 1073741824)
    (hQ : ∀ a' w', Kn 1328 (L v0 (.slice (some ⟨pb, 0, none⟩) len cap) v2 (.int .i32 (p : Int)) v8 (.int .i64 (top : Int)) v11 v12 v13 (.int .u8 (7 : Int)) v15) a' → Mem w' pb len (step px p (predV 7 px p top)) → Only pb w0 w' → Q .normal a' w') :
    swCode.wp Try.prog Q a w := by
  unfold swCode ipBody
  conv => arg 2; whnf
  refine k_seq ?_
  refine rg (by kernel_rfl) ?_
  refine u_val hk (e_move rfl) rfl (by decide) fun a hk => ?_
  refine u_nil ?_
  refine wp_block ?_
  refine k_seq ?_
  refine rg (by kernel_rfl) ?_
  refine u_val hk (e_eqlF rfl rfl (by decide)) rfl (by decide) fun a hk => ?_
  refine u_val hk (e_assign rfl) rfl (by decide) fun a hk => ?_
  refine u_nil ?_
  refine k_false hk rfl ?_
  refine k_seq ?_
  refine rg (by kernel_rfl) ?_
  refine u_val hk (e_eqlF rfl rfl (by decide)) rfl (by decide) fun a hk => ?_
  refine u_val hk (e_assign rfl) rfl (by decide) fun a hk => ?_
  refine u_nil ?_
  refine k_false hk rfl ?_
  refine k_seq ?_
  refine rg (by kernel_rfl) ?_
  refine u_val hk (e_eqlF rfl rfl (by decide)) rfl (by decide) fun a hk => ?_
  refine u_val hk (e_assign rfl) rfl (by decide) fun a hk => ?_
  refine u_nil ?_
  refine k_false hk rfl ?_
  refine k_seq ?_
  refine rg (by kernel_rfl) ?_
  refine u_val hk (e_eqlF rfl rfl (by decide)) rfl (by decide) fun a hk => ?_
  refine u_val hk (e_assign rfl) rfl (by decide) fun a hk => ?_
  refine u_nil ?_
  refine k_false hk rfl ?_
  refine k_seq ?_
  refine rg (by kernel_rfl) ?_
  refine u_val hk (e_eqlF rfl rfl (by decide)) rfl (by decide) fun a hk => ?_
  refine u_val hk (e_assign rfl) rfl (by decide) fun a hk => ?_
  refine u_nil ?_
  refine k_false hk rfl ?_
  refine k_seq ?_
  refine rg (by kernel_rfl) ?_
  refine u_val hk (e_eqlF rfl rfl (by decide)) rfl (by decide) fun a hk => ?_
  refine u_val hk (e_assign rfl) rfl (by decide) fun a hk => ?_
  refine u_nil ?_
  refine k_false hk rfl ?_
  refine k_seq ?_
  refine rg (by kernel_rfl) ?_
  refine u_val hk (e_eqlF rfl rfl (by decide)) rfl (by decide) fun a hk => ?_
  refine u_val hk (e_assign rfl) rfl (by decide) fun a hk => ?_
  refine u_nil ?_
  refine k_false hk rfl ?_
  refine k_seq ?_
  refine rg (by kernel_rfl) ?_
  refine u_val hk (e_eqlT rfl rfl (by decide)) rfl (by decide) fun a hk => ?_
  refine u_val hk (e_assign rfl) rfl (by decide) fun a hk => ?_
  refine u_nil ?_
  refine k_true hk rfl ?_
  replace hm := hm.pm p (fun j => IntKind.u8.wrap (px (p + j) + predV 7 px p top j))
  refine k_seq ?_
  refine rgt 18 (by kernel_rfl) (by kernel_rfl) (by kernel_rfl) ?_
  replace hm := hm.drew
  replace ho := ho.drew
  refine r_val hk (e_move rfl) rfl (by decide) fun a hk => ?_
  refine r_val hk (e_move rfl) rfl (by decide) fun a hk => ?_
  refine r_val hk (e_add_eq ((p + 0 : Nat) : Int) rfl rfl (i32_eq (by omega) (by omega) (by omega))) rfl (by decide) fun a hk => ?_
  refine r_val hk (e_idx0 (p + 0) es22 rfl rfl rfl (by omega)) rfl (by decide) fun a hk => ?_
  refine r_val hk (e_load oc5 rfl (hm.old (i := p + 0) (by omega) (by omega))) rfl (by decide) fun a hk => ?_
  refine r_val hk (e_move rfl) rfl (by decide) fun a hk => ?_
  refine r_val hk (e_move rfl) rfl (by decide) fun a hk => ?_
  refine r_val hk (e_sub_eq ((p - 4 : Nat) : Int) rfl rfl (i32_eq (by omega) (by omega) (by omega))) rfl (by decide) fun a hk => ?_
  refine r_val hk (e_idx0 (p - 4) es22 rfl rfl rfl (by omega)) rfl (by decide) fun a hk => ?_
  refine r_val hk (e_load oc5 rfl (hm.old (i := p - 4) (by omega) (by omega))) rfl (by decide) fun a hk => ?_
  refine r_val hk (e_move rfl) rfl (by decide) fun a hk => ?_
  refine r_val hk (e_move rfl) rfl (by decide) fun a hk => ?_
  refine r_val hk (e_add_eq ((top + 0 : Nat) : Int) rfl rfl (i64_eq (by omega) (by omega) (by omega))) rfl (by decide) fun a hk => ?_
  refine r_val hk (e_idx0 (top + 0) es22 rfl rfl rfl (by omega)) rfl (by decide) fun a hk => ?_
  refine r_val hk (e_load oc5 rfl (hm.old (i := top + 0) (by omega) (by omega))) rfl (by decide) fun a hk => ?_
  refine r_call hk (c_func pf_avg2 rfl) (avg_any _ _ (hr _) (hr _) _) rfl (by decide) fun a hk => ?_
  refine r_val hk (e_add rfl rfl) rfl (by decide) fun a hk => ?_
  refine r_val hk (e_idx0 (p + 0) es22 rfl rfl rfl (by omega)) rfl (by decide) fun a hk => ?_
  refine u_put hk oc5 rfl rfl hm ho (by omega) rfl fun w a hk hm ho => ?_
  refine u_nil ?_
  refine k_seq ?_
  refine rgt 18 (by kernel_rfl) (by kernel_rfl) (by kernel_rfl) ?_
  replace hm := hm.drew
  replace ho := ho.drew
  refine r_val hk (e_move rfl) rfl (by decide) fun a hk => ?_
  refine r_val hk (e_move rfl) rfl (by decide) fun a hk => ?_
  refine r_val hk (e_add_eq ((p + 1 : Nat) : Int) rfl rfl (i32_eq (by omega) (by omega) (by omega))) rfl (by decide) fun a hk => ?_
  refine r_val hk (e_idx0 (p + 1) es22 rfl rfl rfl (by omega)) rfl (by decide) fun a hk => ?_
  refine r_val hk (e_load oc5 rfl (hm.old (i := p + 1) (by omega) (by omega))) rfl (by decide) fun a hk => ?_
  refine r_val hk (e_move rfl) rfl (by decide) fun a hk => ?_
  refine r_val hk (e_move rfl) rfl (by decide) fun a hk => ?_
  refine r_val hk (e_sub_eq ((p - 3 : Nat) : Int) rfl rfl (i32_eq (by omega) (by omega) (by omega))) rfl (by decide) fun a hk => ?_
  refine r_val hk (e_idx0 (p - 3) es22 rfl rfl rfl (by omega)) rfl (by decide) fun a hk => ?_
  refine r_val hk (e_load oc5 rfl (hm.old (i := p - 3) (by omega) (by omega))) rfl (by decide) fun a hk => ?_
  refine r_val hk (e_move rfl) rfl (by decide) fun a hk => ?_
  refine r_val hk (e_move rfl) rfl (by decide) fun a hk => ?_
  refine r_val hk (e_add_eq ((top + 1 : Nat) : Int) rfl rfl (i64_eq (by omega) (by omega) (by omega))) rfl (by decide) fun a hk => ?_
  refine r_val hk (e_idx0 (top + 1) es22 rfl rfl rfl (by omega)) rfl (by decide) fun a hk => ?_
  refine r_val hk (e_load oc5 rfl (hm.old (i := top + 1) (by omega) (by omega))) rfl (by decide) fun a hk => ?_
  refine r_call hk (c_func pf_avg2 rfl) (avg_any _ _ (hr _) (hr _) _) rfl (by decide) fun a hk => ?_
  refine r_val hk (e_add rfl rfl) rfl (by decide) fun a hk => ?_
  refine r_val hk (e_idx0 (p + 1) es22 rfl rfl rfl (by omega)) rfl (by decide) fun a hk => ?_
  refine u_put hk oc5 rfl rfl hm ho (by omega) rfl fun w a hk hm ho => ?_
  refine u_nil ?_
  refine k_seq ?_
  refine rgt 18 (by kernel_rfl) (by kernel_rfl) (by kernel_rfl) ?_
  replace hm := hm.drew
  replace ho := ho.drew
  refine r_val hk (e_move rfl) rfl (by decide) fun a hk => ?_
  refine r_val hk (e_move rfl) rfl (by decide) fun a hk => ?_
  refine r_val hk (e_add_eq ((p + 2 : Nat) : Int) rfl rfl (i32_eq (by omega) (by omega) (by omega))) rfl (by decide) fun a hk => ?_
  refine r_val hk (e_idx0 (p + 2) es22 rfl rfl rfl (by omega)) rfl (by decide) fun a hk => ?_
  refine r_val hk (e_load oc5 rfl (hm.old (i := p + 2) (by omega) (by omega))) rfl (by decide) fun a hk => ?_
  refine r_val hk (e_move rfl) rfl (by decide) fun a hk => ?_
  refine r_val hk (e_move rfl) rfl (by decide) fun a hk => ?_
  refine r_val hk (e_sub_eq ((p - 2 : Nat) : Int) rfl rfl (i32_eq (by omega) (by omega) (by omega))) rfl (by decide) fun a hk => ?_
  refine r_val hk (e_idx0 (p - 2) es22 rfl rfl rfl (by omega)) rfl (by decide) fun a hk => ?_
  refine r_val hk (e_load oc5 rfl (hm.old (i := p - 2) (by omega) (by omega))) rfl (by decide) fun a hk => ?_
  refine r_val hk (e_move rfl) rfl (by decide) fun a hk => ?_
  refine r_val hk (e_move rfl) rfl (by decide) fun a hk => ?_
  refine r_val hk (e_add_eq ((top + 2 : Nat) : Int) rfl rfl (i64_eq (by omega) (by omega) (by omega))) rfl (by decide) fun a hk => ?_
  refine r_val hk (e_idx0 (top + 2) es22 rfl rfl rfl (by omega)) rfl (by decide) fun a hk => ?_
  refine r_val hk (e_load oc5 rfl (hm.old (i := top + 2) (by omega) (by omega))) rfl (by decide) fun a hk => ?_
  refine r_call hk (c_func pf_avg2 rfl) (avg_any _ _ (hr _) (hr _) _) rfl (by decide) fun a hk => ?_
  refine r_val hk (e_add rfl rfl) rfl (by decide) fun a hk => ?_
  refine r_val hk (e_idx0 (p + 2) es22 rfl rfl rfl (by omega)) rfl (by decide) fun a hk => ?_
  refine u_put hk oc5 rfl rfl hm ho (by omega) rfl fun w a hk hm ho => ?_
  refine u_nil ?_
  refine rgt 18 (by kernel_rfl) (by kernel_rfl) (by kernel_rfl) ?_
  replace hm := hm.drew
  replace ho := ho.drew
  refine r_val hk (e_move rfl) rfl (by decide) fun a hk => ?_
  refine r_val hk (e_move rfl) rfl (by decide) fun a hk => ?_
  refine r_val hk (e_add_eq ((p + 3 : Nat) : Int) rfl rfl (i32_eq (by omega) (by omega) (by omega))) rfl (by decide) fun a hk => ?_
  refine r_val hk (e_idx0 (p + 3) es22 rfl rfl rfl (by omega)) rfl (by decide) fun a hk => ?_
  refine r_val hk (e_load oc5 rfl (hm.old (i := p + 3) (by omega) (by omega))) rfl (by decide) fun a hk => ?_
  refine r_val hk (e_move rfl) rfl (by decide) fun a hk => ?_
  refine r_val hk (e_move rfl) rfl (by decide) fun a hk => ?_
  refine r_val hk (e_sub_eq ((p - 1 : Nat) : Int) rfl rfl (i32_eq (by omega) (by omega) (by omega))) rfl (by decide) fun a hk => ?_
  refine r_val hk (e_idx0 (p - 1) es22 rfl rfl rfl (by omega)) rfl (by decide) fun a hk => ?_
  refine r_val hk (e_load oc5 rfl (hm.old (i := p - 1) (by omega) (by omega))) rfl (by decide) fun a hk => ?_
  refine r_val hk (e_move rfl) rfl (by decide) fun a hk => ?_
  refine r_val hk (e_move rfl) rfl (by decide) fun a hk => ?_
  refine r_val hk (e_add_eq ((top + 3 : Nat) : Int) rfl rfl (i64_eq (by omega) (by omega) (by omega))) rfl (by decide) fun a hk => ?_
  refine r_val hk (e_idx0 (top + 3) es22 rfl rfl rfl (by omega)) rfl (by decide) fun a hk => ?_
  refine r_val hk (e_load oc5 rfl (hm.old (i := top + 3) (by omega) (by omega))) rfl (by decide) fun a hk => ?_
  refine r_call hk (c_func pf_avg2 rfl) (avg_any _ _ (hr _) (hr _) _) rfl (by decide) fun a hk => ?_
  refine r_val hk (e_add rfl rfl) rfl (by decide) fun a hk => ?_
  refine r_val hk (e_idx0 (p + 3) es22 rfl rfl rfl (by omega)) rfl (by decide) fun a hk => ?_
  refine u_put hk oc5 rfl rfl hm ho (by omega) rfl fun w a hk hm ho => ?_
  refine u_nil ?_
  exact hQ _ _ (hk.sub (Sub.cons rfl (Sub.cons rfl (Sub.cons rfl (Sub.cons rfl (Sub.cons rfl (Sub.cons rfl (Sub.cons rfl (Sub.cons rfl (Sub.cons rfl (Sub.cons rfl (Sub.cons rfl (Sub.nil _))))))))))))) hm.mem ho

set_option maxRecDepth 100000 in
theorem sw_8 {Q : Exit → Act → World → Prop} {a : Act} {w w0 : World} {v0 v2 v8 v11 v12 v13 v15 : Value} {pb len cap p top : Nat} {px : Nat → Int}
    (hk : Kn 1328 (L v0 (.slice (some ⟨pb, 0, none⟩) len cap) v2 (.int .i32 (p : Int)) v8 (.int .i64 (top : Int)) v11 v12 v13 (.int .u8 (8 : Int)) v15) a)
    (hm : Mem w pb len px) (ho : Only pb w0 w) (hr : ∀ i, isByte (px i)) (h4 : 4 ≤ p) (ht : 4 ≤ top) (htp : top + 8 ≤ p) (hl : p + 4 ≤ len) (hlen : len ≤ 1073741824)
    (hQ : ∀ a' w', Kn 1328 (L v0 (.slice (some ⟨pb, 0, none⟩) len cap) v2 (.int .i32 (p : Int)) v8 (.int .i64 (top : Int)) v11 v12 v13 (.int .u8 (8 : Int)) v15) a' → Mem w' pb len (step px p (predV 8 px p top)) → Only pb w0 w' → Q .normal a' w') :
    swCode.wp Try.prog Q a w := by
  unfold swCode ipBody
  conv => arg 2; whnf
  refine k_seq ?_
  refine rg (by kernel_rfl) ?_
  refine u_val hk (e_move rfl) rfl (by decide) fun a hk => ?_
  refine u_nil ?_
  refine wp_block ?_
  refine k_seq ?_
  refine rg (by kernel_rfl) ?_
  refine u_val hk (e_eqlF rfl rfl (by decide)) rfl (by decide) fun a hk => ?_
  refine u_val hk (e_assign rfl) rfl (by decide) fun a hk => ?_
  refine u_nil ?_
  refine k_false hk rfl ?_
  refine k_seq ?_
  refine rg (by kernel_rfl) ?_
  refine u_val hk (e_eqlF rfl rfl (by decide)) rfl (by decide) fun a hk => ?_
  refine u_val hk (e_assign rfl) rfl (by decide) fun a hk => ?_
  refine u_nil ?_
  refine k_false hk rfl ?_
  refine k_seq ?_
  refine rg (by kernel_rfl) ?_
  refine u_val hk (e_eqlF rfl rfl (by decide)) rfl (by decide) fun a hk => ?_
  refine u_val hk (e_assign rfl) rfl (by decide) fun a hk => ?_
  refine u_nil ?_
  refine k_false hk rfl ?_
  refine k_seq ?_
  refine rg (by kernel_rfl) ?_
  refine u_val hk (e_eqlF rfl rfl (by decide)) rfl (by decide) fun a hk => ?_
  refine u_val hk (e_assign rfl) rfl (by decide) fun a hk => ?_
  refine u_nil ?_
  refine k_false hk rfl ?_
  refine k_seq ?_
  refine rg (by kernel_rfl) ?_
  refine u_val hk (e_eqlF rfl rfl (by decide)) rfl (by decide) fun a hk => ?_
  refine u_val hk (e_assign rfl) rfl (by decide) fun a hk => ?_
  refine u_nil ?_
  refine k_false hk rfl ?_
  refine k_seq ?_
  refine rg (by kernel_rfl) ?_
  refine u_val hk (e_eqlF rfl rfl (by decide)) rfl (by decide) fun a hk => ?_
  refine u_val hk (e_assign rfl) rfl (by decide) fun a hk => ?_
  refine u_nil ?_
  refine k_false hk rfl ?_
  refine k_seq ?_
  refine rg (by kernel_rfl) ?_
  refine u_val hk (e_eqlF rfl rfl (by decide)) rfl (by decide) fun a hk => ?_
  refine u_val hk (e_assign rfl) rfl (by decide) fun a hk => ?_
  refine u_nil ?_
  refine k_false hk rfl ?_
  refine k_seq ?_
  refine rg (by kernel_rfl) ?_
  refine u_val hk (e_eqlF rfl rfl (by decide)) rfl (by decide) fun a hk => ?_
  refine u_val hk (e_assign rfl) rfl (by decide) fun a hk => ?_
  refine u_nil ?_
  refine k_false hk rfl ?_
  refine k_seq ?_
  refine rg (by kernel_rfl) ?_
  refine u_val hk (e_eqlT rfl rfl (by decide)) rfl (by decide) fun a hk => ?_
  refine u_val hk (e_assign rfl) rfl (by decide) fun a hk => ?_
  refine u_nil ?_
  refine k_true hk rfl ?_
  replace hm := hm.pm p (fun j => IntKind.u8.wrap (px (p + j) + predV 8 px p top j))
  refine k_seq ?_
  refine rgt 18 (by kernel_rfl) (by kernel_rfl) (by kernel_rfl) ?_
  replace hm := hm.drew
  replace ho := ho.drew
  refine r_val hk (e_move rfl) rfl (by decide) fun a hk => ?_
  refine r_val hk (e_move rfl) rfl (by decide) fun a hk => ?_
  refine r_val hk (e_add_eq ((p + 0 : Nat) : Int) rfl rfl (i32_eq (by omega) (by omega) (by omega))) rfl (by decide) fun a hk => ?_
  refine r_val hk (e_idx0 (p + 0) es22 rfl rfl rfl (by omega)) rfl (by decide) fun a hk => ?_
  refine r_val hk (e_load oc5 rfl (hm.old (i := p + 0) (by omega) (by omega))) rfl (by decide) fun a hk => ?_
  refine r_val hk (e_move rfl) rfl (by decide) fun a hk => ?_
  refine r_val hk (e_move rfl) rfl (by decide) fun a hk => ?_
  refine r_val hk (e_sub_eq ((top - 4 : Nat) : Int) rfl rfl (i64_eq (by omega) (by omega) (by omega))) rfl (by decide) fun a hk => ?_
  refine r_val hk (e_idx0 (top - 4) es22 rfl rfl rfl (by omega)) rfl (by decide) fun a hk => ?_
  refine r_val hk (e_load oc5 rfl (hm.old (i := top - 4) (by omega) (by omega))) rfl (by decide) fun a hk => ?_
  refine r_val hk (e_move rfl) rfl (by decide) fun a hk => ?_
  refine r_val hk (e_move rfl) rfl (by decide) fun a hk => ?_
  refine r_val hk (e_add_eq ((top + 0 : Nat) : Int) rfl rfl (i64_eq (by omega) (by omega) (by omega))) rfl (by decide) fun a hk => ?_
  refine r_val hk (e_idx0 (top + 0) es22 rfl rfl rfl (by omega)) rfl (by decide) fun a hk => ?_
  refine r_val hk (e_load oc5 rfl (hm.old (i := top + 0) (by omega) (by omega))) rfl (by decide) fun a hk => ?_
  refine r_call hk (c_func pf_avg2 rfl) (avg_any _ _ (hr _) (hr _) _) rfl (by decide) fun a hk => ?_
  refine r_val hk (e_add rfl rfl) rfl (by decide) fun a hk => ?_
  refine r_val hk (e_idx0 (p + 0) es22 rfl rfl rfl (by omega)) rfl (by decide) fun a hk => ?_
  refine u_put hk oc5 rfl rfl hm ho (by omega) rfl fun w a hk hm ho => ?_
  refine u_nil ?_
  refine k_seq ?_
  refine rgt 18 (by kernel_rfl) (by kernel_rfl) (by kernel_rfl) ?_
  replace hm := hm.drew
  replace ho := ho.drew
  refine r_val hk (e_move rfl) rfl (by decide) fun a hk => ?_
  refine r_val hk (e_move rfl) rfl (by decide) fun a hk => ?_
  refine r_val hk (e_add_eq ((p + 1 : Nat) : Int) rfl rfl (i32_eq (by omega) (by omega) (by omega))) rfl (by decide) fun a hk => ?_
  refine r_val hk (e_idx0 (p + 1) es22 rfl rfl rfl (by omega)) rfl (by decide) fun a hk => ?_
  refine r_val hk (e_load oc5 rfl (hm.old (i := p + 1) (by omega) (by omega))) rfl (by decide) fun a hk => ?_
  refine r_val hk (e_move rfl) rfl (by decide) fun a hk => ?_
  refine r_val hk (e_move rfl) rfl (by decide) fun a hk => ?_
  refine r_val hk (e_sub_eq ((top - 3 : Nat) : Int) rfl rfl (i64_eq (by omega) (by omega) (by omega))) rfl (by decide) fun a hk => ?_
  refine r_val hk (e_idx0 (top - 3) es22 rfl rfl rfl (by omega)) rfl (by decide) fun a hk => ?_
  refine r_val hk (e_load oc5 rfl (hm.old (i := top - 3) (by omega) (by omega))) rfl (by decide) fun a hk => ?_
  refine r_val hk (e_move rfl) rfl (by decide) fun a hk => ?_
  refine r_val hk (e_move rfl) rfl (by decide) fun a hk => ?_
  refine r_val hk (e_add_eq ((top + 1 : Nat) : Int) rfl rfl (i64_eq (by omega) (by omega) (by omega))) rfl (by decide) fun a hk => ?_
  refine r_val hk (e_idx0 (top + 1) es22 rfl rfl rfl (by omega)) rfl (by decide) fun a hk => ?_
  refine r_val hk (e_load oc5 rfl (hm.old (i := top + 1) (by omega) (by omega))) rfl (by decide) fun a hk => ?_
  refine r_call hk (c_func pf_avg2 rfl) (avg_any _ _ (hr _) (hr _) _) rfl (by decide) fun a hk => ?_
  refine r_val hk (e_add rfl rfl) rfl (by decide) fun a hk => ?_
  refine r_val hk (e_idx0 (p + 1) es22 rfl rfl rfl (by omega)) rfl (by decide) fun a hk => ?_
  refine u_put hk oc5 rfl rfl hm ho (by omega) rfl fun w a hk hm ho => ?_
  refine u_nil ?_
  refine k_seq ?_
  refine rgt 18 (by kernel_rfl) (by kernel_rfl) (by kernel_rfl) ?_
  replace hm := hm.drew
  replace ho := ho.drew
  refine r_val hk (e_move rfl) rfl (by decide) fun a hk => ?_
  refine r_val hk (e_move rfl) rfl (by decide) fun a hk => ?_
  refine r_val hk (e_add_eq ((p + 2 : Nat) : Int) rfl rfl (i32_eq (by omega) (by omega) (by omega))) rfl (by decide) fun a hk => ?_
  refine r_val hk (e_idx0 (p + 2) es22 rfl rfl rfl (by omega)) rfl (by decide) fun a hk => ?_
  refine r_val hk (e_load oc5 rfl (hm.old (i := p + 2) (by omega) (by omega))) rfl (by decide) fun a hk => ?_
  refine r_val hk (e_move rfl) rfl (by decide) fun a hk => ?_
  refine r_val hk (e_move rfl) rfl (by decide) fun a hk => ?_
  refine r_val hk (e_sub_eq ((top - 2 : Nat) : Int) rfl rfl (i64_eq (by omega) (by omega) (by omega))) rfl (by decide) fun a hk => ?_
  refine r_val hk (e_idx0 (top - 2) es22 rfl rfl rfl (by omega)) rfl (by decide) fun a hk => ?_
  refine r_val hk (e_load oc5 rfl (hm.old (i := top - 2) (by omega) (by omega))) rfl (by decide) fun a hk => ?_
  refine r_val hk (e_move rfl) rfl (by decide) fun a hk => ?_
  refine r_val hk (e_move rfl) rfl (by decide) fun a hk => ?_
  refine r_val hk (e_add_eq ((top + 2 : Nat) : Int) rfl rfl (i64_eq (by omega) (by omega) (by omega))) rfl (by decide) fun a hk => ?_
  refine r_val hk (e_idx0 (top + 2) es22 rfl rfl rfl (by omega)) rfl (by decide) fun a hk => ?_
  refine r_val hk (e_load oc5 rfl (hm.old (i := top + 2) (by omega) (by omega))) rfl (by decide) fun a hk => ?_
  refine r_call hk (c_func pf_avg2 rfl) (avg_any _ _ (hr _) (hr _) _) rfl (by decide) fun a hk => ?_
  refine r_val hk (e_add rfl rfl) rfl (by decide) fun a hk => ?_
  refine r_val hk (e_idx0 (p + 2) es22 rfl rfl rfl (by omega)) rfl (by decide) fun a hk => ?_
  refine u_put hk oc5 rfl rfl hm ho (by omega) rfl fun w a hk hm ho => ?_
  refine u_nil ?_
  refine rgt 18 (by kernel_rfl) (by kernel_rfl) (by kernel_rfl) ?_
  replace hm := hm.drew
  replace ho := ho.drew
  refine r_val hk (e_move rfl) rfl (by decide) fun a hk => ?_
  refine r_val hk (e_move rfl) rfl (by decide) fun a hk => ?_
  refine r_val hk (e_add_eq ((p + 3 : Nat) : Int) rfl rfl (i32_eq (by omega) (by omega) (by omega))) rfl (by decide) fun a hk => ?_
  refine r_val hk (e_idx0 (p + 3) es22 rfl rfl rfl (by omega)) rfl (by decide) fun a hk => ?_
  refine r_val hk (e_load oc5 rfl (hm.old (i := p + 3) (by omega) (by omega))) rfl (by decide) fun a hk => ?_
  refine r_val hk (e_move rfl) rfl (by decide) fun a hk => ?_
  refine r_val hk (e_move rfl) rfl (by decide) fun a hk => ?_
  refine r_val hk (e_sub_eq ((top - 1 : Nat) : Int) rfl rfl (i64_eq (by omega) (by omega) (by omega))) rfl (by decide) fun a hk => ?_
  refine r_val hk (e_idx0 (top - 1) es22 rfl rfl rfl (by omega)) rfl (by decide) fun a hk => ?_
  refine r_val hk (e_load oc5 rfl (hm.old (i := top - 1) (by omega) (by omega))) rfl (by decide) fun a hk => ?_
  refine r_val hk (e_move rfl) rfl (by decide) fun a hk => ?_
  refine r_val hk (e_move rfl) rfl (by decide) fun a hk => ?_
  refine r_val hk (e_add_eq ((top + 3 : Nat) : Int) rfl rfl (i64_eq (by omega) (by omega) (by omega))) rfl (by decide) fun a hk => ?_
  refine r_val hk (e_idx0 (top + 3) es22 rfl rfl rfl (by omega)) rfl (by decide) fun a hk => ?_
  refine r_val hk (e_load oc5 rfl (hm.old (i := top + 3) (by omega) (by omega))) rfl (by decide) fun a hk => ?_
  refine r_call hk (c_func pf_avg2 rfl) (avg_any _ _ (hr _) (hr _) _) rfl (by decide) fun a hk => ?_
  refine r_val hk (e_add rfl rfl) rfl (by decide) fun a hk => ?_
  refine r_val hk (e_idx0 (p + 3) es22 rfl rfl rfl (by omega)) rfl (by decide) fun a hk => ?_
  refine u_put hk oc5 rfl rfl hm ho (by omega) rfl fun w a hk hm ho => ?_
  refine u_nil ?_
  exact hQ _ _ (hk.sub (Sub.cons rfl (Sub.cons rfl (Sub.cons rfl (Sub.cons rfl (Sub.cons rfl (Sub.cons rfl (Sub.cons rfl (Sub.cons rfl (Sub.cons rfl (Sub.cons rfl (Sub.cons rfl (Sub.nil _))))))))))))) hm.mem ho

set_option maxRecDepth 100000 in
theorem sw_9 {Q : Exit → Act → World → Prop} {a : Act} {w w0 : World} {v0 v2 v8 v11 v12 v13 v15 : Value} {pb len cap p top : Nat} {px : Nat → Int}
    (hk : Kn 1328 (L v0 (.slice (some ⟨pb, 0, none⟩) len cap) v2 (.int .i32 (p : Int)) v8 (.int .i64 (top : Int)) v11 v12 v13 (.int .u8 (9 : Int)) v15) a)
    (hm : Mem w pb len px) (ho : Only pb w0 w) (hr : ∀ i, isByte (px i)) (h4 : 4 ≤ p) (ht : 4 ≤ top) (htp : top + 8 ≤ p) (hl : p + 4 ≤ len) (hlen : len ≤ 1073741824)
    (hQ : ∀ a' w', Kn 1328 (L v0 (.slice (some ⟨pb, 0, none⟩) len cap) v2 (.int .i32 (p : Int)) v8 (.int .i64 (top : Int)) v11 v12 v13 (.int .u8 (9 : Int)) v15) a' → Mem w' pb len (step px p (predV 9 px p top)) → Only pb w0 w' → Q .normal a' w') :
    swCode.wp Try.prog Q a w := by
  unfold swCode ipBody
  conv => arg 2; whnf
  refine k_seq ?_
  refine rg (by kernel_rfl) ?_
  refine u_val hk (e_move rfl) rfl (by decide) fun a hk => ?_
  refine u_nil ?_
  refine wp_block ?_
  refine k_seq ?_
  refine rg (by kernel_rfl) ?_
  refine u_val hk (e_eqlF rfl rfl (by decide)) rfl (by decide) fun a hk => ?_
  refine u_val hk (e_assign rfl) rfl (by decide) fun a hk => ?_
  refine u_nil ?_
  refine k_false hk rfl ?_
  refine k_seq ?_
  refine rg (by kernel_rfl) ?_
  refine u_val hk (e_eqlF rfl rfl (by decide)) rfl (by decide) fun a hk => ?_
  refine u_val hk (e_assign rfl) rfl (by decide) fun a hk => ?_
  refine u_nil ?_
  refine k_false hk rfl ?_
  refine k_seq ?_
  refine rg (by kernel_rfl) ?_
  refine u_val hk (e_eqlF rfl rfl (by decide)) rfl (by decide) fun a hk => ?_
  refine u_val hk (e_assign rfl) rfl (by decide) fun a hk => ?_
  refine u_nil ?_
  refine k_false hk rfl ?_
  refine k_seq ?_
  refine rg (by kernel_rfl) ?_
  refine u_val hk (e_eqlF rfl rfl (by decide)) rfl (by decide) fun a hk => ?_
  refine u_val hk (e_assign rfl) rfl (by decide) fun a hk => ?_
  refine u_nil ?_
  refine k_false hk rfl ?_
  refine k_seq ?_
  refine rg (by kernel_rfl) ?_
  refine u_val hk (e_eqlF rfl rfl (by decide)) rfl (by decide) fun a hk => ?_
  refine u_val hk (e_assign rfl) rfl (by decide) fun a hk => ?_
  refine u_nil ?_
  refine k_false hk rfl ?_
  refine k_seq ?_
  refine rg (by kernel_rfl) ?_
  refine u_val hk (e_eqlF rfl rfl (by decide)) rfl (by decide) fun a hk => ?_
  refine u_val hk (e_assign rfl) rfl (by decide) fun a hk => ?_
  refine u_nil ?_
  refine k_false hk rfl ?_
  refine k_seq ?_
  refine rg (by kernel_rfl) ?_
  refine u_val hk (e_eqlF rfl rfl (by decide)) rfl (by decide) fun a hk => ?_
  refine u_val hk (e_assign rfl) rfl (by decide) fun a hk => ?_
  refine u_nil ?_
  refine k_false hk rfl ?_
  refine k_seq ?_
  refine rg (by kernel_rfl) ?_
  refine u_val hk (e_eqlF rfl rfl (by decide)) rfl (by decide) fun a hk => ?_
  refine u_val hk (e_assign rfl) rfl (by decide) fun a hk => ?_
  refine u_nil ?_
  refine k_false hk rfl ?_
  refine k_seq ?_
  refine rg (by kernel_rfl) ?_
  refine u_val hk (e_eqlF rfl rfl (by decide)) rfl (by decide) fun a hk => ?_
  refine u_val hk (e_assign rfl) rfl (by decide) fun a hk => ?_
  refine u_nil ?_
  refine k_false hk rfl ?_
  refine k_seq ?_
  refine rg (by kernel_rfl) ?_
  refine u_val hk (e_eqlT rfl rfl (by decide)) rfl (by decide) fun a hk => ?_
  refine u_val hk (e_assign rfl) rfl (by decide) fun a hk => ?_
  refine u_nil ?_
  refine k_true hk rfl ?_
  replace hm := hm.pm p (fun j => IntKind.u8.wrap (px (p + j) + predV 9 px p top j))
  refine k_seq ?_
  refine rgt 18 (by kernel_rfl) (by kernel_rfl) (by kernel_rfl) ?_
  replace hm := hm.drew
  replace ho := ho.drew
  refine r_val hk (e_move rfl) rfl (by decide) fun a hk => ?_
  refine r_val hk (e_move rfl) rfl (by decide) fun a hk => ?_
  refine r_val hk (e_add_eq ((p + 0 : Nat) : Int) rfl rfl (i32_eq (by omega) (by omega) (by omega))) rfl (by decide) fun a hk => ?_
  refine r_val hk (e_idx0 (p + 0) es22 rfl rfl rfl (by omega)) rfl (by decide) fun a hk => ?_
  refine r_val hk (e_load oc5 rfl (hm.old (i := p + 0) (by omega) (by omega))) rfl (by decide) fun a hk => ?_
  refine r_val hk (e_move rfl) rfl (by decide) fun a hk => ?_
  refine r_val hk (e_move rfl) rfl (by decide) fun a hk => ?_
  refine r_val hk (e_add_eq ((top + 0 : Nat) : Int) rfl rfl (i64_eq (by omega) (by omega) (by omega))) rfl (by decide) fun a hk => ?_
  refine r_val hk (e_idx0 (top + 0) es22 rfl rfl rfl (by omega)) rfl (by decide) fun a hk => ?_
  refine r_val hk (e_load oc5 rfl (hm.old (i := top + 0) (by omega) (by omega))) rfl (by decide) fun a hk => ?_
  refine r_val hk (e_move rfl) rfl (by decide) fun a hk => ?_
  refine r_val hk (e_move rfl) rfl (by decide) fun a hk => ?_
  refine r_val hk (e_add_eq ((top + 4 : Nat) : Int) rfl rfl (i64_eq (by omega) (by omega) (by omega))) rfl (by decide) fun a hk => ?_
  refine r_val hk (e_idx0 (top + 4) es22 rfl rfl rfl (by omega)) rfl (by decide) fun a hk => ?_
  refine r_val hk (e_load oc5 rfl (hm.old (i := top + 4) (by omega) (by omega))) rfl (by decide) fun a hk => ?_
  refine r_call hk (c_func pf_avg2 rfl) (avg_any _ _ (hr _) (hr _) _) rfl (by decide) fun a hk => ?_
  refine r_val hk (e_add rfl rfl) rfl (by decide) fun a hk => ?_
  refine r_val hk (e_idx0 (p + 0) es22 rfl rfl rfl (by omega)) rfl (by decide) fun a hk => ?_
  refine u_put hk oc5 rfl rfl hm ho (by omega) rfl fun w a hk hm ho => ?_
  refine u_nil ?_
  refine k_seq ?_
  refine rgt 18 (by kernel_rfl) (by kernel_rfl) (by kernel_rfl) ?_
  replace hm := hm.drew
  replace ho := ho.drew
  refine r_val hk (e_move rfl) rfl (by decide) fun a hk => ?_
  refine r_val hk (e_move rfl) rfl (by decide) fun a hk => ?_
  refine r_val hk (e_add_eq ((p + 1 : Nat) : Int) rfl rfl (i32_eq (by omega) (by omega) (by omega))) rfl (by decide) fun a hk => ?_
  refine r_val hk (e_idx0 (p + 1) es22 rfl rfl rfl (by omega)) rfl (by decide) fun a hk => ?_
  refine r_val hk (e_load oc5 rfl (hm.old (i := p + 1) (by omega) (by omega))) rfl (by decide) fun a hk => ?_
  refine r_val hk (e_move rfl) rfl (by decide) fun a hk => ?_
  refine r_val hk (e_move rfl) rfl (by decide) fun a hk => ?_
  refine r_val hk (e_add_eq ((top + 1 : Nat) : Int) rfl rfl (i64_eq (by omega) (by omega) (by omega))) rfl (by decide) fun a hk => ?_
  refine r_val hk (e_idx0 (top + 1) es22 rfl rfl rfl (by omega)) rfl (by decide) fun a hk => ?_
  refine r_val hk (e_load oc5 rfl (hm.old (i := top + 1) (by omega) (by omega))) rfl (by decide) fun a hk => ?_
  refine r_val hk (e_move rfl) rfl (by decide) fun a hk => ?_
  refine r_val hk (e_move rfl) rfl (by decide) fun a hk => ?_
  refine r_val hk (e_add_eq ((top + 5 : Nat) : Int) rfl rfl (i64_eq (by omega) (by omega) (by omega))) rfl (by decide) fun a hk => ?_
  refine r_val hk (e_idx0 (top + 5) es22 rfl rfl rfl (by omega)) rfl (by decide) fun a hk => ?_
  refine r_val hk (e_load oc5 rfl (hm.old (i := top + 5) (by omega) (by omega))) rfl (by decide) fun a hk => ?_
  refine r_call hk (c_func pf_avg2 rfl) (avg_any _ _ (hr _) (hr _) _) rfl (by decide) fun a hk => ?_
  refine r_val hk (e_add rfl rfl) rfl (by decide) fun a hk => ?_
  refine r_val hk (e_idx0 (p + 1) es22 rfl rfl rfl (by omega)) rfl (by decide) fun a hk => ?_
  refine u_put hk oc5 rfl rfl hm ho (by omega) rfl fun w a hk hm ho => ?_
  refine u_nil ?_
  refine k_seq ?_
  refine rgt 18 (by kernel_rfl) (by kernel_rfl) (by kernel_rfl) ?_
  replace hm := hm.drew
  replace ho := ho.drew
  refine r_val hk (e_move rfl) rfl (by decide) fun a hk => ?_
  refine r_val hk (e_move rfl) rfl (by decide) fun a hk => ?_
  refine r_val hk (e_add_eq ((p + 2 : Nat) : Int) rfl rfl (i32_eq (by omega) (by omega) (by omega))) rfl (by decide) fun a hk => ?_
  refine r_val hk (e_idx0 (p + 2) es22 rfl rfl rfl (by omega)) rfl (by decide) fun a hk => ?_
  refine r_val hk (e_load oc5 rfl (hm.old (i := p + 2) (by omega) (by omega))) rfl (by decide) fun a hk => ?_
  refine r_val hk (e_move rfl) rfl (by decide) fun a hk => ?_
  refine r_val hk (e_move rfl) rfl (by decide) fun a hk => ?_
  refine r_val hk (e_add_eq ((top + 2 : Nat) : Int) rfl rfl (i64_eq (by omega) (by omega) (by omega))) rfl (by decide) fun a hk => ?_
  refine r_val hk (e_idx0 (top + 2) es22 rfl rfl rfl (by omega)) rfl (by decide) fun a hk => ?_
  refine r_val hk (e_load oc5 rfl (hm.old (i := top + 2) (by omega) (by omega))) rfl (by decide) fun a hk => ?_
  refine r_val hk (e_move rfl) rfl (by decide) fun a hk => ?_
  refine r_val hk (e_move rfl) rfl (by decide) fun a hk => ?_
  refine r_val hk (e_add_eq ((top + 6 : Nat) : Int) rfl rfl (i64_eq (by omega) (by omega) (by omega))) rfl (by decide) fun a hk => ?_
  refine r_val hk (e_idx0 (top + 6) es22 rfl rfl rfl (by omega)) rfl (by decide) fun a hk => ?_
  refine r_val hk (e_load oc5 rfl (hm.old (i := top + 6) (by omega) (by omega))) rfl (by decide) fun a hk => ?_
  refine r_call hk (c_func pf_avg2 rfl) (avg_any _ _ (hr _) (hr _) _) rfl (by decide) fun a hk => ?_
  refine r_val hk (e_add rfl rfl) rfl (by decide) fun a hk => ?_
  refine r_val hk (e_idx0 (p + 2) es22 rfl rfl rfl (by omega)) rfl (by decide) fun a hk => ?_
  refine u_put hk oc5 rfl rfl hm ho (by omega) rfl fun w a hk hm ho => ?_
  refine u_nil ?_
  refine rgt 18 (by kernel_rfl) (by kernel_rfl) (by kernel_rfl) ?_
  replace hm := hm.drew
  replace ho := ho.drew
  refine r_val hk (e_move rfl) rfl (by decide) fun a hk => ?_
  refine r_val hk (e_move rfl) rfl (by decide) fun a hk => ?_
  refine r_val hk (e_add_eq ((p + 3 : Nat) : Int) rfl rfl (i32_eq (by omega) (by omega) (by omega))) rfl (by decide) fun a hk => ?_
  refine r_val hk (e_idx0 (p + 3) es22 rfl rfl rfl (by omega)) rfl (by decide) fun a hk => ?_
  refine r_val hk (e_load oc5 rfl (hm.old (i := p + 3) (by omega) (by omega))) rfl (by decide) fun a hk => ?_
  refine r_val hk (e_move rfl) rfl (by decide) fun a hk => ?_
  refine r_val hk (e_move rfl) rfl (by decide) fun a hk => ?_
  refine r_val hk (e_add_eq ((top + 3 : Nat) : Int) rfl rfl (i64_eq (by omega) (by omega) (by omega))) rfl (by decide) fun a hk => ?_
  refine r_val hk (e_idx0 (top + 3) es22 rfl rfl rfl (by omega)) rfl (by decide) fun a hk => ?_
  refine r_val hk (e_load oc5 rfl (hm.old (i := top + 3) (by omega) (by omega))) rfl (by decide) fun a hk => ?_
  refine r_val hk (e_move rfl) rfl (by decide) fun a hk => ?_
  refine r_val hk (e_move rfl) rfl (by decide) fun a hk => ?_
  refine r_val hk (e_add_eq ((top + 7 : Nat) : Int) rfl rfl (i64_eq (by omega) (by omega) (by omega))) rfl (by decide) fun a hk => ?_
  refine r_val hk (e_idx0 (top + 7) es22 rfl rfl rfl (by omega)) rfl (by decide) fun a hk => ?_
  refine r_val hk (e_load oc5 rfl (hm.old (i := top + 7) (by omega) (by omega))) rfl (by decide) fun a hk => ?_
  refine r_call hk (c_func pf_avg2 rfl) (avg_any _ _ (hr _) (hr _) _) rfl (by decide) fun a hk => ?_
  refine r_val hk (e_add rfl rfl) rfl (by decide) fun a hk => ?_
  refine r_val hk (e_idx0 (p + 3) es22 rfl rfl rfl (by omega)) rfl (by decide) fun a hk => ?_
  refine u_put hk oc5 rfl rfl hm ho (by omega) rfl fun w a hk hm ho => ?_
  refine u_nil ?_
  exact hQ _ _ (hk.sub (Sub.cons rfl (Sub.cons rfl (Sub.cons rfl (Sub.cons rfl (Sub.cons rfl (Sub.cons rfl (Sub.cons rfl (Sub.cons rfl (Sub.cons rfl (Sub.cons rfl (Sub.cons rfl (Sub.nil _))))))))))))) hm.mem ho

set_option maxRecDepth 100000 in
theorem sw_10 {Q : Exit → Act → World → Prop} {a : Act} {w w0 : World} {v0 v2 v8 v11 v12 v13 v15 : Value} {pb len cap p top : Nat} {px : Nat → Int}
    (hk : Kn 1328 (L v0 (.slice (some ⟨pb, 0, none⟩) len cap) v2 (.int .i32 (p : Int)) v8 (.int .i64 (top : Int)) v11 v12 v13 (.int .u8 (10 : Int)) v15) a)
    (hm : Mem w pb len px) (ho : Only pb w0 w) (hr : ∀ i, isByte (px i)) (h4 : 4 ≤ p) (ht : 4 ≤ top) (htp : top + 8 ≤ p) (hl : p + 4 ≤ len) (hlen : len ≤ 1073741824)
    (hQ : ∀ a' w', Kn 1328 (L v0 (.slice (some ⟨pb, 0, none⟩) len cap) v2 (.int .i32 (p : Int)) v8 (.int .i64 (top : Int)) v11 v12 v13 (.int .u8 (10 : Int)) v15) a' → Mem w' pb len (step px p (predV 10 px p top)) → Only pb w0 w' → Q .normal a' w') :
    swCode.wp Try.prog Q a w := by
  unfold swCode ipBody
  conv => arg 2; whnf
  refine k_seq ?_
  refine rg (by kernel_rfl) ?_
  refine u_val hk (e_move rfl) rfl (by decide) fun a hk => ?_
  refine u_nil ?_
  refine wp_block ?_
  refine k_seq ?_
  refine rg (by kernel_rfl) ?_
  refine u_val hk (e_eqlF rfl rfl (by decide)) rfl (by decide) fun a hk => ?_
  refine u_val hk (e_assign rfl) rfl (by decide) fun a hk => ?_
  refine u_nil ?_
  refine k_false hk rfl ?_
  refine k_seq ?_
  refine rg (by kernel_rfl) ?_
  refine u_val hk (e_eqlF rfl rfl (by decide)) rfl (by decide) fun a hk => ?_
  refine u_val hk (e_assign rfl) rfl (by decide) fun a hk => ?_
  refine u_nil ?_
  refine k_false hk rfl ?_
  refine k_seq ?_
  refine rg (by kernel_rfl) ?_
  refine u_val hk (e_eqlF rfl rfl (by decide)) rfl (by decide) fun a hk => ?_
  refine u_val hk (e_assign rfl) rfl (by decide) fun a hk => ?_
  refine u_nil ?_
  refine k_false hk rfl ?_
  refine k_seq ?_
  refine rg (by kernel_rfl) ?_
  refine u_val hk (e_eqlF rfl rfl (by decide)) rfl (by decide) fun a hk => ?_
  refine u_val hk (e_assign rfl) rfl (by decide) fun a hk => ?_
  refine u_nil ?_
  refine k_false hk rfl ?_
  refine k_seq ?_
  refine rg (by kernel_rfl) ?_
  refine u_val hk (e_eqlF rfl rfl (by decide)) rfl (by decide) fun a hk => ?_
  refine u_val hk (e_assign rfl) rfl (by decide) fun a hk => ?_
  refine u_nil ?_
  refine k_false hk rfl ?_
  refine k_seq ?_
  refine rg (by kernel_rfl) ?_
  refine u_val hk (e_eqlF rfl rfl (by decide)) rfl (by decide) fun a hk => ?_
  refine u_val hk (e_assign rfl) rfl (by decide) fun a hk => ?_
  refine u_nil ?_
  refine k_false hk rfl ?_
  refine k_seq ?_
  refine rg (by kernel_rfl) ?_
  refine u_val hk (e_eqlF rfl rfl (by decide)) rfl (by decide) fun a hk => ?_
  refine u_val hk (e_assign rfl) rfl (by decide) fun a hk => ?_
  refine u_nil ?_
  refine k_false hk rfl ?_
  refine k_seq ?_
  refine rg (by kernel_rfl) ?_
  refine u_val hk (e_eqlF rfl rfl (by decide)) rfl (by decide) fun a hk => ?_
  refine u_val hk (e_assign rfl) rfl (by decide) fun a hk => ?_
  refine u_nil ?_
  refine k_false hk rfl ?_
  refine k_seq ?_
  refine rg (by kernel_rfl) ?_
  refine u_val hk (e_eqlF rfl rfl (by decide)) rfl (by decide) fun a hk => ?_
  refine u_val hk (e_assign rfl) rfl (by decide) fun a hk => ?_
  refine u_nil ?_
  refine k_false hk rfl ?_
  refine k_seq ?_
  refine rg (by kernel_rfl) ?_
  refine u_val hk (e_eqlF rfl rfl (by decide)) rfl (by decide) fun a hk => ?_
  refine u_val hk (e_assign rfl) rfl (by decide) fun a hk => ?_
  refine u_nil ?_
  refine k_false hk rfl ?_
  refine k_seq ?_
  refine rg (by kernel_rfl) ?_
  refine u_val hk (e_eqlT rfl rfl (by decide)) rfl (by decide) fun a hk => ?_
  refine u_val hk (e_assign rfl) rfl (by decide) fun a hk => ?_
  refine u_nil ?_
  refine k_true hk rfl ?_
  replace hm := hm.pm p (fun j => IntKind.u8.wrap (px (p + j) + predV 10 px p top j))
  refine k_seq ?_
  refine rgt 30 (by kernel_rfl) (by kernel_rfl) (by kernel_rfl) ?_
  replace hm := hm.drew
  replace ho := ho.drew
  refine r_val hk (e_move rfl) rfl (by decide) fun a hk => ?_
  refine r_val hk (e_move rfl) rfl (by decide) fun a hk => ?_
  refine r_val hk (e_add_eq ((p + 0 : Nat) : Int) rfl rfl (i32_eq (by omega) (by omega) (by omega))) rfl (by decide) fun a hk => ?_
  refine r_val hk (e_idx0 (p + 0) es22 rfl rfl rfl (by omega)) rfl (by decide) fun a hk => ?_
  refine r_val hk (e_load oc5 rfl (hm.old (i := p + 0) (by omega) (by omega))) rfl (by decide) fun a hk => ?_
  refine r_val hk (e_move rfl) rfl (by decide) fun a hk => ?_
  refine r_val hk (e_move rfl) rfl (by decide) fun a hk => ?_
  refine r_val hk (e_sub_eq ((p - 4 : Nat) : Int) rfl rfl (i32_eq (by omega) (by omega) (by omega))) rfl (by decide) fun a hk => ?_
  refine r_val hk (e_idx0 (p - 4) es22 rfl rfl rfl (by omega)) rfl (by decide) fun a hk => ?_
  refine r_val hk (e_load oc5 rfl (hm.old (i := p - 4) (by omega) (by omega))) rfl (by decide) fun a hk => ?_
  refine r_val hk (e_move rfl) rfl (by decide) fun a hk => ?_
  refine r_val hk (e_move rfl) rfl (by decide) fun a hk => ?_
  refine r_val hk (e_sub_eq ((top - 4 : Nat) : Int) rfl rfl (i64_eq (by omega) (by omega) (by omega))) rfl (by decide) fun a hk => ?_
  refine r_val hk (e_idx0 (top - 4) es22 rfl rfl rfl (by omega)) rfl (by decide) fun a hk => ?_
  refine r_val hk (e_load oc5 rfl (hm.old (i := top - 4) (by omega) (by omega))) rfl (by decide) fun a hk => ?_
  refine r_call hk (c_func pf_avg2 rfl) (avg_any _ _ (hr _) (hr _) _) rfl (by decide) fun a hk => ?_
  refine r_val hk (e_move rfl) rfl (by decide) fun a hk => ?_
  refine r_val hk (e_move rfl) rfl (by decide) fun a hk => ?_
  refine r_val hk (e_add_eq ((top + 0 : Nat) : Int) rfl rfl (i64_eq (by omega) (by omega) (by omega))) rfl (by decide) fun a hk => ?_
  refine r_val hk (e_idx0 (top + 0) es22 rfl rfl rfl (by omega)) rfl (by decide) fun a hk => ?_
  refine r_val hk (e_load oc5 rfl (hm.old (i := top + 0) (by omega) (by omega))) rfl (by decide) fun a hk => ?_
  refine r_val hk (e_move rfl) rfl (by decide) fun a hk => ?_
  refine r_val hk (e_move rfl) rfl (by decide) fun a hk => ?_
  refine r_val hk (e_add_eq ((top + 4 : Nat) : Int) rfl rfl (i64_eq (by omega) (by omega) (by omega))) rfl (by decide) fun a hk => ?_
  refine r_val hk (e_idx0 (top + 4) es22 rfl rfl rfl (by omega)) rfl (by decide) fun a hk => ?_
  refine r_val hk (e_load oc5 rfl (hm.old (i := top + 4) (by omega) (by omega))) rfl (by decide) fun a hk => ?_
  refine r_call hk (c_func pf_avg2 rfl) (avg_any _ _ (hr _) (hr _) _) rfl (by decide) fun a hk => ?_
  refine r_call hk (c_func pf_avg2 rfl) (avg_any _ _ (avg_byte (hr _) (hr _)) (avg_byte (hr _) (hr _)) _) rfl (by decide) fun a hk => ?_
  refine r_val hk (e_add rfl rfl) rfl (by decide) fun a hk => ?_
  refine r_val hk (e_idx0 (p + 0) es22 rfl rfl rfl (by omega)) rfl (by decide) fun a hk => ?_
  refine u_put hk oc5 rfl rfl hm ho (by omega) rfl fun w a hk hm ho => ?_
  refine u_nil ?_
  refine k_seq ?_
  refine rgt 30 (by kernel_rfl) (by kernel_rfl) (by kernel_rfl) ?_
  replace hm := hm.drew
  replace ho := ho.drew
  refine r_val hk (e_move rfl) rfl (by decide) fun a hk => ?_
  refine r_val hk (e_move rfl) rfl (by decide) fun a hk => ?_
  refine r_val hk (e_add_eq ((p + 1 : Nat) : Int) rfl rfl (i32_eq (by omega) (by omega) (by omega))) rfl (by decide) fun a hk => ?_
  refine r_val hk (e_idx0 (p + 1) es22 rfl rfl rfl (by omega)) rfl (by decide) fun a hk => ?_
  refine r_val hk (e_load oc5 rfl (hm.old (i := p + 1) (by omega) (by omega))) rfl (by decide) fun a hk => ?_
  refine r_val hk (e_move rfl) rfl (by decide) fun a hk => ?_
  refine r_val hk (e_move rfl) rfl (by decide) fun a hk => ?_
  refine r_val hk (e_sub_eq ((p - 3 : Nat) : Int) rfl rfl (i32_eq (by omega) (by omega) (by omega))) rfl (by decide) fun a hk => ?_
  refine r_val hk (e_idx0 (p - 3) es22 rfl rfl rfl (by omega)) rfl (by decide) fun a hk => ?_
  refine r_val hk (e_load oc5 rfl (hm.old (i := p - 3) (by omega) (by omega))) rfl (by decide) fun a hk => ?_
  refine r_val hk (e_move rfl) rfl (by decide) fun a hk => ?_
  refine r_val hk (e_move rfl) rfl (by decide) fun a hk => ?_
  refine r_val hk (e_sub_eq ((top - 3 : Nat) : Int) rfl rfl (i64_eq (by omega) (by omega) (by omega))) rfl (by decide) fun a hk => ?_
  refine r_val hk (e_idx0 (top - 3) es22 rfl rfl rfl (by omega)) rfl (by decide) fun a hk => ?_
  refine r_val hk (e_load oc5 rfl (hm.old (i := top - 3) (by omega) (by omega))) rfl (by decide) fun a hk => ?_
  refine r_call hk (c_func pf_avg2 rfl) (avg_any _ _ (hr _) (hr _) _) rfl (by decide) fun a hk => ?_
  refine r_val hk (e_move rfl) rfl (by decide) fun a hk => ?_
  refine r_val hk (e_move rfl) rfl (by decide) fun a hk => ?_
  refine r_val hk (e_add_eq ((top + 1 : Nat) : Int) rfl rfl (i64_eq (by omega) (by omega) (by omega))) rfl (by decide) fun a hk => ?_
  refine r_val hk (e_idx0 (top + 1) es22 rfl rfl rfl (by omega)) rfl (by decide) fun a hk => ?_
  refine r_val hk (e_load oc5 rfl (hm.old (i := top + 1) (by omega) (by omega))) rfl (by decide) fun a hk => ?_
  refine r_val hk (e_move rfl) rfl (by decide) fun a hk => ?_
  refine r_val hk (e_move rfl) rfl (by decide) fun a hk => ?_
  refine r_val hk (e_add_eq ((top + 5 : Nat) : Int) rfl rfl (i64_eq (by omega) (by omega) (by omega))) rfl (by decide) fun a hk => ?_
  refine r_val hk (e_idx0 (top + 5) es22 rfl rfl rfl (by omega)) rfl (by decide) fun a hk => ?_
  refine r_val hk (e_load oc5 rfl (hm.old (i := top + 5) (by omega) (by omega))) rfl (by decide) fun a hk => ?_
  refine r_call hk (c_func pf_avg2 rfl) (avg_any _ _ (hr _) (hr _) _) rfl (by decide) fun a hk => ?_
  refine r_call hk (c_func pf_avg2 rfl) (avg_any _ _ (avg_byte (hr _) (hr _)) (avg_byte (hr _) (hr _)) _) rfl (by decide) fun a hk => ?_
  refine r_val hk (e_add rfl rfl) rfl (by decide) fun a hk => ?_
  refine r_val hk (e_idx0 (p + 1) es22 rfl rfl rfl (by omega)) rfl (by decide) fun a hk => ?_
  refine u_put hk oc5 rfl rfl hm ho (by omega) rfl fun w a hk hm ho => ?_
  refine u_nil ?_
  refine k_seq ?_
  refine rgt 30 (by kernel_rfl) (by kernel_rfl) (by kernel_rfl) ?_
  replace hm := hm.drew
  replace ho := ho.drew
  refine r_val hk (e_move rfl) rfl (by decide) fun a hk => ?_
  refine r_val hk (e_move rfl) rfl (by decide) fun a hk => ?_
  refine r_val hk (e_add_eq ((p + 2 : Nat) : Int) rfl rfl (i32_eq (by omega) (by omega) (by omega))) rfl (by decide) fun a hk => ?_
  refine r_val hk (e_idx0 (p + 2) es22 rfl rfl rfl (by omega)) rfl (by decide) fun a hk => ?_
  refine r_val hk (e_load oc5 rfl (hm.old (i := p + 2) (by omega) (by omega))) rfl (by decide) fun a hk => ?_
  refine r_val hk (e_move rfl) rfl (by decide) fun a hk => ?_
  refine r_val hk (e_move rfl) rfl (by decide) fun a hk => ?_
  refine r_val hk (e_sub_eq ((p - 2 : Nat) : Int) rfl rfl (i32_eq (by omega) (by omega) (by omega))) rfl (by decide) fun a hk => ?_
  refine r_val hk (e_idx0 (p - 2) es22 rfl rfl rfl (by omega)) rfl (by decide) fun a hk => ?_
  refine r_val hk (e_load oc5 rfl (hm.old (i := p - 2) (by omega) (by omega))) rfl (by decide) fun a hk => ?_
  refine r_val hk (e_move rfl) rfl (by decide) fun a hk => ?_
  refine r_val hk (e_move rfl) rfl (by decide) fun a hk => ?_
  refine r_val hk (e_sub_eq ((top - 2 : Nat) : Int) rfl rfl (i64_eq (by omega) (by omega) (by omega))) rfl (by decide) fun a hk => ?_
  refine r_val hk (e_idx0 (top - 2) es22 rfl rfl rfl (by omega)) rfl (by decide) fun a hk => ?_
  refine r_val hk (e_load oc5 rfl (hm.old (i := top - 2) (by omega) (by omega))) rfl (by decide) fun a hk => ?_
  refine r_call hk (c_func pf_avg2 rfl) (avg_any _ _ (hr _) (hr _) _) rfl (by decide) fun a hk => ?_
  refine r_val hk (e_move rfl) rfl (by decide) fun a hk => ?_
  refine r_val hk (e_move rfl) rfl (by decide) fun a hk => ?_
  refine r_val hk (e_add_eq ((top + 2 : Nat) : Int) rfl rfl (i64_eq (by omega) (by omega) (by omega))) rfl (by decide) fun a hk => ?_
  refine r_val hk (e_idx0 (top + 2) es22 rfl rfl rfl (by omega)) rfl (by decide) fun a hk => ?_
  refine r_val hk (e_load oc5 rfl (hm.old (i := top + 2) (by omega) (by omega))) rfl (by decide) fun a hk => ?_
  refine r_val hk (e_move rfl) rfl (by decide) fun a hk => ?_
  refine r_val hk (e_move rfl) rfl (by decide) fun a hk => ?_
  refine r_val hk (e_add_eq ((top + 6 : Nat) : Int) rfl rfl (i64_eq (by omega) (by omega) (by omega))) rfl (by decide) fun a hk => ?_
  refine r_val hk (e_idx0 (top + 6) es22 rfl rfl rfl (by omega)) rfl (by decide) fun a hk => ?_
  refine r_val hk (e_load oc5 rfl (hm.old (i := top + 6) (by omega) (by omega))) rfl (by decide) fun a hk => ?_
  refine r_call hk (c_func pf_avg2 rfl) (avg_any _ _ (hr _) (hr _) _) rfl (by decide) fun a hk => ?_
  refine r_call hk (c_func pf_avg2 rfl) (avg_any _ _ (avg_byte (hr _) (hr _)) (avg_byte (hr _) (hr _)) _) rfl (by decide) fun a hk => ?_
  refine r_val hk (e_add rfl rfl) rfl (by decide) fun a hk => ?_
  refine r_val hk (e_idx0 (p + 2) es22 rfl rfl rfl (by omega)) rfl (by decide) fun a hk => ?_
  refine u_put hk oc5 rfl rfl hm ho (by omega) rfl fun w a hk hm ho => ?_
  refine u_nil ?_
  refine rgt 30 (by kernel_rfl) (by kernel_rfl) (by kernel_rfl) ?_
  replace hm := hm.drew
  replace ho := ho.drew
  refine r_val hk (e_move rfl) rfl (by decide) fun a hk => ?_
  refine r_val hk (e_move rfl) rfl (by decide) fun a hk => ?_
  refine r_val hk (e_add_eq ((p + 3 : Nat) : Int) rfl rfl (i32_eq (by omega) (by omega) (by omega))) rfl (by decide) fun a hk => ?_
  refine r_val hk (e_idx0 (p + 3) es22 rfl rfl rfl (by omega)) rfl (by decide) fun a hk => ?_
  refine r_val hk (e_load oc5 rfl (hm.old (i := p + 3) (by omega) (by omega))) rfl (by decide) fun a hk => ?_
  refine r_val hk (e_move rfl) rfl (by decide) fun a hk => ?_
  refine r_val hk (e_move rfl) rfl (by decide) fun a hk => ?_
  refine r_val hk (e_sub_eq ((p - 1 : Nat) : Int) rfl rfl (i32_eq (by omega) (by omega) (by omega))) rfl (by decide) fun a hk => ?_
  refine r_val hk (e_idx0 (p - 1) es22 rfl rfl rfl (by omega)) rfl (by decide) fun a hk => ?_
  refine r_val hk (e_load oc5 rfl (hm.old (i := p - 1) (by omega) (by omega))) rfl (by decide) fun a hk => ?_
  refine r_val hk (e_move rfl) rfl (by decide) fun a hk => ?_
  refine r_val hk (e_move rfl) rfl (by decide) fun a hk => ?_
  refine r_val hk (e_sub_eq ((top - 1 : Nat) : Int) rfl rfl (i64_eq (by omega) (by omega) (by omega))) rfl (by decide) fun a hk => ?_
  refine r_val hk (e_idx0 (top - 1) es22 rfl rfl rfl (by omega)) rfl (by decide) fun a hk => ?_
  refine r_val hk (e_load oc5 rfl (hm.old (i := top - 1) (by omega) (by omega))) rfl (by decide) fun a hk => ?_
  refine r_call hk (c_func pf_avg2 rfl) (avg_any _ _ (hr _) (hr _) _) rfl (by decide) fun a hk => ?_
  refine r_val hk (e_move rfl) rfl (by decide) fun a hk => ?_
  refine r_val hk (e_move rfl) rfl (by decide) fun a hk => ?_
  refine r_val hk (e_add_eq ((top + 3 : Nat) : Int) rfl rfl (i64_eq (by omega) (by omega) (by omega))) rfl (by decide) fun a hk => ?_
  refine r_val hk (e_idx0 (top + 3) es22 rfl rfl rfl (by omega)) rfl (by decide) fun a hk => ?_
  refine r_val hk (e_load oc5 rfl (hm.old (i := top + 3) (by omega) (by omega))) rfl (by decide) fun a hk => ?_
  refine r_val hk (e_move rfl) rfl (by decide) fun a hk => ?_
  refine r_val hk (e_move rfl) rfl (by decide) fun a hk => ?_
  refine r_val hk (e_add_eq ((top + 7 : Nat) : Int) rfl rfl (i64_eq (by omega) (by omega) (by omega))) rfl (by decide) fun a hk => ?_
  refine r_val hk (e_idx0 (top + 7) es22 rfl rfl rfl (by omega)) rfl (by decide) fun a hk => ?_
  refine r_val hk (e_load oc5 rfl (hm.old (i := top + 7) (by omega) (by omega))) rfl (by decide) fun a hk => ?_
  refine r_call hk (c_func pf_avg2 rfl) (avg_any _ _ (hr _) (hr _) _) rfl (by decide) fun a hk => ?_
  refine r_call hk (c_func pf_avg2 rfl) (avg_any _ _ (avg_byte (hr _) (hr _)) (avg_byte (hr _) (hr _)) _) rfl (by decide) fun a hk => ?_
  refine r_val hk (e_add rfl rfl) rfl (by decide) fun a hk => ?_
  refine r_val hk (e_idx0 (p + 3) es22 rfl rfl rfl (by omega)) rfl (by decide) fun a hk => ?_
  refine u_put hk oc5 rfl rfl hm ho (by omega) rfl fun w a hk hm ho => ?_
  refine u_nil ?_
  exact hQ _ _ (hk.sub (Sub.cons rfl (Sub.cons rfl (Sub.cons rfl (Sub.cons rfl (Sub.cons rfl (Sub.cons rfl (Sub.cons rfl (Sub.cons rfl (Sub.cons rfl (Sub.cons rfl (Sub.cons rfl (Sub.nil _))))))))))))) hm.mem ho

set_option maxRecDepth 100000 in
theorem sw_11 {Q : Exit → Act → World → Prop} {a : Act} {w w0 : World} {v0 v2 v8 v11 v12 v13 v15 : Value} {pb len cap p top : Nat} {px : Nat → Int}
    (hk : Kn 1328 (L v0 (.slice (some ⟨pb, 0, none⟩) len cap) v2 (.int .i32 (p : Int)) v8 (.int .i64 (top : Int)) v11 v12 v13 (.int .u8 (11 : Int)) v15) a)
    (hm : Mem w pb len px) (ho : Only pb w0 w) (hr : ∀ i, isByte (px i)) (h4 : 4 ≤ p) (ht : 4 ≤ top) (htp : top + 8 ≤ p) (hl : p + 4 ≤ len) (hlen : len ≤ 1073741824)
    (hQ : ∀ a' w', Kn 1328 (L v0 (.slice (some ⟨pb, 0, none⟩) len cap) v2 (.int .i32 (p : Int)) v8 (.int .i64 (top : Int)) v11 v12 v13 (.int .u8 (11 : Int)) v15) a' → Mem w' pb len (step px p (predV 11 px p top)) → Only pb w0 w' → Q .normal a' w') :
    swCode.wp Try.prog Q a w := by
  unfold swCode ipBody
  conv => arg 2; whnf
  refine k_seq ?_
  refine rg (by kernel_rfl) ?_
  refine u_val hk (e_move rfl) rfl (by decide) fun a hk => ?_
  refine u_nil ?_
  refine wp_block ?_
  refine k_seq ?_
  refine rg (by kernel_rfl) ?_
  refine u_val hk (e_eqlF rfl rfl (by decide)) rfl (by decide) fun a hk => ?_
  refine u_val hk (e_assign rfl) rfl (by decide) fun a hk => ?_
  refine u_nil ?_
  refine k_false hk rfl ?_
  refine k_seq ?_
  refine rg (by kernel_rfl) ?_
  refine u_val hk (e_eqlF rfl rfl (by decide)) rfl (by decide) fun a hk => ?_
  refine u_val hk (e_assign rfl) rfl (by decide) fun a hk => ?_
  refine u_nil ?_
  refine k_false hk rfl ?_
  refine k_seq ?_
  refine rg (by kernel_rfl) ?_
  refine u_val hk (e_eqlF rfl rfl (by decide)) rfl (by decide) fun a hk => ?_
  refine u_val hk (e_assign rfl) rfl (by decide) fun a hk => ?_
  refine u_nil ?_
  refine k_false hk rfl ?_
  refine k_seq ?_
  refine rg (by kernel_rfl) ?_
  refine u_val hk (e_eqlF rfl rfl (by decide)) rfl (by decide) fun a hk => ?_
  refine u_val hk (e_assign rfl) rfl (by decide) fun a hk => ?_
  refine u_nil ?_
  refine k_false hk rfl ?_
  refine k_seq ?_
  refine rg (by kernel_rfl) ?_
  refine u_val hk (e_eqlF rfl rfl (by decide)) rfl (by decide) fun a hk => ?_
  refine u_val hk (e_assign rfl) rfl (by decide) fun a hk => ?_
  refine u_nil ?_
  refine k_false hk rfl ?_
  refine k_seq ?_
  refine rg (by kernel_rfl) ?_
  refine u_val hk (e_eqlF rfl rfl (by decide)) rfl (by decide) fun a hk => ?_
  refine u_val hk (e_assign rfl) rfl (by decide) fun a hk => ?_
  refine u_nil ?_
  refine k_false hk rfl ?_
  refine k_seq ?_
  refine rg (by kernel_rfl) ?_
  refine u_val hk (e_eqlF rfl rfl (by decide)) rfl (by decide) fun a hk => ?_
  refine u_val hk (e_assign rfl) rfl (by decide) fun a hk => ?_
  refine u_nil ?_
  refine k_false hk rfl ?_
  refine k_seq ?_
  refine rg (by kernel_rfl) ?_
  refine u_val hk (e_eqlF rfl rfl (by decide)) rfl (by decide) fun a hk => ?_
  refine u_val hk (e_assign rfl) rfl (by decide) fun a hk => ?_
  refine u_nil ?_
  refine k_false hk rfl ?_
  refine k_seq ?_
  refine rg (by kernel_rfl) ?_
  refine u_val hk (e_eqlF rfl rfl (by decide)) rfl (by decide) fun a hk => ?_
  refine u_val hk (e_assign rfl) rfl (by decide) fun a hk => ?_
  refine u_nil ?_
  refine k_false hk rfl ?_
  refine k_seq ?_
  refine rg (by kernel_rfl) ?_
  refine u_val hk (e_eqlF rfl rfl (by decide)) rfl (by decide) fun a hk => ?_
  refine u_val hk (e_assign rfl) rfl (by decide) fun a hk => ?_
  refine u_nil ?_
  refine k_false hk rfl ?_
  refine k_seq ?_
  refine rg (by kernel_rfl) ?_
  refine u_val hk (e_eqlF rfl rfl (by decide)) rfl (by decide) fun a hk => ?_
  refine u_val hk (e_assign rfl) rfl (by decide) fun a hk => ?_
  refine u_nil ?_
  refine k_false hk rfl ?_
  refine k_seq ?_
  refine rg (by kernel_rfl) ?_
  refine u_val hk (e_eqlT rfl rfl (by decide)) rfl (by decide) fun a hk => ?_
  refine u_val hk (e_assign rfl) rfl (by decide) fun a hk => ?_
  refine u_nil ?_
  refine k_true hk rfl ?_
  replace hm := hm.pm p (fun j => IntKind.u8.wrap (px (p + j) + predV 11 px p top j))
  have g0 := iabs_rng (hr (top - 4)) (hr (top + 0))
  have g1 := iabs_rng (hr (top - 3)) (hr (top + 1))
  have g2 := iabs_rng (hr (top - 2)) (hr (top + 2))
  have g3 := iabs_rng (hr (top - 1)) (hr (top + 3))
  have g4 := iabs_rng (hr (top - 4)) (hr (p - 4))
  have g5 := iabs_rng (hr (top - 3)) (hr (p - 3))
  have g6 := iabs_rng (hr (top - 2)) (hr (p - 2))
  have g7 := iabs_rng (hr (top - 1)) (hr (p - 1))
  refine k_seq ?_
  refine rg (by kernel_rfl) ?_
  refine u_val hk (e_move rfl) rfl (by decide) fun a hk => ?_
  refine u_val hk (e_move rfl) rfl (by decide) fun a hk => ?_
  refine u_val hk (e_sub_eq ((p - 4 : Nat) : Int) rfl rfl (i32_eq (by omega) (by omega) (by omega))) rfl (by decide) fun a hk => ?_
  refine u_val hk (e_idx0 (p - 4) es22 rfl rfl rfl (by omega)) rfl (by decide) fun a hk => ?_
  refine u_val hk (e_load oc5 rfl (hm.old (i := p - 4) (by omega) (by omega))) rfl (by decide) fun a hk => ?_
  refine u_val hk (e_conv_eq _ ti5_21 rfl (byte_i32 (hr _))) rfl (by decide) fun a hk => ?_
  refine u_val hk (e_assign rfl) rfl (by decide) fun a hk => ?_
  refine u_nil ?_
  refine k_seq ?_
  refine rg (by kernel_rfl) ?_
  refine u_val hk (e_move rfl) rfl (by decide) fun a hk => ?_
  refine u_val hk (e_move rfl) rfl (by decide) fun a hk => ?_
  refine u_val hk (e_sub_eq ((p - 3 : Nat) : Int) rfl rfl (i32_eq (by omega) (by omega) (by omega))) rfl (by decide) fun a hk => ?_
  refine u_val hk (e_idx0 (p - 3) es22 rfl rfl rfl (by omega)) rfl (by decide) fun a hk => ?_
  refine u_val hk (e_load oc5 rfl (hm.old (i := p - 3) (by omega) (by omega))) rfl (by decide) fun a hk => ?_
  refine u_val hk (e_conv_eq _ ti5_21 rfl (byte_i32 (hr _))) rfl (by decide) fun a hk => ?_
  refine u_val hk (e_assign rfl) rfl (by decide) fun a hk => ?_
  refine u_nil ?_
  refine k_seq ?_
  refine rg (by kernel_rfl) ?_
  refine u_val hk (e_move rfl) rfl (by decide) fun a hk => ?_
  refine u_val hk (e_move rfl) rfl (by decide) fun a hk => ?_
  refine u_val hk (e_sub_eq ((p - 2 : Nat) : Int) rfl rfl (i32_eq (by omega) (by omega) (by omega))) rfl (by decide) fun a hk => ?_
  refine u_val hk (e_idx0 (p - 2) es22 rfl rfl rfl (by omega)) rfl (by decide) fun a hk => ?_
  refine u_val hk (e_load oc5 rfl (hm.old (i := p - 2) (by omega) (by omega))) rfl (by decide) fun a hk => ?_
  refine u_val hk (e_conv_eq _ ti5_21 rfl (byte_i32 (hr _))) rfl (by decide) fun a hk => ?_
  refine u_val hk (e_assign rfl) rfl (by decide) fun a hk => ?_
  refine u_nil ?_
  refine k_seq ?_
  refine rg (by kernel_rfl) ?_
  refine u_val hk (e_move rfl) rfl (by decide) fun a hk => ?_
  refine u_val hk (e_move rfl) rfl (by decide) fun a hk => ?_
  refine u_val hk (e_sub_eq ((p - 1 : Nat) : Int) rfl rfl (i32_eq (by omega) (by omega) (by omega))) rfl (by decide) fun a hk => ?_
  refine u_val hk (e_idx0 (p - 1) es22 rfl rfl rfl (by omega)) rfl (by decide) fun a hk => ?_
  refine u_val hk (e_load oc5 rfl (hm.old (i := p - 1) (by omega) (by omega))) rfl (by decide) fun a hk => ?_
  refine u_val hk (e_conv_eq _ ti5_21 rfl (byte_i32 (hr _))) rfl (by decide) fun a hk => ?_
  refine u_val hk (e_assign rfl) rfl (by decide) fun a hk => ?_
  refine u_nil ?_
  refine k_seq ?_
  refine rg (by kernel_rfl) ?_
  refine u_val hk (e_move rfl) rfl (by decide) fun a hk => ?_
  refine u_val hk (e_move rfl) rfl (by decide) fun a hk => ?_
  refine u_val hk (e_sub_eq ((top - 4 : Nat) : Int) rfl rfl (i64_eq (by omega) (by omega) (by omega))) rfl (by decide) fun a hk => ?_
  refine u_val hk (e_idx0 (top - 4) es22 rfl rfl rfl (by omega)) rfl (by decide) fun a hk => ?_
  refine u_val hk (e_load oc5 rfl (hm.old (i := top - 4) (by omega) (by omega))) rfl (by decide) fun a hk => ?_
  refine u_val hk (e_conv_eq _ ti5_21 rfl (byte_i32 (hr _))) rfl (by decide) fun a hk => ?_
  refine u_val hk (e_assign rfl) rfl (by decide) fun a hk => ?_
  refine u_nil ?_
  refine k_seq ?_
  refine rg (by kernel_rfl) ?_
  refine u_val hk (e_move rfl) rfl (by decide) fun a hk => ?_
  refine u_val hk (e_move rfl) rfl (by decide) fun a hk => ?_
  refine u_val hk (e_sub_eq ((top - 3 : Nat) : Int) rfl rfl (i64_eq (by omega) (by omega) (by omega))) rfl (by decide) fun a hk => ?_
  refine u_val hk (e_idx0 (top - 3) es22 rfl rfl rfl (by omega)) rfl (by decide) fun a hk => ?_
  refine u_val hk (e_load oc5 rfl (hm.old (i := top - 3) (by omega) (by omega))) rfl (by decide) fun a hk => ?_
  refine u_val hk (e_conv_eq _ ti5_21 rfl (byte_i32 (hr _))) rfl (by decide) fun a hk => ?_
  refine u_val hk (e_assign rfl) rfl (by decide) fun a hk => ?_
  refine u_nil ?_
  refine k_seq ?_
  refine rg (by kernel_rfl) ?_
  refine u_val hk (e_move rfl) rfl (by decide) fun a hk => ?_
  refine u_val hk (e_move rfl) rfl (by decide) fun a hk => ?_
  refine u_val hk (e_sub_eq ((top - 2 : Nat) : Int) rfl rfl (i64_eq (by omega) (by omega) (by omega))) rfl (by decide) fun a hk => ?_
  refine u_val hk (e_idx0 (top - 2) es22 rfl rfl rfl (by omega)) rfl (by decide) fun a hk => ?_
  refine u_val hk (e_load oc5 rfl (hm.old (i := top - 2) (by omega) (by omega))) rfl (by decide) fun a hk => ?_
  refine u_val hk (e_conv_eq _ ti5_21 rfl (byte_i32 (hr _))) rfl (by decide) fun a hk => ?_
  refine u_val hk (e_assign rfl) rfl (by decide) fun a hk => ?_
  refine u_nil ?_
  refine k_seq ?_
  refine rg (by kernel_rfl) ?_
  refine u_val hk (e_move rfl) rfl (by decide) fun a hk => ?_
  refine u_val hk (e_move rfl) rfl (by decide) fun a hk => ?_
  refine u_val hk (e_sub_eq ((top - 1 : Nat) : Int) rfl rfl (i64_eq (by omega) (by omega) (by omega))) rfl (by decide) fun a hk => ?_
  refine u_val hk (e_idx0 (top - 1) es22 rfl rfl rfl (by omega)) rfl (by decide) fun a hk => ?_
  refine u_val hk (e_load oc5 rfl (hm.old (i := top - 1) (by omega) (by omega))) rfl (by decide) fun a hk => ?_
  refine u_val hk (e_conv_eq _ ti5_21 rfl (byte_i32 (hr _))) rfl (by decide) fun a hk => ?_
  refine u_val hk (e_assign rfl) rfl (by decide) fun a hk => ?_
  refine u_nil ?_
  refine k_seq ?_
  refine rg (by kernel_rfl) ?_
  refine u_val hk (e_move rfl) rfl (by decide) fun a hk => ?_
  refine u_val hk (e_move rfl) rfl (by decide) fun a hk => ?_
  refine u_val hk (e_add_eq ((top + 0 : Nat) : Int) rfl rfl (i64_eq (by omega) (by omega) (by omega))) rfl (by decide) fun a hk => ?_
  refine u_val hk (e_idx0 (top + 0) es22 rfl rfl rfl (by omega)) rfl (by decide) fun a hk => ?_
  refine u_val hk (e_load oc5 rfl (hm.old (i := top + 0) (by omega) (by omega))) rfl (by decide) fun a hk => ?_
  refine u_val hk (e_conv_eq _ ti5_21 rfl (byte_i32 (hr _))) rfl (by decide) fun a hk => ?_
  refine u_val hk (e_assign rfl) rfl (by decide) fun a hk => ?_
  refine u_nil ?_
  refine k_seq ?_
  refine rg (by kernel_rfl) ?_
  refine u_val hk (e_move rfl) rfl (by decide) fun a hk => ?_
  refine u_val hk (e_move rfl) rfl (by decide) fun a hk => ?_
  refine u_val hk (e_add_eq ((top + 1 : Nat) : Int) rfl rfl (i64_eq (by omega) (by omega) (by omega))) rfl (by decide) fun a hk => ?_
  refine u_val hk (e_idx0 (top + 1) es22 rfl rfl rfl (by omega)) rfl (by decide) fun a hk => ?_
  refine u_val hk (e_load oc5 rfl (hm.old (i := top + 1) (by omega) (by omega))) rfl (by decide) fun a hk => ?_
  refine u_val hk (e_conv_eq _ ti5_21 rfl (byte_i32 (hr _))) rfl (by decide) fun a hk => ?_
  refine u_val hk (e_assign rfl) rfl (by decide) fun a hk => ?_
  refine u_nil ?_
  refine k_seq ?_
  refine rg (by kernel_rfl) ?_
  refine u_val hk (e_move rfl) rfl (by decide) fun a hk => ?_
  refine u_val hk (e_move rfl) rfl (by decide) fun a hk => ?_
  refine u_val hk (e_add_eq ((top + 2 : Nat) : Int) rfl rfl (i64_eq (by omega) (by omega) (by omega))) rfl (by decide) fun a hk => ?_
  refine u_val hk (e_idx0 (top + 2) es22 rfl rfl rfl (by omega)) rfl (by decide) fun a hk => ?_
  refine u_val hk (e_load oc5 rfl (hm.old (i := top + 2) (by omega) (by omega))) rfl (by decide) fun a hk => ?_
  refine u_val hk (e_conv_eq _ ti5_21 rfl (byte_i32 (hr _))) rfl (by decide) fun a hk => ?_
  refine u_val hk (e_assign rfl) rfl (by decide) fun a hk => ?_
  refine u_nil ?_
  refine k_seq ?_
  refine rg (by kernel_rfl) ?_
  refine u_val hk (e_move rfl) rfl (by decide) fun a hk => ?_
  refine u_val hk (e_move rfl) rfl (by decide) fun a hk => ?_
  refine u_val hk (e_add_eq ((top + 3 : Nat) : Int) rfl rfl (i64_eq (by omega) (by omega) (by omega))) rfl (by decide) fun a hk => ?_
  refine u_val hk (e_idx0 (top + 3) es22 rfl rfl rfl (by omega)) rfl (by decide) fun a hk => ?_
  refine u_val hk (e_load oc5 rfl (hm.old (i := top + 3) (by omega) (by omega))) rfl (by decide) fun a hk => ?_
  refine u_val hk (e_conv_eq _ ti5_21 rfl (byte_i32 (hr _))) rfl (by decide) fun a hk => ?_
  refine u_val hk (e_assign rfl) rfl (by decide) fun a hk => ?_
  refine u_nil ?_
  refine k_seq ?_
  refine rg (by kernel_rfl) ?_
  refine u_val hk (e_move rfl) rfl (by decide) fun a hk => ?_
  refine u_val hk (e_move rfl) rfl (by decide) fun a hk => ?_
  refine u_val hk (e_sub_eq _ rfl rfl (sub_i32 (hr _) (hr _))) rfl (by decide) fun a hk => ?_
  refine u_qcall hk (c_func pf_abs rfl) (abs_byte (hr _) (hr _) _) rfl (by decide) fun a hk => ?_
  refine u_val hk (e_move rfl) rfl (by decide) fun a hk => ?_
  refine u_val hk (e_move rfl) rfl (by decide) fun a hk => ?_
  refine u_val hk (e_sub_eq _ rfl rfl (sub_i32 (hr _) (hr _))) rfl (by decide) fun a hk => ?_
  refine u_qcall hk (c_func pf_abs rfl) (abs_byte (hr _) (hr _) _) rfl (by decide) fun a hk => ?_
  refine u_val hk (e_add_eq _ rfl rfl (i32_eq rfl (by omega) (by omega))) rfl (by decide) fun a hk => ?_
  refine u_val hk (e_move rfl) rfl (by decide) fun a hk => ?_
  refine u_val hk (e_move rfl) rfl (by decide) fun a hk => ?_
  refine u_val hk (e_sub_eq _ rfl rfl (sub_i32 (hr _) (hr _))) rfl (by decide) fun a hk => ?_
  refine u_qcall hk (c_func pf_abs rfl) (abs_byte (hr _) (hr _) _) rfl (by decide) fun a hk => ?_
  refine u_val hk (e_add_eq _ rfl rfl (i32_eq rfl (by omega) (by omega))) rfl (by decide) fun a hk => ?_
  refine u_val hk (e_move rfl) rfl (by decide) fun a hk => ?_
  refine u_val hk (e_move rfl) rfl (by decide) fun a hk => ?_
  refine u_val hk (e_sub_eq _ rfl rfl (sub_i32 (hr _) (hr _))) rfl (by decide) fun a hk => ?_
  refine u_qcall hk (c_func pf_abs rfl) (abs_byte (hr _) (hr _) _) rfl (by decide) fun a hk => ?_
  refine u_val hk (e_add_eq _ rfl rfl (i32_eq rfl (by omega) (by omega))) rfl (by decide) fun a hk => ?_
  refine u_val hk (e_assign rfl) rfl (by decide) fun a hk => ?_
  refine u_nil ?_
  refine k_seq ?_
  refine rg (by kernel_rfl) ?_
  refine u_val hk (e_move rfl) rfl (by decide) fun a hk => ?_
  refine u_val hk (e_move rfl) rfl (by decide) fun a hk => ?_
  refine u_val hk (e_sub_eq _ rfl rfl (sub_i32 (hr _) (hr _))) rfl (by decide) fun a hk => ?_
  refine u_qcall hk (c_func pf_abs rfl) (abs_byte (hr _) (hr _) _) rfl (by decide) fun a hk => ?_
  refine u_val hk (e_move rfl) rfl (by decide) fun a hk => ?_
  refine u_val hk (e_move rfl) rfl (by decide) fun a hk => ?_
  refine u_val hk (e_sub_eq _ rfl rfl (sub_i32 (hr _) (hr _))) rfl (by decide) fun a hk => ?_
  refine u_qcall hk (c_func pf_abs rfl) (abs_byte (hr _) (hr _) _) rfl (by decide) fun a hk => ?_
  refine u_val hk (e_add_eq _ rfl rfl (i32_eq rfl (by omega) (by omega))) rfl (by decide) fun a hk => ?_
  refine u_val hk (e_move rfl) rfl (by decide) fun a hk => ?_
  refine u_val hk (e_move rfl) rfl (by decide) fun a hk => ?_
  refine u_val hk (e_sub_eq _ rfl rfl (sub_i32 (hr _) (hr _))) rfl (by decide) fun a hk => ?_
  refine u_qcall hk (c_func pf_abs rfl) (abs_byte (hr _) (hr _) _) rfl (by decide) fun a hk => ?_
  refine u_val hk (e_add_eq _ rfl rfl (i32_eq rfl (by omega) (by omega))) rfl (by decide) fun a hk => ?_
  refine u_val hk (e_move rfl) rfl (by decide) fun a hk => ?_
  refine u_val hk (e_move rfl) rfl (by decide) fun a hk => ?_
  refine u_val hk (e_sub_eq _ rfl rfl (sub_i32 (hr _) (hr _))) rfl (by decide) fun a hk => ?_
  refine u_qcall hk (c_func pf_abs rfl) (abs_byte (hr _) (hr _) _) rfl (by decide) fun a hk => ?_
  refine u_val hk (e_add_eq _ rfl rfl (i32_eq rfl (by omega) (by omega))) rfl (by decide) fun a hk => ?_
  refine u_val hk (e_assign rfl) rfl (by decide) fun a hk => ?_
  refine u_nil ?_
  refine k_seq ?_
  by_cases hs : selL px p top
  · have hs' := hs
    unfold selL at hs'
    refine rg (by kernel_rfl) ?_
    refine u_val hk (e_move rfl) rfl (by decide) fun a hk => ?_
    refine u_val hk (e_move rfl) rfl (by decide) fun a hk => ?_
    refine u_val hk (e_lssT rfl rfl (by first | exact hs' | omega)) rfl (by decide) fun a hk => ?_
    refine u_nil ?_
    refine k_true hk rfl ?_
    clear hs'
    replace hm : PM w pb len px p 0 (fun j => IntKind.u8.wrap (px (p + j) + px (p - (4 - j)))) := by
      have e : (fun j => IntKind.u8.wrap (px (p + j) + predV 11 px p top j)) = (fun j => IntKind.u8.wrap (px (p + j) + px (p - (4 - j)))) := by funext j; show IntKind.u8.wrap (px (p + j) + if selL px p top then px (p - (4 - j)) else px (top + j)) = _; rw [if_pos hs]
      rw [← e]; exact hm
    refine k_seq ?_
    refine rg (by kernel_rfl) ?_
    refine u_val hk (e_move rfl) rfl (by decide) fun a hk => ?_
    refine u_val hk (e_move rfl) rfl (by decide) fun a hk => ?_
    refine u_val hk (e_add_eq ((p + 0 : Nat) : Int) rfl rfl (i32_eq (by omega) (by omega) (by omega))) rfl (by decide) fun a hk => ?_
    refine u_val hk (e_idx0 (p + 0) es22 rfl rfl rfl (by omega)) rfl (by decide) fun a hk => ?_
    refine u_val hk (e_load oc5 rfl (hm.old (i := p + 0) (by omega) (by omega))) rfl (by decide) fun a hk => ?_
    refine u_val hk (e_move rfl) rfl (by decide) fun a hk => ?_
    refine u_val hk (e_conv_eq _ ti21_5 rfl (byte_u8 (hr _))) rfl (by decide) fun a hk => ?_
    refine u_val hk (e_add rfl rfl) rfl (by decide) fun a hk => ?_
    refine u_val hk (e_idx0 (p + 0) es22 rfl rfl rfl (by omega)) rfl (by decide) fun a hk => ?_
    refine u_put hk oc5 rfl rfl hm ho (by omega) rfl fun w a hk hm ho => ?_
    refine u_nil ?_
    refine k_seq ?_
    refine rg (by kernel_rfl) ?_
    refine u_val hk (e_move rfl) rfl (by decide) fun a hk => ?_
    refine u_val hk (e_move rfl) rfl (by decide) fun a hk => ?_
    refine u_val hk (e_add_eq ((p + 1 : Nat) : Int) rfl rfl (i32_eq (by omega) (by omega) (by omega))) rfl (by decide) fun a hk => ?_
    refine u_val hk (e_idx0 (p + 1) es22 rfl rfl rfl (by omega)) rfl (by decide) fun a hk => ?_
    refine u_val hk (e_load oc5 rfl (hm.old (i := p + 1) (by omega) (by omega))) rfl (by decide) fun a hk => ?_
    refine u_val hk (e_move rfl) rfl (by decide) fun a hk => ?_
    refine u_val hk (e_conv_eq _ ti21_5 rfl (byte_u8 (hr _))) rfl (by decide) fun a hk => ?_
    refine u_val hk (e_add rfl rfl) rfl (by decide) fun a hk => ?_
    refine u_val hk (e_idx0 (p + 1) es22 rfl rfl rfl (by omega)) rfl (by decide) fun a hk => ?_
    refine u_put hk oc5 rfl rfl hm ho (by omega) rfl fun w a hk hm ho => ?_
    refine u_nil ?_
    refine k_seq ?_
    refine rg (by kernel_rfl) ?_
    refine u_val hk (e_move rfl) rfl (by decide) fun a hk => ?_
    refine u_val hk (e_move rfl) rfl (by decide) fun a hk => ?_
    refine u_val hk (e_add_eq ((p + 2 : Nat) : Int) rfl rfl (i32_eq (by omega) (by omega) (by omega))) rfl (by decide) fun a hk => ?_
    refine u_val hk (e_idx0 (p + 2) es22 rfl rfl rfl (by omega)) rfl (by decide) fun a hk => ?_
    refine u_val hk (e_load oc5 rfl (hm.old (i := p + 2) (by omega) (by omega))) rfl (by decide) fun a hk => ?_
    refine u_val hk (e_move rfl) rfl (by decide) fun a hk => ?_
    refine u_val hk (e_conv_eq _ ti21_5 rfl (byte_u8 (hr _))) rfl (by decide) fun a hk => ?_
    refine u_val hk (e_add rfl rfl) rfl (by decide) fun a hk => ?_
    refine u_val hk (e_idx0 (p + 2) es22 rfl rfl rfl (by omega)) rfl (by decide) fun a hk => ?_
    refine u_put hk oc5 rfl rfl hm ho (by omega) rfl fun w a hk hm ho => ?_
    refine u_nil ?_
    refine rg (by kernel_rfl) ?_
    refine u_val hk (e_move rfl) rfl (by decide) fun a hk => ?_
    refine u_val hk (e_move rfl) rfl (by decide) fun a hk => ?_
    refine u_val hk (e_add_eq ((p + 3 : Nat) : Int) rfl rfl (i32_eq (by omega) (by omega) (by omega))) rfl (by decide) fun a hk => ?_
    refine u_val hk (e_idx0 (p + 3) es22 rfl rfl rfl (by omega)) rfl (by decide) fun a hk => ?_
    refine u_val hk (e_load oc5 rfl (hm.old (i := p + 3) (by omega) (by omega))) rfl (by decide) fun a hk => ?_
    refine u_val hk (e_move rfl) rfl (by decide) fun a hk => ?_
    refine u_val hk (e_conv_eq _ ti21_5 rfl (byte_u8 (hr _))) rfl (by decide) fun a hk => ?_
    refine u_val hk (e_add rfl rfl) rfl (by decide) fun a hk => ?_
    refine u_val hk (e_idx0 (p + 3) es22 rfl rfl rfl (by omega)) rfl (by decide) fun a hk => ?_
    refine u_put hk oc5 rfl rfl hm ho (by omega) rfl fun w a hk hm ho => ?_
    refine u_nil ?_
    have e : (fun j => IntKind.u8.wrap (px (p + j) + px (p - (4 - j)))) = (fun j => IntKind.u8.wrap (px (p + j) + predV 11 px p top j)) := by funext j; show _ = IntKind.u8.wrap (px (p + j) + if selL px p top then px (p - (4 - j)) else px (top + j)); rw [if_pos hs]
    rw [e] at hm
    exact hQ _ _ (hk.sub (Sub.cons rfl (Sub.cons rfl (Sub.cons rfl (Sub.cons rfl (Sub.cons rfl (Sub.cons rfl (Sub.cons rfl (Sub.cons rfl (Sub.cons rfl (Sub.cons rfl (Sub.cons rfl (Sub.nil _))))))))))))) hm.mem ho
  · have hs' := hs
    unfold selL at hs'
    refine rg (by kernel_rfl) ?_
    refine u_val hk (e_move rfl) rfl (by decide) fun a hk => ?_
    refine u_val hk (e_move rfl) rfl (by decide) fun a hk => ?_
    refine u_val hk (e_lssF rfl rfl (by first | exact hs' | omega)) rfl (by decide) fun a hk => ?_
    refine u_nil ?_
    refine k_false hk rfl ?_
    clear hs'
    replace hm : PM w pb len px p 0 (fun j => IntKind.u8.wrap (px (p + j) + px (top + j))) := by
      have e : (fun j => IntKind.u8.wrap (px (p + j) + predV 11 px p top j)) = (fun j => IntKind.u8.wrap (px (p + j) + px (top + j))) := by funext j; show IntKind.u8.wrap (px (p + j) + if selL px p top then px (p - (4 - j)) else px (top + j)) = _; rw [if_neg hs]
      rw [← e]; exact hm
    refine k_seq ?_
    refine rg (by kernel_rfl) ?_
    refine u_val hk (e_move rfl) rfl (by decide) fun a hk => ?_
    refine u_val hk (e_move rfl) rfl (by decide) fun a hk => ?_
    refine u_val hk (e_add_eq ((p + 0 : Nat) : Int) rfl rfl (i32_eq (by omega) (by omega) (by omega))) rfl (by decide) fun a hk => ?_
    refine u_val hk (e_idx0 (p + 0) es22 rfl rfl rfl (by omega)) rfl (by decide) fun a hk => ?_
    refine u_val hk (e_load oc5 rfl (hm.old (i := p + 0) (by omega) (by omega))) rfl (by decide) fun a hk => ?_
    refine u_val hk (e_move rfl) rfl (by decide) fun a hk => ?_
    refine u_val hk (e_conv_eq _ ti21_5 rfl (byte_u8 (hr _))) rfl (by decide) fun a hk => ?_
    refine u_val hk (e_add rfl rfl) rfl (by decide) fun a hk => ?_
    refine u_val hk (e_idx0 (p + 0) es22 rfl rfl rfl (by omega)) rfl (by decide) fun a hk => ?_
    refine u_put hk oc5 rfl rfl hm ho (by omega) rfl fun w a hk hm ho => ?_
    refine u_nil ?_
    refine k_seq ?_
    refine rg (by kernel_rfl) ?_
    refine u_val hk (e_move rfl) rfl (by decide) fun a hk => ?_
    refine u_val hk (e_move rfl) rfl (by decide) fun a hk => ?_
    refine u_val hk (e_add_eq ((p + 1 : Nat) : Int) rfl rfl (i32_eq (by omega) (by omega) (by omega))) rfl (by decide) fun a hk => ?_
    refine u_val hk (e_idx0 (p + 1) es22 rfl rfl rfl (by omega)) rfl (by decide) fun a hk => ?_
    refine u_val hk (e_load oc5 rfl (hm.old (i := p + 1) (by omega) (by omega))) rfl (by decide) fun a hk => ?_
    refine u_val hk (e_move rfl) rfl (by decide) fun a hk => ?_
    refine u_val hk (e_conv_eq _ ti21_5 rfl (byte_u8 (hr _))) rfl (by decide) fun a hk => ?_
    refine u_val hk (e_add rfl rfl) rfl (by decide) fun a hk => ?_
    refine u_val hk (e_idx0 (p + 1) es22 rfl rfl rfl (by omega)) rfl (by decide) fun a hk => ?_
    refine u_put hk oc5 rfl rfl hm ho (by omega) rfl fun w a hk hm ho => ?_
    refine u_nil ?_
    refine k_seq ?_
    refine rg (by kernel_rfl) ?_
    refine u_val hk (e_move rfl) rfl (by decide) fun a hk => ?_
    refine u_val hk (e_move rfl) rfl (by decide) fun a hk => ?_
    refine u_val hk (e_add_eq ((p + 2 : Nat) : Int) rfl rfl (i32_eq (by omega) (by omega) (by omega))) rfl (by decide) fun a hk => ?_
    refine u_val hk (e_idx0 (p + 2) es22 rfl rfl rfl (by omega)) rfl (by decide) fun a hk => ?_
    refine u_val hk (e_load oc5 rfl (hm.old (i := p + 2) (by omega) (by omega))) rfl (by decide) fun a hk => ?_
    refine u_val hk (e_move rfl) rfl (by decide) fun a hk => ?_
    refine u_val hk (e_conv_eq _ ti21_5 rfl (byte_u8 (hr _))) rfl (by decide) fun a hk => ?_
    refine u_val hk (e_add rfl rfl) rfl (by decide) fun a hk => ?_
    refine u_val hk (e_idx0 (p + 2) es22 rfl rfl rfl (by omega)) rfl (by decide) fun a hk => ?_
    refine u_put hk oc5 rfl rfl hm ho (by omega) rfl fun w a hk hm ho => ?_
    refine u_nil ?_
    refine rg (by kernel_rfl) ?_
    refine u_val hk (e_move rfl) rfl (by decide) fun a hk => ?_
    refine u_val hk (e_move rfl) rfl (by decide) fun a hk => ?_
    refine u_val hk (e_add_eq ((p + 3 : Nat) : Int) rfl rfl (i32_eq (by omega) (by omega) (by omega))) rfl (by decide) fun a hk => ?_
    refine u_val hk (e_idx0 (p + 3) es22 rfl rfl rfl (by omega)) rfl (by decide) fun a hk => ?_
    refine u_val hk (e_load oc5 rfl (hm.old (i := p + 3) (by omega) (by omega))) rfl (by decide) fun a hk => ?_
    refine u_val hk (e_move rfl) rfl (by decide) fun a hk => ?_
    refine u_val hk (e_conv_eq _ ti21_5 rfl (byte_u8 (hr _))) rfl (by decide) fun a hk => ?_
    refine u_val hk (e_add rfl rfl) rfl (by decide) fun a hk => ?_
    refine u_val hk (e_idx0 (p + 3) es22 rfl rfl rfl (by omega)) rfl (by decide) fun a hk => ?_
    refine u_put hk oc5 rfl rfl hm ho (by omega) rfl fun w a hk hm ho => ?_
    refine u_nil ?_
    have e : (fun j => IntKind.u8.wrap (px (p + j) + px (top + j))) = (fun j => IntKind.u8.wrap (px (p + j) + predV 11 px p top j)) := by funext j; show _ = IntKind.u8.wrap (px (p + j) + if selL px p top then px (p - (4 - j)) else px (top + j)); rw [if_neg hs]
    rw [e] at hm
    exact hQ _ _ (hk.sub (Sub.cons rfl (Sub.cons rfl (Sub.cons rfl (Sub.cons rfl (Sub.cons rfl (Sub.cons rfl (Sub.cons rfl (Sub.cons rfl (Sub.cons rfl (Sub.cons rfl (Sub.cons rfl (Sub.nil _))))))))))))) hm.mem ho

set_option maxRecDepth 100000 in
theorem sw_12 {Q : Exit → Act → World → Prop} {a : Act} {w w0 : World} {v0 v2 v8 v11 v12 v13 v15 : Value} {pb len cap p top : Nat} {px : Nat → Int}
    (hk : Kn 1328 (L v0 (.slice (some ⟨pb, 0, none⟩) len cap) v2 (.int .i32 (p : Int)) v8 (.int .i64 (top : Int)) v11 v12 v13 (.int .u8 (12 : Int)) v15) a)
    (hm : Mem w pb len px) (ho : Only pb w0 w) (hr : ∀ i, isByte (px i)) (h4 : 4 ≤ p) (ht : 4 ≤ top) (htp : top + 8 ≤ p) (hl : p + 4 ≤ len) (hlen : len ≤ 1073741824)
    (hQ : ∀ a' w', Kn 1328 (L v0 (.slice (some ⟨pb, 0, none⟩) len cap) v2 (.int .i32 (p : Int)) v8 (.int .i64 (top : Int)) v11 v12 v13 (.int .u8 (12 : Int)) v15) a' → Mem w' pb len (step px p (predV 12 px p top)) → Only pb w0 w' → Q .normal a' w') :
    swCode.wp Try.prog Q a w := by
  unfold swCode ipBody
  conv => arg 2; whnf
  refine k_seq ?_
  refine rg (by kernel_rfl) ?_
  refine u_val hk (e_move rfl) rfl (by decide) fun a hk => ?_
  refine u_nil ?_
  refine wp_block ?_
  refine k_seq ?_
  refine rg (by kernel_rfl) ?_
  refine u_val hk (e_eqlF rfl rfl (by decide)) rfl (by decide) fun a hk => ?_
  refine u_val hk (e_assign rfl) rfl (by decide) fun a hk => ?_
  refine u_nil ?_
  refine k_false hk rfl ?_
  refine k_seq ?_
  refine rg (by kernel_rfl) ?_
  refine u_val hk (e_eqlF rfl rfl (by decide)) rfl (by decide) fun a hk => ?_
  refine u_val hk (e_assign rfl) rfl (by decide) fun a hk => ?_
  refine u_nil ?_
  refine k_false hk rfl ?_
  refine k_seq ?_
  refine rg (by kernel_rfl) ?_
  refine u_val hk (e_eqlF rfl rfl (by decide)) rfl (by decide) fun a hk => ?_
  refine u_val hk (e_assign rfl) rfl (by decide) fun a hk => ?_
  refine u_nil ?_
  refine k_false hk rfl ?_
  refine k_seq ?_
  refine rg (by kernel_rfl) ?_
  refine u_val hk (e_eqlF rfl rfl (by decide)) rfl (by decide) fun a hk => ?_
  refine u_val hk (e_assign rfl) rfl (by decide) fun a hk => ?_
  refine u_nil ?_
  refine k_false hk rfl ?_
  refine k_seq ?_
  refine rg (by kernel_rfl) ?_
  refine u_val hk (e_eqlF rfl rfl (by decide)) rfl (by decide) fun a hk => ?_
  refine u_val hk (e_assign rfl) rfl (by decide) fun a hk => ?_
  refine u_nil ?_
  refine k_false hk rfl ?_
  refine k_seq ?_
  refine rg (by kernel_rfl) ?_
  refine u_val hk (e_eqlF rfl rfl (by decide)) rfl (by decide) fun a hk => ?_
  refine u_val hk (e_assign rfl) rfl (by decide) fun a hk => ?_
  refine u_nil ?_
  refine k_false hk rfl ?_
  refine k_seq ?_
  refine rg (by kernel_rfl) ?_
  refine u_val hk (e_eqlF rfl rfl (by decide)) rfl (by decide) fun a hk => ?_
  refine u_val hk (e_assign rfl) rfl (by decide) fun a hk => ?_
  refine u_nil ?_
  refine k_false hk rfl ?_
  refine k_seq ?_
  refine rg (by kernel_rfl) ?_
  refine u_val hk (e_eqlF rfl rfl (by decide)) rfl (by decide) fun a hk => ?_
  refine u_val hk (e_assign rfl) rfl (by decide) fun a hk => ?_
  refine u_nil ?_
  refine k_false hk rfl ?_
  refine k_seq ?_
  refine rg (by kernel_rfl) ?_
  refine u_val hk (e_eqlF rfl rfl (by decide)) rfl (by decide) fun a hk => ?_
  refine u_val hk (e_assign rfl) rfl (by decide) fun a hk => ?_
  refine u_nil ?_
  refine k_false hk rfl ?_
  refine k_seq ?_
  refine rg (by kernel_rfl) ?_
  refine u_val hk (e_eqlF rfl rfl (by decide)) rfl (by decide) fun a hk => ?_
  refine u_val hk (e_assign rfl) rfl (by decide) fun a hk => ?_
  refine u_nil ?_
  refine k_false hk rfl ?_
  refine k_seq ?_
  refine rg (by kernel_rfl) ?_
  refine u_val hk (e_eqlF rfl rfl (by decide)) rfl (by decide) fun a hk => ?_
  refine u_val hk (e_assign rfl) rfl (by decide) fun a hk => ?_
  refine u_nil ?_
  refine k_false hk rfl ?_
  refine k_seq ?_
  refine rg (by kernel_rfl) ?_
  refine u_val hk (e_eqlF rfl rfl (by decide)) rfl (by decide) fun a hk => ?_
  refine u_val hk (e_assign rfl) rfl (by decide) fun a hk => ?_
  refine u_nil ?_
  refine k_false hk rfl ?_
  refine k_seq ?_
  refine rg (by kernel_rfl) ?_
  refine u_val hk (e_eqlT rfl rfl (by decide)) rfl (by decide) fun a hk => ?_
  refine u_val hk (e_assign rfl) rfl (by decide) fun a hk => ?_
  refine u_nil ?_
  refine k_true hk rfl ?_
  replace hm := hm.pm p (fun j => IntKind.u8.wrap (px (p + j) + predV 12 px p top j))
  refine k_seq ?_
  refine rgt 23 (by kernel_rfl) (by kernel_rfl) (by kernel_rfl) ?_
  replace hm := hm.drew
  replace ho := ho.drew
  refine r_val hk (e_move rfl) rfl (by decide) fun a hk => ?_
  refine r_val hk (e_move rfl) rfl (by decide) fun a hk => ?_
  refine r_val hk (e_add_eq ((p + 0 : Nat) : Int) rfl rfl (i32_eq (by omega) (by omega) (by omega))) rfl (by decide) fun a hk => ?_
  refine r_val hk (e_idx0 (p + 0) es22 rfl rfl rfl (by omega)) rfl (by decide) fun a hk => ?_
  refine r_val hk (e_load oc5 rfl (hm.old (i := p + 0) (by omega) (by omega))) rfl (by decide) fun a hk => ?_
  refine r_val hk (e_move rfl) rfl (by decide) fun a hk => ?_
  refine r_val hk (e_move rfl) rfl (by decide) fun a hk => ?_
  refine r_val hk (e_sub_eq ((p - 4 : Nat) : Int) rfl rfl (i32_eq (by omega) (by omega) (by omega))) rfl (by decide) fun a hk => ?_
  refine r_val hk (e_idx0 (p - 4) es22 rfl rfl rfl (by omega)) rfl (by decide) fun a hk => ?_
  refine r_val hk (e_load oc5 rfl (hm.old (i := p - 4) (by omega) (by omega))) rfl (by decide) fun a hk => ?_
  refine r_val hk (e_move rfl) rfl (by decide) fun a hk => ?_
  refine r_val hk (e_move rfl) rfl (by decide) fun a hk => ?_
  refine r_val hk (e_add_eq ((top + 0 : Nat) : Int) rfl rfl (i64_eq (by omega) (by omega) (by omega))) rfl (by decide) fun a hk => ?_
  refine r_val hk (e_idx0 (top + 0) es22 rfl rfl rfl (by omega)) rfl (by decide) fun a hk => ?_
  refine r_val hk (e_load oc5 rfl (hm.old (i := top + 0) (by omega) (by omega))) rfl (by decide) fun a hk => ?_
  refine r_val hk (e_move rfl) rfl (by decide) fun a hk => ?_
  refine r_val hk (e_move rfl) rfl (by decide) fun a hk => ?_
  refine r_val hk (e_sub_eq ((top - 4 : Nat) : Int) rfl rfl (i64_eq (by omega) (by omega) (by omega))) rfl (by decide) fun a hk => ?_
  refine r_val hk (e_idx0 (top - 4) es22 rfl rfl rfl (by omega)) rfl (by decide) fun a hk => ?_
  refine r_val hk (e_load oc5 rfl (hm.old (i := top - 4) (by omega) (by omega))) rfl (by decide) fun a hk => ?_
  refine r_call hk (c_func pf_full rfl) (clampF_any _ _ _ (hr _) (hr _) (hr _) _) rfl (by decide) fun a hk => ?_
  refine r_val hk (e_add rfl rfl) rfl (by decide) fun a hk => ?_
  refine r_val hk (e_idx0 (p + 0) es22 rfl rfl rfl (by omega)) rfl (by decide) fun a hk => ?_
  refine u_put hk oc5 rfl rfl hm ho (by omega) rfl fun w a hk hm ho => ?_
  refine u_nil ?_
  refine k_seq ?_
  refine rgt 23 (by kernel_rfl) (by kernel_rfl) (by kernel_rfl) ?_
  replace hm := hm.drew
  replace ho := ho.drew
  refine r_val hk (e_move rfl) rfl (by decide) fun a hk => ?_
  refine r_val hk (e_move rfl) rfl (by decide) fun a hk => ?_
  refine r_val hk (e_add_eq ((p + 1 : Nat) : Int) rfl rfl (i32_eq (by omega) (by omega) (by omega))) rfl (by decide) fun a hk => ?_
  refine r_val hk (e_idx0 (p + 1) es22 rfl rfl rfl (by omega)) rfl (by decide) fun a hk => ?_
  refine r_val hk (e_load oc5 rfl (hm.old (i := p + 1) (by omega) (by omega))) rfl (by decide) fun a hk => ?_
  refine r_val hk (e_move rfl) rfl (by decide) fun a hk => ?_
  refine r_val hk (e_move rfl) rfl (by decide) fun a hk => ?_
  refine r_val hk (e_sub_eq ((p - 3 : Nat) : Int) rfl rfl (i32_eq (by omega) (by omega) (by omega))) rfl (by decide) fun a hk => ?_
  refine r_val hk (e_idx0 (p - 3) es22 rfl rfl rfl (by omega)) rfl (by decide) fun a hk => ?_
  refine r_val hk (e_load oc5 rfl (hm.old (i := p - 3) (by omega) (by omega))) rfl (by decide) fun a hk => ?_
  refine r_val hk (e_move rfl) rfl (by decide) fun a hk => ?_
  refine r_val hk (e_move rfl) rfl (by decide) fun a hk => ?_
  refine r_val hk (e_add_eq ((top + 1 : Nat) : Int) rfl rfl (i64_eq (by omega) (by omega) (by omega))) rfl (by decide) fun a hk => ?_
  refine r_val hk (e_idx0 (top + 1) es22 rfl rfl rfl (by omega)) rfl (by decide) fun a hk => ?_
  refine r_val hk (e_load oc5 rfl (hm.old (i := top + 1) (by omega) (by omega))) rfl (by decide) fun a hk => ?_
  refine r_val hk (e_move rfl) rfl (by decide) fun a hk => ?_
  refine r_val hk (e_move rfl) rfl (by decide) fun a hk => ?_
  refine r_val hk (e_sub_eq ((top - 3 : Nat) : Int) rfl rfl (i64_eq (by omega) (by omega) (by omega))) rfl (by decide) fun a hk => ?_
  refine r_val hk (e_idx0 (top - 3) es22 rfl rfl rfl (by omega)) rfl (by decide) fun a hk => ?_
  refine r_val hk (e_load oc5 rfl (hm.old (i := top - 3) (by omega) (by omega))) rfl (by decide) fun a hk => ?_
  refine r_call hk (c_func pf_full rfl) (clampF_any _ _ _ (hr _) (hr _) (hr _) _) rfl (by decide) fun a hk => ?_
  refine r_val hk (e_add rfl rfl) rfl (by decide) fun a hk => ?_
  refine r_val hk (e_idx0 (p + 1) es22 rfl rfl rfl (by omega)) rfl (by decide) fun a hk => ?_
  refine u_put hk oc5 rfl rfl hm ho (by omega) rfl fun w a hk hm ho => ?_
  refine u_nil ?_
  refine k_seq ?_
  refine rgt 23 (by kernel_rfl) (by kernel_rfl) (by kernel_rfl) ?_
  replace hm := hm.drew
  replace ho := ho.drew
  refine r_val hk (e_move rfl) rfl (by decide) fun a hk => ?_
  refine r_val hk (e_move rfl) rfl (by decide) fun a hk => ?_
  refine r_val hk (e_add_eq ((p + 2 : Nat) : Int) rfl rfl (i32_eq (by omega) (by omega) (by omega))) rfl (by decide) fun a hk => ?_
  refine r_val hk (e_idx0 (p + 2) es22 rfl rfl rfl (by omega)) rfl (by decide) fun a hk => ?_
  refine r_val hk (e_load oc5 rfl (hm.old (i := p + 2) (by omega) (by omega))) rfl (by decide) fun a hk => ?_
  refine r_val hk (e_move rfl) rfl (by decide) fun a hk => ?_
  refine r_val hk (e_move rfl) rfl (by decide) fun a hk => ?_
  refine r_val hk (e_sub_eq ((p - 2 : Nat) : Int) rfl rfl (i32_eq (by omega) (by omega) (by omega))) rfl (by decide) fun a hk => ?_
  refine r_val hk (e_idx0 (p - 2) es22 rfl rfl rfl (by omega)) rfl (by decide) fun a hk => ?_
  refine r_val hk (e_load oc5 rfl (hm.old (i := p - 2) (by omega) (by omega))) rfl (by decide) fun a hk => ?_
  refine r_val hk (e_move rfl) rfl (by decide) fun a hk => ?_
  refine r_val hk (e_move rfl) rfl (by decide) fun a hk => ?_
  refine r_val hk (e_add_eq ((top + 2 : Nat) : Int) rfl rfl (i64_eq (by omega) (by omega) (by omega))) rfl (by decide) fun a hk => ?_
  refine r_val hk (e_idx0 (top + 2) es22 rfl rfl rfl (by omega)) rfl (by decide) fun a hk => ?_
  refine r_val hk (e_load oc5 rfl (hm.old (i := top + 2) (by omega) (by omega))) rfl (by decide) fun a hk => ?_
  refine r_val hk (e_move rfl) rfl (by decide) fun a hk => ?_
  refine r_val hk (e_move rfl) rfl (by decide) fun a hk => ?_
  refine r_val hk (e_sub_eq ((top - 2 : Nat) : Int) rfl rfl (i64_eq (by omega) (by omega) (by omega))) rfl (by decide) fun a hk => ?_
  refine r_val hk (e_idx0 (top - 2) es22 rfl rfl rfl (by omega)) rfl (by decide) fun a hk => ?_
  refine r_val hk (e_load oc5 rfl (hm.old (i := top - 2) (by omega) (by omega))) rfl (by decide) fun a hk => ?_
  refine r_call hk (c_func pf_full rfl) (clampF_any _ _ _ (hr _) (hr _) (hr _) _) rfl (by decide) fun a hk => ?_
  refine r_val hk (e_add rfl rfl) rfl (by decide) fun a hk => ?_
  refine r_val hk (e_idx0 (p + 2) es22 rfl rfl rfl (by omega)) rfl (by decide) fun a hk => ?_
  refine u_put hk oc5 rfl rfl hm ho (by omega) rfl fun w a hk hm ho => ?_
  refine u_nil ?_
  refine rgt 23 (by kernel_rfl) (by kernel_rfl) (by kernel_rfl) ?_
  replace hm := hm.drew
  replace ho := ho.drew
  refine r_val hk (e_move rfl) rfl (by decide) fun a hk => ?_
  refine r_val hk (e_move rfl) rfl (by decide) fun a hk => ?_
  refine r_val hk (e_add_eq ((p + 3 : Nat) : Int) rfl rfl (i32_eq (by omega) (by omega) (by omega))) rfl (by decide) fun a hk => ?_
  refine r_val hk (e_idx0 (p + 3) es22 rfl rfl rfl (by omega)) rfl (by decide) fun a hk => ?_
  refine r_val hk (e_load oc5 rfl (hm.old (i := p + 3) (by omega) (by omega))) rfl (by decide) fun a hk => ?_
  refine r_val hk (e_move rfl) rfl (by decide) fun a hk => ?_
  refine r_val hk (e_move rfl) rfl (by decide) fun a hk => ?_
  refine r_val hk (e_sub_eq ((p - 1 : Nat) : Int) rfl rfl (i32_eq (by omega) (by omega) (by omega))) rfl (by decide) fun a hk => ?_
  refine r_val hk (e_idx0 (p - 1) es22 rfl rfl rfl (by omega)) rfl (by decide) fun a hk => ?_
  refine r_val hk (e_load oc5 rfl (hm.old (i := p - 1) (by omega) (by omega))) rfl (by decide) fun a hk => ?_
  refine r_val hk (e_move rfl) rfl (by decide) fun a hk => ?_
  refine r_val hk (e_move rfl) rfl (by decide) fun a hk => ?_
  refine r_val hk (e_add_eq ((top + 3 : Nat) : Int) rfl rfl (i64_eq (by omega) (by omega) (by omega))) rfl (by decide) fun a hk => ?_
  refine r_val hk (e_idx0 (top + 3) es22 rfl rfl rfl (by omega)) rfl (by decide) fun a hk => ?_
  refine r_val hk (e_load oc5 rfl (hm.old (i := top + 3) (by omega) (by omega))) rfl (by decide) fun a hk => ?_
  refine r_val hk (e_move rfl) rfl (by decide) fun a hk => ?_
  refine r_val hk (e_move rfl) rfl (by decide) fun a hk => ?_
  refine r_val hk (e_sub_eq ((top - 1 : Nat) : Int) rfl rfl (i64_eq (by omega) (by omega) (by omega))) rfl (by decide) fun a hk => ?_
  refine r_val hk (e_idx0 (top - 1) es22 rfl rfl rfl (by omega)) rfl (by decide) fun a hk => ?_
  refine r_val hk (e_load oc5 rfl (hm.old (i := top - 1) (by omega) (by omega))) rfl (by decide) fun a hk => ?_
  refine r_call hk (c_func pf_full rfl) (clampF_any _ _ _ (hr _) (hr _) (hr _) _) rfl (by decide) fun a hk => ?_
  refine r_val hk (e_add rfl rfl) rfl (by decide) fun a hk => ?_
  refine r_val hk (e_idx0 (p + 3) es22 rfl rfl rfl (by omega)) rfl (by decide) fun a hk => ?_
  refine u_put hk oc5 rfl rfl hm ho (by omega) rfl fun w a hk hm ho => ?_
  refine u_nil ?_
  exact hQ _ _ (hk.sub (Sub.cons rfl (Sub.cons rfl (Sub.cons rfl (Sub.cons rfl (Sub.cons rfl (Sub.cons rfl (Sub.cons rfl (Sub.cons rfl (Sub.cons rfl (Sub.cons rfl (Sub.cons rfl (Sub.nil _))))))))))))) hm.mem ho

set_option maxRecDepth 100000 in
theorem sw_13 {Q : Exit → Act → World → Prop} {a : Act} {w w0 : World} {v0 v2 v8 v11 v12 v13 v15 : Value} {pb len cap p top : Nat} {px : Nat → Int}
    (hk : Kn 1328 (L v0 (.slice (some ⟨pb, 0, none⟩) len cap) v2 (.int .i32 (p : Int)) v8 (.int .i64 (top : Int)) v11 v12 v13 (.int .u8 (13 : Int)) v15) a)
    (hm : Mem w pb len px) (ho : Only pb w0 w) (hr : ∀ i, isByte (px i)) (h4 : 4 ≤ p) (ht : 4 ≤ top) (htp : top + 8 ≤ p) (hl : p + 4 ≤ len) (hlen : len ≤ 1073741824)
    (hQ : ∀ a' w', Kn 1328 (L v0 (.slice (some ⟨pb, 0, none⟩) len cap) v2 (.int .i32 (p : Int)) v8 (.int .i64 (top : Int)) v11 v12 v13 (.int .u8 (13 : Int)) v15) a' → Mem w' pb len (step px p (predV 13 px p top)) → Only pb w0 w' → Q .normal a' w') :
    swCode.wp Try.prog Q a w := by
  unfold swCode ipBody
  conv => arg 2; whnf
  refine k_seq ?_
  refine rg (by kernel_rfl) ?_
  refine u_val hk (e_move rfl) rfl (by decide) fun a hk => ?_
  refine u_nil ?_
  refine wp_block ?_
  refine k_seq ?_
  refine rg (by kernel_rfl) ?_
  refine u_val hk (e_eqlF rfl rfl (by decide)) rfl (by decide) fun a hk => ?_
  refine u_val hk (e_assign rfl) rfl (by decide) fun a hk => ?_
  refine u_nil ?_
  refine k_false hk rfl ?_
  refine k_seq ?_
  refine rg (by kernel_rfl) ?_
  refine u_val hk (e_eqlF rfl rfl (by decide)) rfl (by decide) fun a hk => ?_
  refine u_val hk (e_assign rfl) rfl (by decide) fun a hk => ?_
  refine u_nil ?_
  refine k_false hk rfl ?_
  refine k_seq ?_
  refine rg (by kernel_rfl) ?_
  refine u_val hk (e_eqlF rfl rfl (by decide)) rfl (by decide) fun a hk => ?_
  refine u_val hk (e_assign rfl) rfl (by decide) fun a hk => ?_
  refine u_nil ?_
  refine k_false hk rfl ?_
  refine k_seq ?_
  refine rg (by kernel_rfl) ?_
  refine u_val hk (e_eqlF rfl rfl (by decide)) rfl (by decide) fun a hk => ?_
  refine u_val hk (e_assign rfl) rfl (by decide) fun a hk => ?_
  refine u_nil ?_
  refine k_false hk rfl ?_
  refine k_seq ?_
  refine rg (by kernel_rfl) ?_
  refine u_val hk (e_eqlF rfl rfl (by decide)) rfl (by decide) fun a hk => ?_
  refine u_val hk (e_assign rfl) rfl (by decide) fun a hk => ?_
  refine u_nil ?_
  refine k_false hk rfl ?_
  refine k_seq ?_
  refine rg (by kernel_rfl) ?_
  refine u_val hk (e_eqlF rfl rfl (by decide)) rfl (by decide) fun a hk => ?_
  refine u_val hk (e_assign rfl) rfl (by decide) fun a hk => ?_
  refine u_nil ?_
  refine k_false hk rfl ?_
  refine k_seq ?_
  refine rg (by kernel_rfl) ?_
  refine u_val hk (e_eqlF rfl rfl (by decide)) rfl (by decide) fun a hk => ?_
  refine u_val hk (e_assign rfl) rfl (by decide) fun a hk => ?_
  refine u_nil ?_
  refine k_false hk rfl ?_
  refine k_seq ?_
  refine rg (by kernel_rfl) ?_
  refine u_val hk (e_eqlF rfl rfl (by decide)) rfl (by decide) fun a hk => ?_
  refine u_val hk (e_assign rfl) rfl (by decide) fun a hk => ?_
  refine u_nil ?_
  refine k_false hk rfl ?_
  refine k_seq ?_
  refine rg (by kernel_rfl) ?_
  refine u_val hk (e_eqlF rfl rfl (by decide)) rfl (by decide) fun a hk => ?_
  refine u_val hk (e_assign rfl) rfl (by decide) fun a hk => ?_
  refine u_nil ?_
  refine k_false hk rfl ?_
  refine k_seq ?_
  refine rg (by kernel_rfl) ?_
  refine u_val hk (e_eqlF rfl rfl (by decide)) rfl (by decide) fun a hk => ?_
  refine u_val hk (e_assign rfl) rfl (by decide) fun a hk => ?_
  refine u_nil ?_
  refine k_false hk rfl ?_
  refine k_seq ?_
  refine rg (by kernel_rfl) ?_
  refine u_val hk (e_eqlF rfl rfl (by decide)) rfl (by decide) fun a hk => ?_
  refine u_val hk (e_assign rfl) rfl (by decide) fun a hk => ?_
  refine u_nil ?_
  refine k_false hk rfl ?_
  refine k_seq ?_
  refine rg (by kernel_rfl) ?_
  refine u_val hk (e_eqlF rfl rfl (by decide)) rfl (by decide) fun a hk => ?_
  refine u_val hk (e_assign rfl) rfl (by decide) fun a hk => ?_
  refine u_nil ?_
  refine k_false hk rfl ?_
  refine k_seq ?_
  refine rg (by kernel_rfl) ?_
  refine u_val hk (e_eqlF rfl rfl (by decide)) rfl (by decide) fun a hk => ?_
  refine u_val hk (e_assign rfl) rfl (by decide) fun a hk => ?_
  refine u_nil ?_
  refine k_false hk rfl ?_
  refine k_seq ?_
  refine rg (by kernel_rfl) ?_
  refine u_val hk (e_eqlT rfl rfl (by decide)) rfl (by decide) fun a hk => ?_
  refine u_val hk (e_assign rfl) rfl (by decide) fun a hk => ?_
  refine u_nil ?_
  refine k_true hk rfl ?_
  replace hm := hm.pm p (fun j => IntKind.u8.wrap (px (p + j) + predV 13 px p top j))
  refine k_seq ?_
  refine rgt 24 (by kernel_rfl) (by kernel_rfl) (by kernel_rfl) ?_
  replace hm := hm.drew
  replace ho := ho.drew
  refine r_val hk (e_move rfl) rfl (by decide) fun a hk => ?_
  refine r_val hk (e_move rfl) rfl (by decide) fun a hk => ?_
  refine r_val hk (e_add_eq ((p + 0 : Nat) : Int) rfl rfl (i32_eq (by omega) (by omega) (by omega))) rfl (by decide) fun a hk => ?_
  refine r_val hk (e_idx0 (p + 0) es22 rfl rfl rfl (by omega)) rfl (by decide) fun a hk => ?_
  refine r_val hk (e_load oc5 rfl (hm.old (i := p + 0) (by omega) (by omega))) rfl (by decide) fun a hk => ?_
  refine r_val hk (e_move rfl) rfl (by decide) fun a hk => ?_
  refine r_val hk (e_move rfl) rfl (by decide) fun a hk => ?_
  refine r_val hk (e_sub_eq ((p - 4 : Nat) : Int) rfl rfl (i32_eq (by omega) (by omega) (by omega))) rfl (by decide) fun a hk => ?_
  refine r_val hk (e_idx0 (p - 4) es22 rfl rfl rfl (by omega)) rfl (by decide) fun a hk => ?_
  refine r_val hk (e_load oc5 rfl (hm.old (i := p - 4) (by omega) (by omega))) rfl (by decide) fun a hk => ?_
  refine r_val hk (e_move rfl) rfl (by decide) fun a hk => ?_
  refine r_val hk (e_move rfl) rfl (by decide) fun a hk => ?_
  refine r_val hk (e_add_eq ((top + 0 : Nat) : Int) rfl rfl (i64_eq (by omega) (by omega) (by omega))) rfl (by decide) fun a hk => ?_
  refine r_val hk (e_idx0 (top + 0) es22 rfl rfl rfl (by omega)) rfl (by decide) fun a hk => ?_
  refine r_val hk (e_load oc5 rfl (hm.old (i := top + 0) (by omega) (by omega))) rfl (by decide) fun a hk => ?_
  refine r_call hk (c_func pf_avg2 rfl) (avg_any _ _ (hr _) (hr _) _) rfl (by decide) fun a hk => ?_
  refine r_val hk (e_move rfl) rfl (by decide) fun a hk => ?_
  refine r_val hk (e_move rfl) rfl (by decide) fun a hk => ?_
  refine r_val hk (e_sub_eq ((top - 4 : Nat) : Int) rfl rfl (i64_eq (by omega) (by omega) (by omega))) rfl (by decide) fun a hk => ?_
  refine r_val hk (e_idx0 (top - 4) es22 rfl rfl rfl (by omega)) rfl (by decide) fun a hk => ?_
  refine r_val hk (e_load oc5 rfl (hm.old (i := top - 4) (by omega) (by omega))) rfl (by decide) fun a hk => ?_
  refine r_call hk (c_func pf_half rfl) (clampH_any _ _ (avg_byte (hr _) (hr _)) (hr _) _) rfl (by decide) fun a hk => ?_
  refine r_val hk (e_add rfl rfl) rfl (by decide) fun a hk => ?_
  refine r_val hk (e_idx0 (p + 0) es22 rfl rfl rfl (by omega)) rfl (by decide) fun a hk => ?_
  refine u_put hk oc5 rfl rfl hm ho (by omega) rfl fun w a hk hm ho => ?_
  refine u_nil ?_
  refine k_seq ?_
  refine rgt 24 (by kernel_rfl) (by kernel_rfl) (by kernel_rfl) ?_
  replace hm := hm.drew
  replace ho := ho.drew
  refine r_val hk (e_move rfl) rfl (by decide) fun a hk => ?_
  refine r_val hk (e_move rfl) rfl (by decide) fun a hk => ?_
  refine r_val hk (e_add_eq ((p + 1 : Nat) : Int) rfl rfl (i32_eq (by omega) (by omega) (by omega))) rfl (by decide) fun a hk => ?_
  refine r_val hk (e_idx0 (p + 1) es22 rfl rfl rfl (by omega)) rfl (by decide) fun a hk => ?_
  refine r_val hk (e_load oc5 rfl (hm.old (i := p + 1) (by omega) (by omega))) rfl (by decide) fun a hk => ?_
  refine r_val hk (e_move rfl) rfl (by decide) fun a hk => ?_
  refine r_val hk (e_move rfl) rfl (by decide) fun a hk => ?_
  refine r_val hk (e_sub_eq ((p - 3 : Nat) : Int) rfl rfl (i32_eq (by omega) (by omega) (by omega))) rfl (by decide) fun a hk => ?_
  refine r_val hk (e_idx0 (p - 3) es22 rfl rfl rfl (by omega)) rfl (by decide) fun a hk => ?_
  refine r_val hk (e_load oc5 rfl (hm.old (i := p - 3) (by omega) (by omega))) rfl (by decide) fun a hk => ?_
  refine r_val hk (e_move rfl) rfl (by decide) fun a hk => ?_
  refine r_val hk (e_move rfl) rfl (by decide) fun a hk => ?_
  refine r_val hk (e_add_eq ((top + 1 : Nat) : Int) rfl rfl (i64_eq (by omega) (by omega) (by omega))) rfl (by decide) fun a hk => ?_
  refine r_val hk (e_idx0 (top + 1) es22 rfl rfl rfl (by omega)) rfl (by decide) fun a hk => ?_
  refine r_val hk (e_load oc5 rfl (hm.old (i := top + 1) (by omega) (by omega))) rfl (by decide) fun a hk => ?_
  refine r_call hk (c_func pf_avg2 rfl) (avg_any _ _ (hr _) (hr _) _) rfl (by decide) fun a hk => ?_
  refine r_val hk (e_move rfl) rfl (by decide) fun a hk => ?_
  refine r_val hk (e_move rfl) rfl (by decide) fun a hk => ?_
  refine r_val hk (e_sub_eq ((top - 3 : Nat) : Int) rfl rfl (i64_eq (by omega) (by omega) (by omega))) rfl (by decide) fun a hk => ?_
  refine r_val hk (e_idx0 (top - 3) es22 rfl rfl rfl (by omega)) rfl (by decide) fun a hk => ?_
  refine r_val hk (e_load oc5 rfl (hm.old (i := top - 3) (by omega) (by omega))) rfl (by decide) fun a hk => ?_
  refine r_call hk (c_func pf_half rfl) (clampH_any _ _ (avg_byte (hr _) (hr _)) (hr _) _) rfl (by decide) fun a hk => ?_
  refine r_val hk (e_add rfl rfl) rfl (by decide) fun a hk => ?_
  refine r_val hk (e_idx0 (p + 1) es22 rfl rfl rfl (by omega)) rfl (by decide) fun a hk => ?_
  refine u_put hk oc5 rfl rfl hm ho (by omega) rfl fun w a hk hm ho => ?_
  refine u_nil ?_
  refine k_seq ?_
  refine rgt 24 (by kernel_rfl) (by kernel_rfl) (by kernel_rfl) ?_
  replace hm := hm.drew
  replace ho := ho.drew
  refine r_val hk (e_move rfl) rfl (by decide) fun a hk => ?_
  refine r_val hk (e_move rfl) rfl (by decide) fun a hk => ?_
  refine r_val hk (e_add_eq ((p + 2 : Nat) : Int) rfl rfl (i32_eq (by omega) (by omega) (by omega))) rfl (by decide) fun a hk => ?_
  refine r_val hk (e_idx0 (p + 2) es22 rfl rfl rfl (by omega)) rfl (by decide) fun a hk => ?_
  refine r_val hk (e_load oc5 rfl (hm.old (i := p + 2) (by omega) (by omega))) rfl (by decide) fun a hk => ?_
  refine r_val hk (e_move rfl) rfl (by decide) fun a hk => ?_
  refine r_val hk (e_move rfl) rfl (by decide) fun a hk => ?_
  refine r_val hk (e_sub_eq ((p - 2 : Nat) : Int) rfl rfl (i32_eq (by omega) (by omega) (by omega))) rfl (by decide) fun a hk => ?_
  refine r_val hk (e_idx0 (p - 2) es22 rfl rfl rfl (by omega)) rfl (by decide) fun a hk => ?_
  refine r_val hk (e_load oc5 rfl (hm.old (i := p - 2) (by omega) (by omega))) rfl (by decide) fun a hk => ?_
  refine r_val hk (e_move rfl) rfl (by decide) fun a hk => ?_
  refine r_val hk (e_move rfl) rfl (by decide) fun a hk => ?_
  refine r_val hk (e_add_eq ((top + 2 : Nat) : Int) rfl rfl (i64_eq (by omega) (by omega) (by omega))) rfl (by decide) fun a hk => ?_
  refine r_val hk (e_idx0 (top + 2) es22 rfl rfl rfl (by omega)) rfl (by decide) fun a hk => ?_
  refine r_val hk (e_load oc5 rfl (hm.old (i := top + 2) (by omega) (by omega))) rfl (by decide) fun a hk => ?_
  refine r_call hk (c_func pf_avg2 rfl) (avg_any _ _ (hr _) (hr _) _) rfl (by decide) fun a hk => ?_
  refine r_val hk (e_move rfl) rfl (by decide) fun a hk => ?_
  refine r_val hk (e_move rfl) rfl (by decide) fun a hk => ?_
  refine r_val hk (e_sub_eq ((top - 2 : Nat) : Int) rfl rfl (i64_eq (by omega) (by omega) (by omega))) rfl (by decide) fun a hk => ?_
  refine r_val hk (e_idx0 (top - 2) es22 rfl rfl rfl (by omega)) rfl (by decide) fun a hk => ?_
  refine r_val hk (e_load oc5 rfl (hm.old (i := top - 2) (by omega) (by omega))) rfl (by decide) fun a hk => ?_
  refine r_call hk (c_func pf_half rfl) (clampH_any _ _ (avg_byte (hr _) (hr _)) (hr _) _) rfl (by decide) fun a hk => ?_
  refine r_val hk (e_add rfl rfl) rfl (by decide) fun a hk => ?_
  refine r_val hk (e_idx0 (p + 2) es22 rfl rfl rfl (by omega)) rfl (by decide) fun a hk => ?_
  refine u_put hk oc5 rfl rfl hm ho (by omega) rfl fun w a hk hm ho => ?_
  refine u_nil ?_
  refine rgt 24 (by kernel_rfl) (by kernel_rfl) (by kernel_rfl) ?_
  replace hm := hm.drew
  replace ho := ho.drew
  refine r_val hk (e_move rfl) rfl (by decide) fun a hk => ?_
  refine r_val hk (e_move rfl) rfl (by decide) fun a hk => ?_
  refine r_val hk (e_add_eq ((p + 3 : Nat) : Int) rfl rfl (i32_eq (by omega) (by omega) (by omega))) rfl (by decide) fun a hk => ?_
  refine r_val hk (e_idx0 (p + 3) es22 rfl rfl rfl (by omega)) rfl (by decide) fun a hk => ?_
  refine r_val hk (e_load oc5 rfl (hm.old (i := p + 3) (by omega) (by omega))) rfl (by decide) fun a hk => ?_
  refine r_val hk (e_move rfl) rfl (by decide) fun a hk => ?_
  refine r_val hk (e_move rfl) rfl (by decide) fun a hk => ?_
  refine r_val hk (e_sub_eq ((p - 1 : Nat) : Int) rfl rfl (i32_eq (by omega) (by omega) (by omega))) rfl (by decide) fun a hk => ?_
  refine r_val hk (e_idx0 (p - 1) es22 rfl rfl rfl (by omega)) rfl (by decide) fun a hk => ?_
  refine r_val hk (e_load oc5 rfl (hm.old (i := p - 1) (by omega) (by omega))) rfl (by decide) fun a hk => ?_
  refine r_val hk (e_move rfl) rfl (by decide) fun a hk => ?_
  refine r_val hk (e_move rfl) rfl (by decide) fun a hk => ?_
  refine r_val hk (e_add_eq ((top + 3 : Nat) : Int) rfl rfl (i64_eq (by omega) (by omega) (by omega))) rfl (by decide) fun a hk => ?_
  refine r_val hk (e_idx0 (top + 3) es22 rfl rfl rfl (by omega)) rfl (by decide) fun a hk => ?_
  refine r_val hk (e_load oc5 rfl (hm.old (i := top + 3) (by omega) (by omega))) rfl (by decide) fun a hk => ?_
  refine r_call hk (c_func pf_avg2 rfl) (avg_any _ _ (hr _) (hr _) _) rfl (by decide) fun a hk => ?_
  refine r_val hk (e_move rfl) rfl (by decide) fun a hk => ?_
  refine r_val hk (e_move rfl) rfl (by decide) fun a hk => ?_
  refine r_val hk (e_sub_eq ((top - 1 : Nat) : Int) rfl rfl (i64_eq (by omega) (by omega) (by omega))) rfl (by decide) fun a hk => ?_
  refine r_val hk (e_idx0 (top - 1) es22 rfl rfl rfl (by omega)) rfl (by decide) fun a hk => ?_
  refine r_val hk (e_load oc5 rfl (hm.old (i := top - 1) (by omega) (by omega))) rfl (by decide) fun a hk => ?_
  refine r_call hk (c_func pf_half rfl) (clampH_any _ _ (avg_byte (hr _) (hr _)) (hr _) _) rfl (by decide) fun a hk => ?_
  refine r_val hk (e_add rfl rfl) rfl (by decide) fun a hk => ?_
  refine r_val hk (e_idx0 (p + 3) es22 rfl rfl rfl (by omega)) rfl (by decide) fun a hk => ?_
  refine u_put hk oc5 rfl rfl hm ho (by omega) rfl fun w a hk hm ho => ?_
  refine u_nil ?_
  exact hQ _ _ (hk.sub (Sub.cons rfl (Sub.cons rfl (Sub.cons rfl (Sub.cons rfl (Sub.cons rfl (Sub.cons rfl (Sub.cons rfl (Sub.cons rfl (Sub.cons rfl (Sub.cons rfl (Sub.cons rfl (Sub.nil _))))))))))))) hm.mem ho

set_option maxRecDepth 100000 in
theorem sw_14 {Q : Exit → Act → World → Prop} {a : Act} {w w0 : World} {v0 v2 v8 v11 v12 v13 v15 : Value} {pb len cap p top md : Nat} {px : Nat → Int}
    (hk : Kn 1328 (L v0 (.slice (some ⟨pb, 0, none⟩) len cap) v2 (.int .i32 (p : Int)) v8 (.int .i64 (top : Int)) v11 v12 v13 (.int .u8 (md : Int)) v15) a)
    (hm : Mem w pb len px) (ho : Only pb w0 w) (hr : ∀ i, isByte (px i)) (h4 : 4 ≤ p) (ht : 4 ≤ top) (htp : top + 8 ≤ p) (hl : p + 4 ≤ len) (hlen : len ≤ 1073741824) (hmd : 14 ≤ md)
    (hQ : ∀ a' w', Kn 1328 (L v0 (.slice (some ⟨pb, 0, none⟩) len cap) v2 (.int .i32 (p : Int)) v8 (.int .i64 (top : Int)) v11 v12 v13 (.int .u8 (md : Int)) v15) a' → Mem w' pb len (step px p (predV md px p top)) → Only pb w0 w' → Q .normal a' w') :
    swCode.wp Try.prog Q a w := by
  unfold swCode ipBody
  conv => arg 2; whnf
  refine k_seq ?_
  refine rg (by kernel_rfl) ?_
  refine u_val hk (e_move rfl) rfl (by decide) fun a hk => ?_
  refine u_nil ?_
  refine wp_block ?_
  refine k_seq ?_
  refine rg (by kernel_rfl) ?_
  refine u_val hk (e_eqlF rfl rfl (by omega)) rfl (by decide) fun a hk => ?_
  refine u_val hk (e_assign rfl) rfl (by decide) fun a hk => ?_
  refine u_nil ?_
  refine k_false hk rfl ?_
  refine k_seq ?_
  refine rg (by kernel_rfl) ?_
  refine u_val hk (e_eqlF rfl rfl (by omega)) rfl (by decide) fun a hk => ?_
  refine u_val hk (e_assign rfl) rfl (by decide) fun a hk => ?_
  refine u_nil ?_
  refine k_false hk rfl ?_
  refine k_seq ?_
  refine rg (by kernel_rfl) ?_
  refine u_val hk (e_eqlF rfl rfl (by omega)) rfl (by decide) fun a hk => ?_
  refine u_val hk (e_assign rfl) rfl (by decide) fun a hk => ?_
  refine u_nil ?_
  refine k_false hk rfl ?_
  refine k_seq ?_
  refine rg (by kernel_rfl) ?_
  refine u_val hk (e_eqlF rfl rfl (by omega)) rfl (by decide) fun a hk => ?_
  refine u_val hk (e_assign rfl) rfl (by decide) fun a hk => ?_
  refine u_nil ?_
  refine k_false hk rfl ?_
  refine k_seq ?_
  refine rg (by kernel_rfl) ?_
  refine u_val hk (e_eqlF rfl rfl (by omega)) rfl (by decide) fun a hk => ?_
  refine u_val hk (e_assign rfl) rfl (by decide) fun a hk => ?_
  refine u_nil ?_
  refine k_false hk rfl ?_
  refine k_seq ?_
  refine rg (by kernel_rfl) ?_
  refine u_val hk (e_eqlF rfl rfl (by omega)) rfl (by decide) fun a hk => ?_
  refine u_val hk (e_assign rfl) rfl (by decide) fun a hk => ?_
  refine u_nil ?_
  refine k_false hk rfl ?_
  refine k_seq ?_
  refine rg (by kernel_rfl) ?_
  refine u_val hk (e_eqlF rfl rfl (by omega)) rfl (by decide) fun a hk => ?_
  refine u_val hk (e_assign rfl) rfl (by decide) fun a hk => ?_
  refine u_nil ?_
  refine k_false hk rfl ?_
  refine k_seq ?_
  refine rg (by kernel_rfl) ?_
  refine u_val hk (e_eqlF rfl rfl (by omega)) rfl (by decide) fun a hk => ?_
  refine u_val hk (e_assign rfl) rfl (by decide) fun a hk => ?_
  refine u_nil ?_
  refine k_false hk rfl ?_
  refine k_seq ?_
  refine rg (by kernel_rfl) ?_
  refine u_val hk (e_eqlF rfl rfl (by omega)) rfl (by decide) fun a hk => ?_
  refine u_val hk (e_assign rfl) rfl (by decide) fun a hk => ?_
  refine u_nil ?_
  refine k_false hk rfl ?_
  refine k_seq ?_
  refine rg (by kernel_rfl) ?_
  refine u_val hk (e_eqlF rfl rfl (by omega)) rfl (by decide) fun a hk => ?_
  refine u_val hk (e_assign rfl) rfl (by decide) fun a hk => ?_
  refine u_nil ?_
  refine k_false hk rfl ?_
  refine k_seq ?_
  refine rg (by kernel_rfl) ?_
  refine u_val hk (e_eqlF rfl rfl (by omega)) rfl (by decide) fun a hk => ?_
  refine u_val hk (e_assign rfl) rfl (by decide) fun a hk => ?_
  refine u_nil ?_
  refine k_false hk rfl ?_
  refine k_seq ?_
  refine rg (by kernel_rfl) ?_
  refine u_val hk (e_eqlF rfl rfl (by omega)) rfl (by decide) fun a hk => ?_
  refine u_val hk (e_assign rfl) rfl (by decide) fun a hk => ?_
  refine u_nil ?_
  refine k_false hk rfl ?_
  refine k_seq ?_
  refine rg (by kernel_rfl) ?_
  refine u_val hk (e_eqlF rfl rfl (by omega)) rfl (by decide) fun a hk => ?_
  refine u_val hk (e_assign rfl) rfl (by decide) fun a hk => ?_
  refine u_nil ?_
  refine k_false hk rfl ?_
  refine k_seq ?_
  refine rg (by kernel_rfl) ?_
  refine u_val hk (e_eqlF rfl rfl (by omega)) rfl (by decide) fun a hk => ?_
  refine u_val hk (e_assign rfl) rfl (by decide) fun a hk => ?_
  refine u_nil ?_
  refine k_false hk rfl ?_
  refine wp_skip ?_
  have e : step px p (predV md px p top) = px := step_zero p hr _ (fun c => by unfold predV; split <;> first | rfl | omega)
  exact hQ _ _ (hk.sub (Sub.cons rfl (Sub.cons rfl (Sub.cons rfl (Sub.cons rfl (Sub.cons rfl (Sub.cons rfl (Sub.cons rfl (Sub.cons rfl (Sub.cons rfl (Sub.cons rfl (Sub.cons rfl (Sub.nil _))))))))))))) (by rw [e]; exact hm) ho
end Go.Proofs.Ytgjcikajfnlocaa
