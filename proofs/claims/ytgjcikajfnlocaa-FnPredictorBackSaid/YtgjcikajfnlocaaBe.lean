/-
  OUR OWN: FnPredictorBack: the round in which predictions are taken away.
-/
import Derived.Test.YtgjcikajfnlocaaBd
namespace Go.Proofs.Ytgjcikajfnlocaa
open Go.RowKit Go.Proofs.Ytgjcikajfnlocaa.PFnPredictorBack Go.Proofs.YtgjcikajfnlocaaW.PrintWords Go.Proofs.YtgjcikajfnlocaaW.PrintLast
set_option linter.unusedVariables false
set_option linter.unusedSimpArgs false

section
variable {P : Program} {ops : Array Oper} {Q : Exit → Act → World → Prop} {S : World → Prop} {ds : List Nat} {n : Nat} {l : KL} {a : Act} {w : World}
theorem t_take {i d : Nat} {oi : Oper} {v : Value} {fuel : Nat} {lst : Array Bool} (lst' : Array Bool) (hk : Kn n l a) (hi : ops[i]? = some oi) (ho : oi.dst = some d) (hg : oi.guard = none) (hd : d < n) (hc : takeB .any ops ds lst lst' i = true)
    (hQ : ∀ c a w, Q (.panic c) (a.put oi.dst v) w → Q (.panic c) a w) (hy : ∀ w, S w → Ev P l oi w v w) (hS : S w) (h : ∀ a', Kn n ((d, v) :: l) a' → wpAnyLast P .any ops Q S ds fuel lst' a' w) : wpAnyLast P .any ops Q S ds (fuel + 1) lst a w :=
  take_ lst' hi ho hc hQ (.inl ⟨by simp [Region.wanted, hg], fun w hw => hy w hw n a hk⟩) hS rfl (h _ (hk.put hd v))
theorem t_call {i d : Nat} {oi : Oper} {v : Value} {fuel : Nat} {lst : Array Bool} (lst' : Array Bool) {f : FuncId} {args : Array Value} (hk : Kn n l a) (hi : ops[i]? = some oi) (ho : oi.dst = some d) (hg : oi.guard = none) (hd : d < n) (hc : readyB .any ops lst lst' i = true) (hds : i ∉ ds)
    (he : Cv P l oi w f args) (hcall : Calls P f args w fun e w' => e = .returned v ∧ Below w.heap.size w w') (hS' : ∀ w', Below w.heap.size w w' → S w') (h : ∀ a' w', Kn n ((d, v) :: l) a' → S w' → wpAnyLast P .any ops Q S ds fuel lst' a' w') : wpAnyLast P .any ops Q S ds (fuel + 1) lst a w := by
  refine one_ lst' hi ho hc hds fun K hK => ?_
  rw [if_pos (by simp [Region.wanted, hg])]
  unfold Oper.wp
  rw [he n a hk]
  refine hcall.mono fun e w' hR => ?_
  obtain ⟨rfl, hb⟩ := hR
  show K (a.put oi.dst v) w'
  rw [ho]
  exact hK.out _ _ (hS' w' hb) (fun hS => h _ _ (hk.put hd v) hS)
theorem t_last {i : Nat} {oi : Oper} {fuel : Nat} {lst : Array Bool} {w' : World} (lst' : Array Bool) (hk : Kn n l a) (hi : ops[i]? = some oi) (ho : oi.dst = none) (hg : oi.guard = none) (hc : readyB .any ops lst lst' i = true) (hds : i ∈ ds)
    (he : Sv P l oi w w') (h : ∀ a', Kn n l a' → wpAnyLast P .any ops Q S ds fuel lst' a' w') : wpAnyLast P .any ops Q S ds (fuel + 1) lst a w := by
  refine last_ lst' hi ho hc hds fun K hK => ?_
  rw [if_pos (by simp [Region.wanted, hg])]
  unfold Oper.wp
  rw [he n a hk]
  show K (a.put oi.dst undef) w'
  rw [ho]
  exact hK.out _ _ (h _ hk)
end

/-- What stands while the predictions are taken away: e's fields, the pixels, the modes, the pixels made. -/
structure LS (w0 : World) (eb xb xc n db dof dl W ob : Nat) (px dx f : Nat → Int) (w : World) : Prop where
  be : Below w0.heap.size w0 w
  e2 : w.cell? ⟨eb, 3, none⟩ = some (.slice (some ⟨xb, 0, none⟩) n xc)
  e3 : w.cell? ⟨eb, 4, none⟩ = some (.int .i64 (W : Int))
  x : ∀ {j : Nat}, j < n → w.cell? ⟨xb, 0 + j, none⟩ = some (.int .u32 (pa px (4 * j)))
  d : ∀ {j : Nat}, j < dl → w.cell? ⟨db, dof + j, none⟩ = some (.int .u8 (dx j))
  o : ∀ {j : Nat}, j < n → w.cell? ⟨ob, j, none⟩ = some (.int .u32 (f j))
  free : ∀ {j : Nat}, j < n → w.frozen? ⟨ob, j, none⟩ = false
  le : eb < w.heap.size
  lx : xb < w.heap.size
  ld : db < w.heap.size
  lo : ob < w.heap.size
  bo : w0.heap.size ≤ ob
  ne : ob ≠ eb
  nx : ob ≠ xb
  nd : ob ≠ db
theorem LS.keep {w0 w w' : World} {eb xb xc n db dof dl W ob : Nat} {px dx f : Nat → Int} (h : LS w0 eb xb xc n db dof dl W ob px dx f w) (hb : Below w.heap.size w w') : LS w0 eb xb xc n db dof dl W ob px dx f w' :=
  ⟨h.be.trans (hb.mono h.be.size), (hb.cell h.le).trans h.e2, (hb.cell h.le).trans h.e3, fun hj => (hb.cell h.lx).trans (h.x hj), fun hj => (hb.cell h.ld).trans (h.d hj), fun hj => (hb.cell h.lo).trans (h.o hj), fun hj => (hb.frozen h.lo).trans (h.free hj),
    Nat.lt_of_lt_of_le h.le hb.size, Nat.lt_of_lt_of_le h.lx hb.size, Nat.lt_of_lt_of_le h.ld hb.size, Nat.lt_of_lt_of_le h.lo hb.size, h.bo, h.ne, h.nx, h.nd⟩
theorem cell_set_far {w : World} {g i : Nat} {v : Value} {p : Addr} (h : p.block ≠ g) : (w.setCell ⟨g, i, none⟩ v).cell? p = w.cell? p := World.cell?_of_block (w := w) (Below.heap_setCell _ _ _ _ h)
theorem LS.put {w0 w : World} {eb xb xc n db dof dl W ob : Nat} {px dx f f' : Nat → Int} (h : LS w0 eb xb xc n db dof dl W ob px dx f w) {i : Nat} {v : Int} (hi : i < n) (hf : ∀ j, f' j = if j = i then v else f j) :
    LS w0 eb xb xc n db dof dl W ob px dx f' (w.setCell ⟨ob, i, none⟩ (.int .u32 v)) := by
  have hs : (w.setCell ⟨ob, i, none⟩ (.int .u32 v)).heap.size = w.heap.size := by simp [World.setCell]
  refine ⟨h.be.setCell h.bo _, (cell_set_far h.ne.symm).trans h.e2, (cell_set_far h.ne.symm).trans h.e3, fun hj => (cell_set_far h.nx.symm).trans (h.x hj), fun hj => (cell_set_far h.nd.symm).trans (h.d hj), fun {j} hj => ?_, fun hj => by rw [frozen_set]; exact h.free hj,
    by rw [hs]; exact h.le, by rw [hs]; exact h.lx, by rw [hs]; exact h.ld, by rw [hs]; exact h.lo, h.bo, h.ne, h.nx, h.nd⟩
  rw [hf j]
  by_cases e : j = i
  · subst e; rw [if_pos rfl]; exact cell_set_same (h.o hi)
  · rw [if_neg e, cell_set_ne e]; exact h.o hj
theorem pf_block : plainFn Try.prog 15 = true := by kernel_rfl
theorem pf_predicted : plainFn Try.prog 14 = true := by kernel_rfl
theorem pf_less : plainFn Try.prog 13 = true := by kernel_rfl
theorem es22b : elemSize Try.prog 22 = some 1 := by kernel_rfl
theorem oc5b : oneCell Try.prog 5 = true := by kernel_rfl
theorem oc31 : oneCell Try.prog 31 = true := by kernel_rfl
theorem ti53 : toInt Try.prog 5 3 .i64 = true := by kernel_rfl
noncomputable def fbBody : Code := sub ((Try.f4.body).getD .skip) [true, true, true, true, true, false, true, false, false, true, false]
set_option maxRecDepth 100000 in
set_option maxHeartbeats 4000000 in
theorem fb_round {Q : Exit → Act → World → Prop} (hQ : ∀ c a v w (d : Nat), Q (.panic c) (Act.put a (some d) v) w → Q (.panic c) a w) {w0 : World} {eb xb xc n db dof dl dc W h b ob oc : Nat} {px dx f : Nat → Int} {i : Nat} {a : Act} {w : World} {v1 v4 : Value} (hr : ∀ i, isByte (px i)) (hd : ∀ i, isByte (dx i))
    (hW : 1 ≤ W) (hW2 : W ≤ 16384) (hb : b ≤ 9) (hn : n ≤ 268435456) (hi : i < n) (D : Nat) (hD : i / W / 2 ^ b * tl W b + i % W / 2 ^ b = D) (hDl : 4 * D + 1 < dl) (hdl : dl ≤ 1073741824) (hm : dx (4 * D + 1) ≤ 13)
    (hk : Kn 102 [(0, .int .i64 (W : Int)), (1, v1), (2, .int .i64 (b : Int)), (3, .slice (some ⟨db, dof, none⟩) dl dc), (4, v4), (11, .pointer (some ⟨eb, 0, none⟩)), (12, .slice (some ⟨ob, 0, none⟩) n oc), (13, .int .i64 (i : Int))] a)
    (hS : LS w0 eb xb xc n db dof dl W ob px dx f w)
    (hn' : ∀ a' w', Kn 102 [(0, .int .i64 (W : Int)), (1, v1), (2, .int .i64 (b : Int)), (3, .slice (some ⟨db, dof, none⟩) dl dc), (4, v4), (11, .pointer (some ⟨eb, 0, none⟩)), (12, .slice (some ⟨ob, 0, none⟩) n oc), (13, .int .i64 (i : Int))] a' →
      LS w0 eb xb xc n db dof dl W ob px dx (fun j => if j = i then pa (res dx W b px) (4 * i) else f j) w' → Q .normal a' w') : (sub fbBody [false]).wp Try.prog Q a w := by
  have hmode : modeAt dx W b i = (dx (4 * D + 1)).toNat := by
    unfold modeAt
    rw [hD]
    have := (hd (4 * D + 1)).1
    omega
  have hmd : dx (4 * D + 1) = (((dx (4 * D + 1)).toNat : Nat) : Int) := by
    have := (hd (4 * D + 1)).1
    omega
  have hm13 : (dx (4 * D + 1)).toNat ≤ 13 := by omega
  have hblk := fun (w : World) (hS : LS w0 eb xb xc n db dof dl W ob px dx f w) => block_any (i := i) hW hW2 hb (by omega) (by rw [hD]; omega) w hS.e3
  rw [hD] at hblk
  have hpv : ∀ c, isByte (pvAt dx W b px i c) := fun c => by
    unfold pvAt
    repeat' split
    all_goals exact pred_byte hr _ _ _ _
  have hres : ∀ c, c < 4 → (px (4 * i + c) - pvAt dx W b px i c) % 256 = res dx W b px (4 * i + c) := fun c hc => by
    unfold res
    rw [show (4 * i + c) / 4 = i by omega, show (4 * i + c) % 4 = c by omega]
  have hless := fun w => drawB (laws_less.calls _ _ _ w (less_pk (hr (4 * i + 0)) (hr (4 * i + 1)) (hr (4 * i + 2)) (hr (4 * i + 3)) (hpv 0) (hpv 1) (hpv 2) (hpv 3)))
  rw [hres 0 (by omega), hres 1 (by omega), hres 2 (by omega), hres 3 (by omega)] at hless
  have hpred := fun (w : World) (hS : LS w0 eb xb xc n db dof dl W ob px dx f w) => predicted_any (cap := xc) hr hmode hm13 hW hW2 hi hn w hS.x
  generalize hX : pk (px (4 * i + 0)) (px (4 * i + 1)) (px (4 * i + 2)) (px (4 * i + 3)) = X at hless
  have hXp : pa px (4 * i) = X := hX
  generalize hR : pk (res dx W b px (4 * i + 0)) (res dx W b px (4 * i + 1)) (res dx W b px (4 * i + 2)) (res dx W b px (4 * i + 3)) = R at hless
  have hRp : pa (res dx W b px) (4 * i) = R := hR
  generalize pk (pvAt dx W b px i 0) (pvAt dx W b px i 1) (pvAt dx W b px i 2) (pvAt dx W b px i 3) = V at hless hpred
  rw [hRp] at hn'
  clear hX hR hres hpv hmode hRp
  unfold fbBody
  conv => arg 2; whnf
  refine start_ (n := 29) (S := fun w' => LS w0 eb xb xc n db dof dl W ob px dx f w') (ds := [28]) #[false, false, false, false, false, false, false, false, false, false, false, false, false, false, false, false, false, false, false, false, false, false, false, false, false, false, false, false, false] (by kernel_rfl) rfl rfl (hS.keep (below_drew (Below.refl _ _))) (fun hS => ?_)
  refine t_take (i := 0) #[true, false, false, false, false, false, false, false, false, false, false, false, false, false, false, false, false, false, false, false, false, false, false, false, false, false, false, false, false] hk rfl rfl rfl (by decide) (by kernel_rfl) (fun _ _ _ h => hQ _ _ _ _ _ h) (fun w hS => e_move rfl) hS fun a hk => ?_
  refine t_take (i := 1) #[true, true, false, false, false, false, false, false, false, false, false, false, false, false, false, false, false, false, false, false, false, false, false, false, false, false, false, false, false] hk rfl rfl rfl (by decide) (by kernel_rfl) (fun _ _ _ h => hQ _ _ _ _ _ h) (fun w hS => e_move rfl) hS fun a hk => ?_
  refine t_take (i := 2) #[true, true, true, false, false, false, false, false, false, false, false, false, false, false, false, false, false, false, false, false, false, false, false, false, false, false, false, false, false] hk rfl rfl rfl (by decide) (by kernel_rfl) (fun _ _ _ h => hQ _ _ _ _ _ h) (fun w hS => e_move rfl) hS fun a hk => ?_
  refine t_take (i := 3) #[true, true, true, true, false, false, false, false, false, false, false, false, false, false, false, false, false, false, false, false, false, false, false, false, false, false, false, false, false] hk rfl rfl rfl (by decide) (by kernel_rfl) (fun _ _ _ h => hQ _ _ _ _ _ h) (fun w hS => e_nilCheck rfl) hS fun a hk => ?_
  refine t_take (i := 4) #[true, true, true, true, true, false, false, false, false, false, false, false, false, false, false, false, false, false, false, false, false, false, false, false, false, false, false, false, false] hk rfl rfl rfl (by decide) (by kernel_rfl) (fun _ _ _ h => hQ _ _ _ _ _ h) (fun w hS => e_field fo_wr2 rfl) hS fun a hk => ?_
  refine t_take (i := 5) #[true, true, true, true, true, true, false, false, false, false, false, false, false, false, false, false, false, false, false, false, false, false, false, false, false, false, false, false, false] hk rfl rfl rfl (by decide) (by kernel_rfl) (fun _ _ _ h => hQ _ _ _ _ _ h) (fun w hS => e_load oc31 rfl hS.e2) hS fun a hk => ?_
  refine t_take (i := 6) #[true, true, true, true, true, true, true, false, false, false, false, false, false, false, false, false, false, false, false, false, false, false, false, false, false, false, false, false, false] hk rfl rfl rfl (by decide) (by kernel_rfl) (fun _ _ _ h => hQ _ _ _ _ _ h) (fun w hS => e_move rfl) hS fun a hk => ?_
  refine t_take (i := 7) #[true, true, true, true, true, true, true, true, false, false, false, false, false, false, false, false, false, false, false, false, false, false, false, false, false, false, false, false, false] hk rfl rfl rfl (by decide) (by kernel_rfl) (fun _ _ _ h => hQ _ _ _ _ _ h) (fun w hS => e_idx1 i es31 rfl rfl rfl hi) hS fun a hk => ?_
  refine t_take (i := 8) #[true, true, true, true, true, true, true, true, true, false, false, false, false, false, false, false, false, false, false, false, false, false, false, false, false, false, false, false, false] hk rfl rfl rfl (by decide) (by kernel_rfl) (fun _ _ _ h => hQ _ _ _ _ _ h) (fun w hS => e_load oc38 rfl (hXp ▸ hS.x hi)) hS fun a hk => ?_
  refine t_take (i := 9) #[true, true, true, true, true, true, true, true, true, true, false, false, false, false, false, false, false, false, false, false, false, false, false, false, false, false, false, false, false] hk rfl rfl rfl (by decide) (by kernel_rfl) (fun _ _ _ h => hQ _ _ _ _ _ h) (fun w hS => e_move rfl) hS fun a hk => ?_
  refine t_take (i := 10) #[true, true, true, true, true, true, true, true, true, true, true, false, false, false, false, false, false, false, false, false, false, false, false, false, false, false, false, false, false] hk rfl rfl rfl (by decide) (by kernel_rfl) (fun _ _ _ h => hQ _ _ _ _ _ h) (fun w hS => e_nilCheck rfl) hS fun a hk => ?_
  refine t_take (i := 11) #[true, true, true, true, true, true, true, true, true, true, true, true, false, false, false, false, false, false, false, false, false, false, false, false, false, false, false, false, false] hk rfl rfl rfl (by decide) (by kernel_rfl) (fun _ _ _ h => hQ _ _ _ _ _ h) (fun w hS => e_field fo_wr2 rfl) hS fun a hk => ?_
  refine t_take (i := 12) #[true, true, true, true, true, true, true, true, true, true, true, true, true, false, false, false, false, false, false, false, false, false, false, false, false, false, false, false, false] hk rfl rfl rfl (by decide) (by kernel_rfl) (fun _ _ _ h => hQ _ _ _ _ _ h) (fun w hS => e_load oc31 rfl hS.e2) hS fun a hk => ?_
  refine t_take (i := 13) #[true, true, true, true, true, true, true, true, true, true, true, true, true, true, false, false, false, false, false, false, false, false, false, false, false, false, false, false, false] hk rfl rfl rfl (by decide) (by kernel_rfl) (fun _ _ _ h => hQ _ _ _ _ _ h) (fun w hS => e_move rfl) hS fun a hk => ?_
  refine t_take (i := 14) #[true, true, true, true, true, true, true, true, true, true, true, true, true, true, true, false, false, false, false, false, false, false, false, false, false, false, false, false, false] hk rfl rfl rfl (by decide) (by kernel_rfl) (fun _ _ _ h => hQ _ _ _ _ _ h) (fun w hS => e_move rfl) hS fun a hk => ?_
  refine t_take (i := 15) #[true, true, true, true, true, true, true, true, true, true, true, true, true, true, true, true, false, false, false, false, false, false, false, false, false, false, false, false, false] hk rfl rfl rfl (by decide) (by kernel_rfl) (fun _ _ _ h => hQ _ _ _ _ _ h) (fun w hS => e_move rfl) hS fun a hk => ?_
  refine t_take (i := 16) #[true, true, true, true, true, true, true, true, true, true, true, true, true, true, true, true, true, false, false, false, false, false, false, false, false, false, false, false, false] hk rfl rfl rfl (by decide) (by kernel_rfl) (fun _ _ _ h => hQ _ _ _ _ _ h) (fun w hS => e_move rfl) hS fun a hk => ?_
  refine t_take (i := 17) #[true, true, true, true, true, true, true, true, true, true, true, true, true, true, true, true, true, true, false, false, false, false, false, false, false, false, false, false, false] hk rfl rfl rfl (by decide) (by kernel_rfl) (fun _ _ _ h => hQ _ _ _ _ _ h) (fun w hS => e_move rfl) hS fun a hk => ?_
  refine t_take (i := 18) #[true, true, true, true, true, true, true, true, true, true, true, true, true, true, true, true, true, true, true, false, false, false, false, false, false, false, false, false, false] hk rfl rfl rfl (by decide) (by kernel_rfl) (fun _ _ _ h => hQ _ _ _ _ _ h) (fun w hS => e_move rfl) hS fun a hk => ?_
  refine t_call (i := 19) #[true, true, true, true, true, true, true, true, true, true, true, true, true, true, true, true, true, true, true, true, false, false, false, false, false, false, false, false, false] hk rfl rfl rfl (by decide) (by kernel_rfl) (by decide) (c_func pf_block rfl) (hblk _ hS) (fun w' hb => hS.keep hb) fun a w hk hS => ?_
  refine t_take (i := 20) #[true, true, true, true, true, true, true, true, true, true, true, true, true, true, true, true, true, true, true, true, true, false, false, false, false, false, false, false, false] hk rfl rfl rfl (by decide) (by kernel_rfl) (fun _ _ _ h => hQ _ _ _ _ _ h) (fun w hS => e_mul_eq ((4 * D : Nat) : Int) rfl rfl (i64_eq (by omega) (by omega) (by omega))) hS fun a hk => ?_
  refine t_take (i := 21) #[true, true, true, true, true, true, true, true, true, true, true, true, true, true, true, true, true, true, true, true, true, true, false, false, false, false, false, false, false] hk rfl rfl rfl (by decide) (by kernel_rfl) (fun _ _ _ h => hQ _ _ _ _ _ h) (fun w hS => e_add_eq ((4 * D + 1 : Nat) : Int) rfl rfl (i64_eq (by omega) (by omega) (by omega))) hS fun a hk => ?_
  refine t_take (i := 22) #[true, true, true, true, true, true, true, true, true, true, true, true, true, true, true, true, true, true, true, true, true, true, true, false, false, false, false, false, false] hk rfl rfl rfl (by decide) (by kernel_rfl) (fun _ _ _ h => hQ _ _ _ _ _ h) (fun w hS => e_idx1 (4 * D + 1) es22b rfl rfl rfl hDl) hS fun a hk => ?_
  refine t_take (i := 23) #[true, true, true, true, true, true, true, true, true, true, true, true, true, true, true, true, true, true, true, true, true, true, true, true, false, false, false, false, false] hk rfl rfl rfl (by decide) (by kernel_rfl) (fun _ _ _ h => hQ _ _ _ _ _ h) (fun w hS => e_load oc5b rfl (hS.d hDl)) hS fun a hk => ?_
  refine t_take (i := 24) #[true, true, true, true, true, true, true, true, true, true, true, true, true, true, true, true, true, true, true, true, true, true, true, true, true, false, false, false, false] hk rfl rfl rfl (by decide) (by kernel_rfl) (fun _ _ _ h => hQ _ _ _ _ _ h) (fun w hS => e_conv_eq (((dx (4 * D + 1)).toNat : Nat) : Int) ti53 rfl (i64_eq hmd (by omega) (by omega))) hS fun a hk => ?_
  refine t_call (i := 25) #[true, true, true, true, true, true, true, true, true, true, true, true, true, true, true, true, true, true, true, true, true, true, true, true, true, true, false, false, false] hk rfl rfl rfl (by decide) (by kernel_rfl) (by decide) (c_func pf_predicted rfl) (hpred _ hS) (fun w' hb => hS.keep hb) fun a w hk hS => ?_
  refine t_call (i := 26) #[true, true, true, true, true, true, true, true, true, true, true, true, true, true, true, true, true, true, true, true, true, true, true, true, true, true, true, false, false] hk rfl rfl rfl (by decide) (by kernel_rfl) (by decide) (c_func pf_less rfl) (hless _) (fun w' hb => hS.keep hb) fun a w hk hS => ?_
  refine t_take (i := 27) #[true, true, true, true, true, true, true, true, true, true, true, true, true, true, true, true, true, true, true, true, true, true, true, true, true, true, true, true, false] hk rfl rfl rfl (by decide) (by kernel_rfl) (fun _ _ _ h => hQ _ _ _ _ _ h) (fun w hS => e_idx0 i es31 rfl rfl rfl hi) hS fun a hk => ?_
  refine t_last (i := 28) #[true, true, true, true, true, true, true, true, true, true, true, true, true, true, true, true, true, true, true, true, true, true, true, true, true, true, true, true, true] hk rfl rfl rfl (by kernel_rfl) (by decide) (s_store oc38 rfl rfl rfl (hS.o hi) (hS.free hi)) fun a hk => ?_
  refine done_ (by kernel_rfl) ?_
  exact hn' _ _ (hk.sub (Sub.cons rfl (Sub.cons rfl (Sub.cons rfl (Sub.cons rfl (Sub.cons rfl (Sub.cons rfl (Sub.cons rfl (Sub.cons rfl (Sub.nil _)))))))))) (hS.put hi fun j => rfl)
end Go.Proofs.Ytgjcikajfnlocaa
