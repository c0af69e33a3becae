/-
  OUR OWN: laws.FnPredictorBack: the path on which predictions are taken away and put back.
-/
import Derived.Test.YtgjcikajfnlocaaBm
namespace Go.Proofs.Ytgjcikajfnlocaa
open Go.RowKit Go.Proofs.Ytgjcikajfnlocaa.PFnPredictorBack Go.Proofs.YtgjcikajfnlocaaW.PrintWords Go.Proofs.YtgjcikajfnlocaaW.PrintLast
set_option linter.unusedVariables false
set_option linter.unusedSimpArgs false

theorem l_callX {P : Program} {n : Nat} {l : KL} {a : Act} {w : World} {o : Oper} {r : List Oper} {Q : Exit → Act → World → Prop} {ops : Array Oper} {R : Ending → World → Prop} {d : Nat} {f : FuncId} {args : Array Value} (hk : Kn n l a) (hg : o.guard = none) (he : Cv P l o w f args) (hc : Calls P f args w R) (ho : o.dst = some d) (hd : d < n)
    (h : ∀ e w', R e w' → ∃ v, e = .returned v ∧ ∀ a', Kn n ((d, v) :: l) a' → wpList P ops Q r a' w') : wpList P ops Q (o :: r) a w := by
  unfold wpList
  rw [if_pos (by simp [Region.wanted, hg])]
  refine .inl ?_
  unfold Oper.wp
  rw [he n a hk]
  refine hc.mono fun e w'' hR => ?_
  obtain ⟨v, rfl, hn⟩ := h e w'' hR
  show wpList P ops Q r (a.put o.dst v) w''
  rw [ho]
  exact hn _ (hk.put hd v)
theorem pf_isArea : plainFn Try.prog 5 = true := by kernel_rfl
theorem pf_blocksOf : plainFn Try.prog 7 = true := by kernel_rfl
theorem pf_isModes : plainFn Try.prog 6 = true := by kernel_rfl
theorem pf_readSums : plainFn Try.prog 8 = true := by kernel_rfl
theorem pf_joined4 : plainFn Try.prog 12 = true := by kernel_rfl
theorem pf_split4 : plainFn Try.prog 16 = true := by kernel_rfl
theorem pf_impl : plainFn Try.prog 10 = true := by kernel_rfl
theorem pf_bytes : plainFn Try.prog 9 = true := by kernel_rfl
theorem i38 : (Try.prog.info? 38).map (fun i => (i.zero, i.size, i.bytes)) = some (some (.int .u32 0), 1, 4) := by kernel_rfl
theorem made_u32 {w : World} {base n : Nat} {g : Nat} (hn : 0 < n) (h : w.ownsRow base 38 1 (.slice (some ⟨g, 0, none⟩) n n) n (madeCells (Value.int .u32 0).cells (n * 1)).toList) :
    g < w.heap.size ∧ (∀ {j : Nat}, j < n → w.cell? ⟨g, j, none⟩ = some (.int .u32 0)) ∧ (∀ {j : Nat}, j < n → w.frozen? ⟨g, j, none⟩ = false) := by
  obtain ⟨_, h⟩ := h
  rcases h with ⟨_, rfl⟩ | ⟨g', cap, cur, he, hb, hg, hnc, _, hsz, ht⟩
  · omega
  · simp only [Value.slice.injEq, Option.some.injEq, Addr.mk.injEq, and_true, true_and] at he
    obtain ⟨rfl, rfl⟩ := he
    refine ⟨(Array.getElem?_eq_some_iff.1 hg).1, fun {j} hj => ?_, fun {j} hj => ?_⟩
    · unfold World.cell?
      simp only [hg]
      have : cur.toList[j]? = some (.int .u32 0) := by
        have h1 : (cur.toList.take (n * 1))[j]? = some (Value.int .u32 0) := by
          rw [ht]
          simp [madeCells, Value.cells, hj, Nat.mod_one]
        rwa [List.getElem?_take_of_lt (by omega)] at h1
      simpa using this
    · unfold World.frozen?
      simp [hg]
/-- What is made of the pixels at the end: put back, and held against them. -/
theorem tail_any {w0 w : World} {eb xb xc n db dof dc W h b ob : Nat} {l3 l4 : List Int} {c4 : Nat} {A4 : Option Addr} {dx : Nat → Int} (hdx : dx = fun i => l3.getD i 0) (hS : LS w0 eb xb xc n db dof l3.length W ob (fun i => l4.getD i 0) dx (fun j => pa (res dx W b (fun i => l4.getD i 0)) (4 * j)) w)
    (hr4 : Kd.C (Kd.int .u8) w0 A4 l4.length l4) (hc4 : l4.length ≤ c4) (hr3 : Kd.C (Kd.int .u8) w0 (some ⟨db, dof, none⟩) l3.length l3) (hb3 : ∀ i, isByte (l3.getD i 0)) (hb4 : ∀ i, isByte (l4.getD i 0))
    (hW : 1 ≤ W) (hh : 1 ≤ h) (hW2 : W ≤ 16384) (hh2 : h ≤ 16384) (hb : b ≤ 9) (hn : n = W * h) (h4 : l4.length = 4 * n) (h3 : l3.length = 4 * (tl W b * tl h b)) :
    Calls Try.prog 16 #[.slice (some ⟨ob, 0, none⟩) n n] w fun e w1 => ∃ A c, e = .returned (.slice A l4.length c) ∧
      Calls Try.prog 10 #[.int .i64 (W : Int), .int .i64 (h : Int), .int .i64 (b : Int), .slice (some ⟨db, dof, none⟩) l3.length dc, .slice A l4.length c] w1 fun e w2 => ∃ A' c', e = .returned (.slice A' l4.length c') ∧
        Calls Try.prog 9 #[.slice A' l4.length c', .slice A4 l4.length c4] w2 fun e w3 => e = .returned (.bool true) ∧ Below w0.heap.size w0 w3 := by
  subst hdx
  have hWh2 : W * h ≤ 268435456 := Nat.le_trans (Nat.mul_le_mul hW2 hh2) (by decide)
  generalize hrs : res (fun i => l3.getD i 0) W b (fun i => l4.getD i 0) = rs at hS
  have hrb : ∀ i, isByte (rs i) := fun i => by rw [← hrs]; exact res_byte _ _ _ _ _
  have hC : Kd.C (Kd.int .u32) w (some ⟨ob, 0, none⟩) ((List.range n).map fun j => pa rs (4 * j)).length ((List.range n).map fun j => pa rs (4 * j)) := by
    rw [range_len]
    refine Kd.C_of_reads (d := (0 : Int)) (h1 := fun _ => rfl) ⟨by simp, by omega, fun h0 => ⟨_, rfl, fun j hj => ?_⟩⟩
    rw [Addr.add_eq, Nat.zero_add, hS.o hj]
    simp [hj]
  have hsp := laws_split4.calls (n + 1) _ n _ _ w hC (by rw [range_len]; exact Nat.le_refl _) (split_eq hrb n (by omega) (n + 1) (Nat.le_refl _))
  rw [range_len] at hsp
  refine hsp.mono ?_
  rintro e w1 ⟨v, rfl, hR, hB1⟩
  obtain ⟨A, c, rfl, hc, hC1⟩ := Kd.R_reads hR
  have hlen : ((List.range (4 * n)).map rs).length = l4.length := by rw [range_len, h4]
  refine ⟨A, c, by rw [hlen], ?_⟩
  have HB1 : Below w0.heap.size w0 w1 := hS.be.trans (hB1.mono hS.be.size)
  have hrx : ∀ q, q < 4 * n → ((List.range (4 * n)).map rs).getD q 0 = rs q := fun q hq => by
    have := rd_range (4 * n) rs q hq
    unfold rd at this
    rwa [Int.toNat_natCast] at this
  have hbx : ∀ i, isByte (((List.range (4 * n)).map rs).getD i 0) := fun i => by
    by_cases hi : i < 4 * n
    · rw [hrx i hi]; exact hrb i
    · rw [List.getD_eq_getElem?_getD, List.getElem?_eq_none (by rw [range_len]; omega)]
      exact ⟨by decide, by decide⟩
  have himp := impl_any (A3 := some ⟨db, dof, none⟩) (A4 := A) (c3 := dc) (c4 := c) (l3 := l3) (l4 := (List.range (4 * n)).map rs) (Kd.C_below hr3 HB1) hC1 hb3 hbx hW hh hW2 hh2 hb (by rw [range_len, hn]) h3
  generalize hX : (List.range (4 * n)).map rs = X at himp hlen hrx
  rw [hlen] at himp
  refine himp.mono ?_
  rintro e w2 ⟨A', c', rfl, hc', hC2, hB2⟩
  refine ⟨A', c', rfl, ?_⟩
  have HB2 : Below w0.heap.size w0 w2 := HB1.trans (hB2.mono HB1.size)
  have e : (List.range l4.length).map (ipx (fun i => l3.getD i 0) W b (fun i => X.getD i 0) (W * h)) = l4 := by
    rw [← list_range l4, range_len]
    refine List.map_congr_left fun q hq => ?_
    have hq' := List.mem_range.1 hq
    exact back_all' (N := n) hb4 hW (fun q hq => by rw [hrx q hq, hrs]) (W * h) q (by omega) (by omega)
  rw [e] at hC2
  refine (laws_bytes.calls (l4.length + 1) A' c' l4 A4 c4 l4 true w2 hC2 hc' (Kd.C_below hr4 HB2) hc4 (bytes_same l4 (by omega))).mono ?_
  rintro e w3 ⟨rfl, hD⟩
  exact ⟨rfl, HB2.trans (hD.below.mono HB2.size)⟩
set_option maxRecDepth 100000 in
set_option maxHeartbeats 8000000 in
theorem go_all {w0 w : World} (HB : Below w0.heap.size w0 w) {W h b n db dof c3 c4 : Nat} {l3 l4 : List Int} {A4 : Option Addr} (hr4 : Kd.C (Kd.int .u8) w0 A4 l4.length l4) (hc4 : l4.length ≤ c4) (hr3 : Kd.C (Kd.int .u8) w0 (some ⟨db, dof, none⟩) l3.length l3) (hb3 : ∀ i, isByte (l3.getD i 0)) (hb4 : ∀ i, isByte (l4.getD i 0))
    (hdb : db < w0.heap.size) (hdc : ∀ {i : Nat}, i < l3.length → w0.cell? ⟨db, dof + i, none⟩ = some (.int .u8 (l3.getD i 0)))
    (hW : 1 ≤ W) (hh : 1 ≤ h) (hW2 : W ≤ 16384) (hh2 : h ≤ 16384) (hb : b ≤ 9) (hb2 : 2 ≤ b) (hn : n = W * h) (h4 : l4.length = 4 * n) (h3 : l3.length = 4 * (tl W b * tl h b)) (hm : ∀ u, u < tl W b * tl h b → l3.getD (4 * u + 1) 0 ≤ 13)
    (KA : ∀ w1, Below w0.heap.size w0 w1 → Calls Try.prog 5 #[.int .i64 (W : Int), .int .i64 (h : Int), .slice A4 l4.length c4] w1 fun e w' => e = .returned (.bool true) ∧ Below w0.heap.size w0 w')
    (KB : ∀ w1, Below w0.heap.size w0 w1 → Calls Try.prog 7 #[.int .i64 (W : Int), .int .i64 (h : Int), .int .i64 (b : Int)] w1 fun e w' => e = .returned (.int .i64 ((tl W b * tl h b : Nat) : Int)) ∧ Below w0.heap.size w0 w')
    (KM : ∀ w1, Below w0.heap.size w0 w1 → Calls Try.prog 6 #[.slice (some ⟨db, dof, none⟩) l3.length c3, .int .i64 ((tl W b * tl h b : Nat) : Int)] w1 fun e w' => e = .returned (.bool true) ∧ Below w0.heap.size w0 w')
    (KS : ∀ w1, Below w0.heap.size w0 w1 → Calls Try.prog 8 #[] w1 fun e w' => e = .returned (.bool true) ∧ Below w0.heap.size w0 w') :
    Calls Try.prog 4 #[.int .i64 (W : Int), .int .i64 (h : Int), .int .i64 (b : Int), .slice (some ⟨db, dof, none⟩) l3.length c3, .slice A4 l4.length c4] w fun e w' => e = .returned (.bool true) ∧ Below w0.heap.size w0 w' := by
  have hWh2 : W * h ≤ 268435456 := Nat.le_trans (Nat.mul_le_mul hW2 hh2) (by decide)
  have hT2 : tl W b * tl h b ≤ W * h := Nat.mul_le_mul (tl_le hW) (tl_le hh)
  have hn1 : 1 ≤ n := by rw [hn]; exact Nat.mul_pos hW hh
  have hn2 : n ≤ 268435456 := by rw [hn]; exact hWh2
  have hj4 : laws_joined4.f (n + 1) l4 = some ((List.range n).map fun j => pa (fun i => l4.getD i 0) (4 * j)) := by
    have := joined_eq hb4 n hn2 (n + 1) (Nat.le_refl _)
    rw [← h4, list_range] at this
    exact this
  refine k_enter Try.func4 rfl (Nat.le_of_ble_eq_true rfl) (args := [_, _, _, _, _]) fun a hk => ?_
  conv => arg 2; whnf
  refine k_seq ?_
  refine rg (by kernel_rfl) ?_
  refine u_val hk (e_assign rfl) rfl (by decide) fun a hk => ?_
  refine u_nil ?_
  refine k_seq ?_
  refine k_seq ?_
  refine rgl ?_
  refine l_val hk rfl (e_move rfl) rfl (by decide) fun a hk => ?_
  refine l_val hk rfl (e_len Try.underlying22 rfl) rfl (by decide) fun a hk => ?_
  refine l_val hk rfl (e_gtrF rfl rfl (by omega)) rfl (by decide) fun a hk => ?_
  refine l_val hk rfl (e_move rfl) rfl (by decide) fun a hk => ?_
  refine l_on (j := 3) (b := false) hk rfl rfl (e_move rfl) rfl (by decide) fun a hk => ?_
  refine l_on (j := 3) (b := false) hk rfl rfl (e_len Try.underlying22 rfl) rfl (by decide) fun a hk => ?_
  refine l_on (j := 3) (b := false) hk rfl rfl (e_gtrF rfl rfl (by omega)) rfl (by decide) fun a hk => ?_
  refine l_val hk rfl (e_pickF rfl rfl) rfl (by decide) fun a hk => ?_
  refine l_nil ?_
  refine k_false hk rfl ?_
  refine wp_skip ?_
  refine k_seq ?_
  refine k_seq ?_
  refine rgl ?_
  refine l_val hk rfl (e_move rfl) rfl (by decide) fun a hk => ?_
  refine l_val hk rfl (e_move rfl) rfl (by decide) fun a hk => ?_
  refine l_val hk rfl (e_move rfl) rfl (by decide) fun a hk => ?_
  refine l_callB hk rfl (c_func pf_isArea rfl) (KA w HB) rfl (by decide) fun w a hk HB => ?_
  refine l_val hk rfl (e_not rfl) rfl (by decide) fun a hk => ?_
  refine l_val hk rfl (e_move rfl) rfl (by decide) fun a hk => ?_
  refine l_on (j := 5) (b := false) hk rfl rfl (e_move rfl) rfl (by decide) fun a hk => ?_
  refine l_on (j := 5) (b := false) hk rfl rfl (e_lssF rfl rfl (by omega)) rfl (by decide) fun a hk => ?_
  refine l_val hk rfl (e_pickF rfl rfl) rfl (by decide) fun a hk => ?_
  refine l_val hk rfl (e_move rfl) rfl (by decide) fun a hk => ?_
  refine l_on (j := 9) (b := false) hk rfl rfl (e_move rfl) rfl (by decide) fun a hk => ?_
  refine l_on (j := 9) (b := false) hk rfl rfl (e_gtrF rfl rfl (by omega)) rfl (by decide) fun a hk => ?_
  refine l_val hk rfl (e_pickF rfl rfl) rfl (by decide) fun a hk => ?_
  refine l_val hk rfl (e_move rfl) rfl (by decide) fun a hk => ?_
  refine l_on (j := 13) (b := false) hk rfl rfl (e_move rfl) rfl (by decide) fun a hk => ?_
  refine l_on (j := 13) (b := false) hk rfl rfl (e_move rfl) rfl (by decide) fun a hk => ?_
  refine l_on (j := 13) (b := false) hk rfl rfl (e_move rfl) rfl (by decide) fun a hk => ?_
  refine l_on (j := 13) (b := false) hk rfl rfl (e_move rfl) rfl (by decide) fun a hk => ?_
  refine l_callB_on (j := 13) (b := false) hk rfl rfl (c_func pf_blocksOf rfl) (KB w HB) rfl (by decide) fun w a hk HB => ?_
  refine l_callB_on (j := 13) (b := false) hk rfl rfl (c_func pf_isModes rfl) (KM w HB) rfl (by decide) fun w a hk HB => ?_
  refine l_on (j := 13) (b := false) hk rfl rfl (e_not rfl) rfl (by decide) fun a hk => ?_
  refine l_val hk rfl (e_pickF rfl rfl) rfl (by decide) fun a hk => ?_
  refine l_nil ?_
  refine k_false hk rfl ?_
  refine wp_skip ?_
  replace hk := hk.sub (l' := [(0, .int .i64 (W : Int)), (1, .int .i64 (h : Int)), (2, .int .i64 (b : Int)), (3, .slice (some ⟨db, dof, none⟩) l3.length c3), (4, .slice A4 l4.length c4)]) (Sub.cons rfl (Sub.cons rfl (Sub.cons rfl (Sub.cons rfl (Sub.cons rfl (Sub.nil _))))))
  refine k_seq ?_
  refine rg (by kernel_rfl) ?_
  refine u_val hk (e_move rfl) rfl (by decide) fun a hk => ?_
  refine u_call hk (c_func pf_joined4 rfl) (laws_joined4.calls (n + 1) A4 c4 l4 _ w (Kd.C_below hr4 HB) hc4 hj4) rfl (by decide) fun e w1 hJ => ?_
  obtain ⟨v, rfl, hJR, hJB⟩ := hJ
  obtain ⟨xb, xc, rfl, hxb, hxs, hxc, _, hxx⟩ := own_u32 (by rw [range_len]; exact hn1) hJR
  rw [range_len] at hxc hxx ⊢
  refine ⟨_, rfl, fun a hk => ?_⟩
  refine u_val hk (e_move rfl) rfl (by decide) fun a hk => ?_
  refine u_val hk (e_bd37 rfl rfl) rfl (by decide) fun a hk => ?_
  refine u_val hk (e_bx37 rfl) rfl (by decide) fun a hk => ?_
  refine u_val hk (e_assign rfl) rfl (by decide) fun a hk => ?_
  refine u_nil ?_
  have HB1 : Below w0.heap.size w0 w1 := HB.trans (hJB.mono HB.size)
  have hbl := below_alloc (Below.refl w1.heap.size w1) (.cells #[.pointer none, .slice none 0 0, .int .i64 0, .slice (some ⟨xb, 0, none⟩) n xc, .int .i64 (W : Int)] 37 (0, 0))
  have hnew := blk_new w1 (.cells #[.pointer none, .slice none 0 0, .int .i64 0, .slice (some ⟨xb, 0, none⟩) n xc, .int .i64 (W : Int)] 37 (0, 0))
  generalize w1.alloc (.cells #[.pointer none, .slice none 0 0, .int .i64 0, .slice (some ⟨xb, 0, none⟩) n xc, .int .i64 (W : Int)] 37 (0, 0)) = w2 at hbl hnew ⊢
  generalize heb : w1.heap.size = eb at hbl hnew hk hxs
  have hcell : ∀ (i : Nat) (v : Value), (#[Value.pointer none, .slice none 0 0, .int .i64 0, .slice (some ⟨xb, 0, none⟩) n xc, .int .i64 (W : Int)] : Array Value)[i]? = some v → w2.cell? ⟨eb, i, none⟩ = some v := fun i v hv => by
    unfold World.cell?
    simp only [hnew]
    simpa using hv
  have he3 := hcell 3 _ rfl
  have he4 := hcell 4 _ rfl
  have hel : eb < w2.heap.size := blk_lt hnew
  obtain ⟨i0, hi, hz0, hz1, hz2⟩ := info_parts i38
  obtain ⟨w3, hrun, hown, hgrow⟩ := run_make_full (P := Try.prog) w2 w2.heap.size 31 38 i0 (.int .u32 0) 1 Try.underlying31 hi hz0 hz1 .i64 .i64 n (by rw [hz2]; omega) (by unfold maxLen; omega) (Nat.le_refl _)
  obtain ⟨hol, hoc, hof⟩ := made_u32 hn1 hown
  have hbg : Below w2.heap.size w2 w3 := (Below.refl _ w2).grown hgrow (Nat.le_refl _) (fun k hk => by cases hk)
  have HB2 : Below w0.heap.size w0 w2 := HB1.trans (hbl.mono (by rw [← heb]; exact HB1.size))
  have HB3 : Below w0.heap.size w0 w3 := HB2.trans (hbg.mono HB2.size)
  have hs12 : eb ≤ w2.heap.size := Nat.le_of_lt hel
  have hx2 : xb < eb := hxs
  have hd1 : db < eb := by rw [← heb]; exact Nat.lt_of_lt_of_le hdb HB1.size
  have hS : LS w0 eb xb xc n db dof l3.length W w2.heap.size (fun i => l4.getD i 0) (fun i => l3.getD i 0) (fun _ => 0) w3 := by
    refine ⟨HB3, (hbg.cell hel).trans he3, (hbg.cell hel).trans he4, fun {j} hj => ?_, fun hj => (HB3.cell hdb).trans (hdc hj), hoc, hof, Nat.lt_of_lt_of_le hel hbg.size, Nat.lt_of_lt_of_le (Nat.lt_trans hx2 hel) hbg.size, Nat.lt_of_lt_of_le (Nat.lt_trans hd1 hel) hbg.size, hol, HB2.size, Nat.ne_of_gt hel, Nat.ne_of_gt (Nat.lt_trans hx2 hel), Nat.ne_of_gt (Nat.lt_trans hd1 hel)⟩
    have h1 := hxx hj
    have h2 : ((List.range n).map fun j => pa (fun i => l4.getD i 0) (4 * j)).getD j 0 = pa (fun i => l4.getD i 0) (4 * j) := by
      have := rd_range n (fun j => pa (fun i => l4.getD i 0) (4 * j)) j hj
      unfold rd at this
      rwa [Int.toNat_natCast] at this
    rw [h2] at h1
    have h3 : w2.cell? ⟨xb, 0 + j, none⟩ = some (.int .u32 (pa (fun i => l4.getD i 0) (4 * j))) := (hbl.cell hx2).trans h1
    exact (hbg.cell (Nat.lt_trans hx2 hel)).trans h3
  clear hoc hof hown hgrow hnew hcell hxx hJR hi hz0 hz1 hz2 hj4 HB1 HB2 hbg hbl
  refine k_seq ?_
  refine rg (by kernel_rfl) ?_
  refine u_val hk (e_move rfl) rfl (by decide) fun a hk => ?_
  refine u_val hk (e_nilCheck rfl) rfl (by decide) fun a hk => ?_
  refine u_val hk (e_field fo_wr2 rfl) rfl (by decide) fun a hk => ?_
  refine u_val hk (e_load oc31 rfl he3) rfl (by decide) fun a hk => ?_
  refine u_val hk (e_len Try.underlying31 rfl) rfl (by decide) fun a hk => ?_
  refine u_val hk (e_mk31 rfl rfl hrun) rfl (by decide) fun a hk => ?_
  refine u_val hk (e_assign rfl) rfl (by decide) fun a hk => ?_
  refine u_nil ?_
  clear hrun he3 he4 HB HB3 hol
  generalize w2.heap.size = ob at hk hS hel hs12
  replace hk := hk.sub (l' := [(0, .int .i64 (W : Int)), (1, .int .i64 (h : Int)), (2, .int .i64 (b : Int)), (3, .slice (some ⟨db, dof, none⟩) l3.length c3), (4, .slice A4 l4.length c4), (11, .pointer (some ⟨eb, 0, none⟩)), (12, .slice (some ⟨ob, 0, none⟩) n n)]) (Sub.cons rfl (Sub.cons rfl (Sub.cons rfl (Sub.cons rfl (Sub.cons rfl (Sub.cons rfl (Sub.cons rfl (Sub.nil _))))))))
  refine k_seq ?_
  refine k_seq ?_
  refine rg (by kernel_rfl) ?_
  refine u_val hk (e_assign rfl) rfl (by decide) fun a hk => ?_
  refine u_nil ?_
  refine wp_block ?_
  refine k_loop (fun m a w => ∃ i : Nat, i ≤ n ∧ m = n - i ∧ Kn 102 [(0, .int .i64 (W : Int)), (1, .int .i64 (h : Int)), (2, .int .i64 (b : Int)), (3, .slice (some ⟨db, dof, none⟩) l3.length c3), (4, .slice A4 l4.length c4), (11, .pointer (some ⟨eb, 0, none⟩)), (12, .slice (some ⟨ob, 0, none⟩) n n), (13, .int .i64 (i : Int))] a ∧ LS w0 eb xb xc n db dof l3.length W ob (fun i => l4.getD i 0) (fun i => l3.getD i 0) (fun j => if j < i then pa (res (fun i => l3.getD i 0) W b (fun i => l4.getD i 0)) (4 * j) else 0) w) n
    ⟨0, by omega, rfl, hk.sub (Sub.cons rfl (Sub.cons rfl (Sub.cons rfl (Sub.cons rfl (Sub.cons rfl (Sub.cons rfl (Sub.cons rfl (Sub.cons rfl (Sub.nil _))))))))), by simpa using hS⟩ ?_
  clear hS
  rintro m a w ⟨i, hin, rfl, hk, hS⟩
  refine k_seq ?_
  refine k_seq ?_
  refine rg (by kernel_rfl) ?_
  refine u_val hk (e_move rfl) rfl (by decide) fun a hk => ?_
  refine u_val hk (e_move rfl) rfl (by decide) fun a hk => ?_
  refine u_val hk (e_len Try.underlying31 rfl) rfl (by decide) fun a hk => ?_
  refine u_val hk (e_lss rfl rfl) rfl (by decide) fun a hk => ?_
  refine u_nil ?_
  refine k_cond hk rfl (fun hc => ?_) (fun hc => ?_)
  · replace hc : i < n := by have := of_decide_eq_true hc; omega
    refine wp_skip ?_
    refine k_seq ?_
    refine wp_block ?_
    have htx : i % W / 2 ^ b < tl W b := div_lt_tl (Nat.mod_lt i (show 0 < W by omega))
    have hrow : i / W < h := by rw [Nat.div_lt_iff_lt_mul (by omega), Nat.mul_comm, ← hn]; exact hc
    have hty : i / W / 2 ^ b < tl h b := div_lt_tl hrow
    have hD : i / W / 2 ^ b * tl W b + i % W / 2 ^ b < tl W b * tl h b := by
      have : (i / W / 2 ^ b + 1) * tl W b ≤ tl h b * tl W b := Nat.mul_le_mul_right _ hty
      rw [Nat.add_mul, Nat.one_mul, Nat.mul_comm (tl h b)] at this
      exact Nat.lt_of_lt_of_le (Nat.add_lt_add_left htx _) this
    have hD4 : 4 * (i / W / 2 ^ b * tl W b + i % W / 2 ^ b) + 1 < l3.length := by rw [h3]; omega
    replace hk := hk.sub (l' := [(0, .int .i64 (W : Int)), (1, .int .i64 (h : Int)), (2, .int .i64 (b : Int)), (3, .slice (some ⟨db, dof, none⟩) l3.length c3), (4, .slice A4 l4.length c4), (11, .pointer (some ⟨eb, 0, none⟩)), (12, .slice (some ⟨ob, 0, none⟩) n n), (13, .int .i64 (i : Int))]) (Sub.cons rfl (Sub.cons rfl (Sub.cons rfl (Sub.cons rfl (Sub.cons rfl (Sub.cons rfl (Sub.cons rfl (Sub.cons rfl (Sub.nil _)))))))))
    refine fb_round (px := fun i => l4.getD i 0) (dx := fun i => l3.getD i 0) (h := h) (fun _ _ _ _ _ h => h) hb4 hb3 hW hW2 hb hn2 hc _ rfl hD4 (by omega) (hm _ hD) hk hS fun a w hk hS => ?_
    refine rg (by kernel_rfl) ?_
    refine u_val hk (e_move rfl) rfl (by decide) fun a hk => ?_
    refine u_val hk (e_add_eq ((i + 1 : Nat) : Int) rfl rfl (i64_eq (by omega) (by omega) (by omega))) rfl (by decide) fun a hk => ?_
    refine u_val hk (e_assign rfl) rfl (by decide) fun a hk => ?_
    refine u_nil ?_
    refine ⟨n - (i + 1), by omega, i + 1, by omega, rfl, hk.sub (Sub.cons rfl (Sub.cons rfl (Sub.cons rfl (Sub.cons rfl (Sub.cons rfl (Sub.cons rfl (Sub.cons rfl (Sub.cons rfl (Sub.nil _))))))))), ?_⟩
    have e : (fun j => if j = i then pa (res (fun i => l3.getD i 0) W b (fun i => l4.getD i 0)) (4 * i) else if j < i then pa (res (fun i => l3.getD i 0) W b (fun i => l4.getD i 0)) (4 * j) else 0) = fun j => if j < i + 1 then pa (res (fun i => l3.getD i 0) W b (fun i => l4.getD i 0)) (4 * j) else 0 := by
      funext j
      by_cases e1 : j = i
      · subst e1; rw [if_pos rfl, if_pos (by omega)]
      · rw [if_neg e1]
        by_cases e2 : j < i
        · rw [if_pos e2, if_pos (by omega)]
        · rw [if_neg e2, if_neg (by omega)]
    rw [← e]
    exact hS
  · replace hc : ¬ i < n := by have := of_decide_eq_false hc; omega
    obtain rfl : i = n := by omega
    refine wp_exit ?_
    show Code.wp _ _ _ _ _
    replace hS : LS w0 eb xb xc i db dof l3.length W ob (fun i => l4.getD i 0) (fun i => l3.getD i 0) (fun j => pa (res (fun i => l3.getD i 0) W b (fun i => l4.getD i 0)) (4 * j)) w :=
      { hS with o := fun {j} hj => by have := hS.o hj; rwa [if_pos hj] at this }
    have hT := tail_any (dc := c3) rfl hS hr4 hc4 hr3 hb3 hb4 hW hh hW2 hh2 hb hn h4 h3
    clear hS
    refine k_seq ?_
    refine rgl ?_
    refine l_val hk rfl (e_move rfl) rfl (by decide) fun a hk => ?_
    refine l_val hk rfl (e_move rfl) rfl (by decide) fun a hk => ?_
    refine l_val hk rfl (e_move rfl) rfl (by decide) fun a hk => ?_
    refine l_val hk rfl (e_move rfl) rfl (by decide) fun a hk => ?_
    refine l_val hk rfl (e_move rfl) rfl (by decide) fun a hk => ?_
    refine l_callX hk rfl (c_func pf_split4 rfl) hT rfl (by decide) fun e w1 hR => ?_
    obtain ⟨A, c, rfl, hT⟩ := hR
    refine ⟨_, rfl, fun a hk => ?_⟩
    refine l_callX hk rfl (c_func pf_impl rfl) hT rfl (by decide) fun e w2 hR => ?_
    obtain ⟨A', c', rfl, hT⟩ := hR
    refine ⟨_, rfl, fun a hk => ?_⟩
    refine l_val hk rfl (e_move rfl) rfl (by decide) fun a hk => ?_
    refine l_callB hk rfl (c_func pf_bytes rfl) hT rfl (by decide) fun w a hk HB => ?_
    refine l_val hk rfl (e_move rfl) rfl (by decide) fun a hk => ?_
    refine l_callB_on (j := 9) (b := true) hk rfl rfl (c_func pf_readSums rfl) (KS w HB) rfl (by decide) fun w a hk HB => ?_
    refine l_val hk rfl (e_pickT rfl rfl) rfl (by decide) fun a hk => ?_
    refine l_val hk rfl (e_assign rfl) rfl (by decide) fun a hk => ?_
    refine l_nil ?_
    refine wp_ret ?_
    exact k_ret1 hk rfl rfl ⟨rfl, HB⟩
end Go.Proofs.Ytgjcikajfnlocaa
