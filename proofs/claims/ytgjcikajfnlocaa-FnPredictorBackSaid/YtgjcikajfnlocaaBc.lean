/-
  OUR OWN: FnPredictorBack: contracts of laws.full, laws.half, laws.guess.
-/
import Derived.Test.YtgjcikajfnlocaaBp
namespace Go.Proofs.Ytgjcikajfnlocaa
open Go.RowKit Go.Proofs.Ytgjcikajfnlocaa.PFnPredictorBack Go.Proofs.YtgjcikajfnlocaaW.PrintWords Go.Proofs.YtgjcikajfnlocaaW.PrintLast
set_option linter.unusedVariables false
set_option linter.unusedSimpArgs false

/-- A call that keeps what stood. -/
theorem u_callB {P : Program} {n : Nat} {l : KL} {a : Act} {w : World} {o : Oper} {r : List Oper} {Q : Exit → Act → World → Prop} {d : Nat} {v : Value} {f : FuncId} {args : Array Value} (hk : Kn n l a) (he : Cv P l o w f args)
    (hc : Calls P f args w (fun e w' => e = .returned v ∧ Below w.heap.size w w')) (ho : o.dst = some d) (hd : d < n) (h : ∀ w' a', Kn n ((d, v) :: l) a' → Below w.heap.size w w' → wpU P Q r a' w') : wpU P Q (o :: r) a w :=
  u_call hk he hc ho hd fun e w' ⟨h1, h2⟩ => ⟨v, h1, fun a' hk' => h w' a' hk' h2⟩
theorem drawB {f : FuncId} {args : Array Value} {w : World} {P : Program} {v : Value} (h : Calls P f args w fun e w' => e = .returned v ∧ Drawn0 w w') : Calls P f args w fun e w' => e = .returned v ∧ Below w.heap.size w w' :=
  h.mono fun e w' h => ⟨h.1, h.2.below⟩
/-- Four ints of a block. -/
structure A4 (w : World) (g : Nat) (f : Nat → Int) : Prop where
  cell : ∀ {j : Nat}, j < 4 → w.cell? ⟨g, j, none⟩ = some (.int .i64 (f j))
  free : ∀ {j : Nat}, j < 4 → w.frozen? ⟨g, j, none⟩ = false
  lt : g < w.heap.size
theorem A4.keep {w w' : World} {g : Nat} {f : Nat → Int} (h : A4 w g f) (hb : Below w.heap.size w w') : A4 w' g f :=
  ⟨fun hj => (hb.cell h.lt).trans (h.cell hj), fun hj => (hb.frozen h.lt).trans (h.free hj), Nat.lt_of_lt_of_le h.lt hb.size⟩
theorem A4.put {w : World} {g k : Nat} {f f' : Nat → Int} {v : Int} (h : A4 w g f) (hk : k < 4) (he : ∀ j, j < 4 → f' j = if j = k then v else f j) : A4 (w.setCell ⟨g, k, none⟩ (.int .i64 v)) g f' := by
  refine ⟨fun {j} hj => ?_, fun hj => by rw [frozen_set]; exact h.free hj, by simpa [World.setCell] using h.lt⟩
  rw [he j hj]
  by_cases e : j = k
  · subst e; rw [if_pos rfl]; exact cell_set_same (h.cell hk)
  · rw [if_neg e, cell_set_ne e]; exact h.cell hj
theorem al62 (w : World) : (Instr.alloc 62 true (.tuple #[])).run Try.prog w = .ok (.pointer (some ⟨w.heap.size, 0, none⟩)) (w.alloc (.cells #[.int .i64 0, .int .i64 0, .int .i64 0, .int .i64 0] 62 (0, 0))) := by kernel_rfl
theorem e_al62 {l : KL} {w : World} {dst : Option Tmp} {ty : TypeId} {pos : String} {after : Array Edge} {guard : Option (Nat × Bool)} : Ev Try.prog l ⟨dst, .alloc 62, ty, pos, after, guard⟩ w (.pointer (some ⟨w.heap.size, 0, none⟩)) (w.alloc (.cells #[.int .i64 0, .int .i64 0, .int .i64 0, .int .i64 0] 62 (0, 0))) := fun n a hk => by
  simp [execOp, al62, Result.andThen]
theorem A4.new (w : World) : A4 (w.alloc (.cells #[.int .i64 0, .int .i64 0, .int .i64 0, .int .i64 0] 62 (0, 0))) w.heap.size (fun _ => 0) := by
  have hnew := blk_new w (.cells #[.int .i64 0, .int .i64 0, .int .i64 0, .int .i64 0] 62 (0, 0))
  refine ⟨fun {j} hj => ?_, fun {j} hj => ?_, blk_lt hnew⟩
  · unfold World.cell?
    simp only [hnew]
    match j, hj with
    | 0, _ => rfl
    | 1, _ => rfl
    | 2, _ => rfl
    | 3, _ => rfl
  · unfold World.frozen?
    simp only [hnew]
    simp
theorem ar62 : arrSize Try.prog 62 = some (4, 1) := by kernel_rfl
theorem oc3 : oneCell Try.prog 3 = true := by kernel_rfl
theorem pf_part : plainFn Try.prog 27 = true := by kernel_rfl
theorem pf_held : plainFn Try.prog 51 = true := by kernel_rfl
theorem pf_pixel : plainFn Try.prog 26 = true := by kernel_rfl
/-- The parts of a pixel: blue, green, red, alpha. -/
def pt (r g b a : Int) (k : Nat) : Int := match k with | 0 => b | 1 => g | 2 => r | _ => a
theorem pt_byte {r g b a : Int} (hr : isByte r) (hg : isByte g) (hb : isByte b) (ha : isByte a) (k : Nat) : isByte (pt r g b a k) := by
  unfold pt
  split
  · exact hb
  · exact hg
  · exact hr
  · exact ha
theorem part_k {r g b a : Int} (hr : isByte r) (hg : isByte g) (hb : isByte b) (ha : isByte a) {k : Nat} (hk : k < 4) : laws_part.f (pk r g b a) (k : Int) = some (pt r g b a k) := by
  obtain ⟨p0, p1, p2, p3⟩ := part_pk hr hg hb ha
  match k, hk with
  | 0, _ => exact p0
  | 1, _ => exact p1
  | 2, _ => exact p2
  | 3, _ => exact p3
theorem e_aidx4 {l : KL} {w : World} {dst : Option Tmp} {ty : TypeId} {pos : String} {after : Array Edge} {guard : Option (Nat × Bool)} {x y : Operand} {g : Nat} {k : IntKind} {j : Int} (m : Nat) (hx : opv l x = some (.pointer (some ⟨g, 0, none⟩))) (hy : opv l y = some (.int k j))
    (hj : j = (m : Int)) (hm : m < 4) : Ev Try.prog l ⟨dst, .indexAddr 62 x y, ty, pos, after, guard⟩ w (.pointer (some ⟨g, m, none⟩)) w := by
  have := e_aidx (dst := dst) (ty := ty) (pos := pos) (after := after) (guard := guard) (w := w) m ar62 hx hy hj hm
  rwa [Nat.zero_add, Nat.mul_one] at this
theorem i64_w (n : Int) : IntKind.i64.wrap n = wrap64 n := by
  unfold wrap64
  simp [IntKind.wrap, IntKind.bits, IntKind.signed]
  repeat' split
  all_goals omega
theorem sub_rng2 {x y : Int} (hx : isByte x) (hy : isByte y) : -255 ≤ x - y ∧ x - y ≤ 255 := by
  obtain ⟨x0, x1⟩ := hx
  obtain ⟨y0, y1⟩ := hy
  omega

set_option maxRecDepth 100000 in
theorem full_any {r g b a r' g' b' a' r2 g2 b2 a2 : Int} (hr : isByte r) (hg : isByte g) (hb : isByte b) (ha : isByte a) (hr' : isByte r') (hg' : isByte g') (hb' : isByte b') (ha' : isByte a')
    (hr2 : isByte r2) (hg2 : isByte g2) (hb2 : isByte b2) (ha2 : isByte a2) (w0 : World) :
    Calls Try.prog 39 #[.int .u32 (pk r g b a), .int .u32 (pk r' g' b' a'), .int .u32 (pk r2 g2 b2 a2)] w0 fun e w' =>
      e = .returned (.int .u32 (pk (clampF r r' r2) (clampF g g' g2) (clampF b b' b2) (clampF a a' a2))) ∧ Below w0.heap.size w0 w' := by
  have hP := fun {k : Nat} (hk : k < 4) (w : World) => drawB (laws_part.calls (pk r g b a) (k : Int) _ w (part_k hr hg hb ha hk))
  have hP' := fun {k : Nat} (hk : k < 4) (w : World) => drawB (laws_part.calls (pk r' g' b' a') (k : Int) _ w (part_k hr' hg' hb' ha' hk))
  have hP2 := fun {k : Nat} (hk : k < 4) (w : World) => drawB (laws_part.calls (pk r2 g2 b2 a2) (k : Int) _ w (part_k hr2 hg2 hb2 ha2 hk))
  have hH := fun (k : Nat) (w : World) => laws_held.calls _ _ w (full_one (pt_byte hr hg hb ha k) (pt_byte hr' hg' hb' ha' k) (pt_byte hr2 hg2 hb2 ha2 k))
  have b1 := byte_rng (clampF_byte r r' r2); have b2' := byte_rng (clampF_byte g g' g2); have b3 := byte_rng (clampF_byte b b' b2); have b4 := byte_rng (clampF_byte a a' a2)
  have hX := fun (w : World) => drawB (laws_pixel.calls _ _ _ _ _ w ((pixel_eq (clampF b b' b2) (clampF g g' g2) (clampF r r' r2) (clampF a a' a2) b3 b2' b1 b4).trans (by rw [byte_mod (clampF_byte _ _ _), byte_mod (clampF_byte _ _ _), byte_mod (clampF_byte _ _ _), byte_mod (clampF_byte _ _ _)])))
  clear hr hg hb ha hr' hg' hb' ha' hr2 hg2 hb2 ha2 b1 b2' b3 b4
  generalize hV : (fun k : Nat => clampF (pt r g b a k) (pt r' g' b' a' k) (pt r2 g2 b2 a2 k)) = V
  have hV0 : clampF b b' b2 = V 0 := by rw [← hV]; rfl
  have hV1 : clampF g g' g2 = V 1 := by rw [← hV]; rfl
  have hV2 : clampF r r' r2 = V 2 := by rw [← hV]; rfl
  have hV3 : clampF a a' a2 = V 3 := by rw [← hV]; rfl
  rw [hV0, hV1, hV2, hV3] at hX
  rw [hV0, hV1, hV2, hV3]
  have hH' : ∀ (k : Nat) (w : World), Calls Try.prog 51 #[.int .i64 (IntKind.i64.wrap (IntKind.i64.wrap (pt r g b a k + pt r' g' b' a' k) - pt r2 g2 b2 a2 k))] w fun e w' => e = .returned (.int .i64 (V k)) ∧ Below w.heap.size w w' := fun k w => by rw [← hV, i64_w, i64_w]; exact hH k w
  clear hH hV hV0 hV1 hV2 hV3
  generalize pk r g b a = X0 at hP ⊢
  generalize pk r' g' b' a' = X1 at hP' ⊢
  generalize pk r2 g2 b2 a2 = X2 at hP2 ⊢
  generalize pt r g b a = T0 at hP hH'
  generalize pt r' g' b' a' = T1 at hP' hH'
  generalize pt r2 g2 b2 a2 = T2 at hP2 hH'
  refine k_enter Try.func39 rfl (Nat.le_of_ble_eq_true rfl) (args := [_, _, _]) fun a hk => ?_
  conv => arg 2; whnf
  refine k_seq ?_
  refine rg (by kernel_rfl) ?_
  refine u_val hk (e_assign rfl) rfl (by decide) fun a hk => ?_
  refine u_nil ?_
  refine k_seq ?_
  refine rg (by kernel_rfl) ?_
  refine u_val hk e_al62 rfl (by decide) fun a hk => ?_
  refine u_nil ?_
  have hA := A4.new w0
  have hB := below_alloc (Below.refl w0.heap.size w0) (.cells #[.int .i64 0, .int .i64 0, .int .i64 0, .int .i64 0] 62 (0, 0))
  generalize w0.alloc (.cells #[.int .i64 0, .int .i64 0, .int .i64 0, .int .i64 0] 62 (0, 0)) = w at hA hB ⊢
  generalize hgq : w0.heap.size = q at hA hB hk ⊢
  refine k_seq ?_
  refine k_seq ?_
  refine rg (by kernel_rfl) ?_
  refine u_val hk (e_assign rfl) rfl (by decide) fun a hk => ?_
  refine u_nil ?_
  refine wp_block ?_
  refine k_loop (fun m a w => ∃ k : Nat, k ≤ 4 ∧ m = 4 - k ∧ Kn 36 [(0, .int .u32 X0), (1, .int .u32 X1), (2, .int .u32 X2), (7, .pointer (some ⟨q, 0, none⟩)), (8, .int .i64 (k : Int))] a ∧ A4 w q (fun j => if j < k then V j else 0) ∧ Below q w0 w) 4
    ⟨0, by omega, rfl, hk.sub (Sub.cons rfl (Sub.cons rfl (Sub.cons rfl (Sub.cons rfl (Sub.cons rfl (Sub.nil _)))))), by simpa using hA, hB⟩ ?_
  clear hk hA hB a w
  rintro m a w ⟨k, hk4, rfl, hk, hA, hB⟩
  refine k_seq ?_
  refine k_seq ?_
  refine rg (by kernel_rfl) ?_
  refine u_val hk (e_move rfl) rfl (by decide) fun a hk => ?_
  refine u_val hk (e_lss rfl rfl) rfl (by decide) fun a hk => ?_
  refine u_nil ?_
  refine k_cond hk rfl (fun hc => ?_) (fun hc => ?_)
  · replace hc : k < 4 := by have := of_decide_eq_true hc; omega
    refine wp_skip ?_
    refine k_seq ?_
    refine wp_block ?_
    refine rg (by kernel_rfl) ?_
    refine u_val hk (e_move rfl) rfl (by decide) fun a hk => ?_
    refine u_val hk (e_move rfl) rfl (by decide) fun a hk => ?_
    refine u_val hk (e_move rfl) rfl (by decide) fun a hk => ?_
    refine u_callB hk (c_func pf_part rfl) (hP hc w) rfl (by decide) fun w1 a hk hb => ?_
    replace hB := hB.trans (hb.mono (Nat.le_of_lt hA.lt))
    replace hA := hA.keep hb
    clear hb w
    refine u_val hk (e_move rfl) rfl (by decide) fun a hk => ?_
    refine u_val hk (e_move rfl) rfl (by decide) fun a hk => ?_
    refine u_callB hk (c_func pf_part rfl) (hP' hc w1) rfl (by decide) fun w a hk hb => ?_
    replace hB := hB.trans (hb.mono (Nat.le_of_lt hA.lt))
    replace hA := hA.keep hb
    clear hb w1
    refine u_val hk (e_add rfl rfl) rfl (by decide) fun a hk => ?_
    refine u_val hk (e_move rfl) rfl (by decide) fun a hk => ?_
    refine u_val hk (e_move rfl) rfl (by decide) fun a hk => ?_
    refine u_callB hk (c_func pf_part rfl) (hP2 hc w) rfl (by decide) fun w1 a hk hb => ?_
    replace hB := hB.trans (hb.mono (Nat.le_of_lt hA.lt))
    replace hA := hA.keep hb
    clear hb w
    refine u_val hk (e_sub rfl rfl) rfl (by decide) fun a hk => ?_
    refine u_callB hk (c_func pf_held rfl) (hH' k w1) rfl (by decide) fun w a hk hb => ?_
    replace hB := hB.trans (hb.mono (Nat.le_of_lt hA.lt))
    replace hA := hA.keep hb
    clear hb w1
    refine u_val hk (e_aidx4 k rfl rfl rfl hc) rfl (by decide) fun a hk => ?_
    refine u_skip hk (s_store oc3 rfl rfl rfl (hA.cell hc) (hA.free hc)) rfl fun a hk => ?_
    refine u_nil ?_
    refine rg (by kernel_rfl) ?_
    refine u_val hk (e_move rfl) rfl (by decide) fun a hk => ?_
    refine u_val hk (e_add_eq ((k + 1 : Nat) : Int) rfl rfl (i64_eq (by omega) (by omega) (by omega))) rfl (by decide) fun a hk => ?_
    refine u_val hk (e_assign rfl) rfl (by decide) fun a hk => ?_
    refine u_nil ?_
    refine ⟨4 - (k + 1), by omega, k + 1, by omega, rfl, hk.sub (Sub.cons rfl (Sub.cons rfl (Sub.cons rfl (Sub.cons rfl (Sub.cons rfl (Sub.nil _)))))), hA.put hc (fun j hj => ?_), hB.setCell (Nat.le_refl _) _⟩
    by_cases e : j = k
    · subst e; rw [if_pos rfl, if_pos (by omega)]
    · rw [if_neg e]
      by_cases e2 : j < k
      · rw [if_pos e2, if_pos (by omega)]
      · rw [if_neg e2, if_neg (by omega)]
  · replace hc : ¬ k < 4 := by have := of_decide_eq_false hc; omega
    obtain rfl : k = 4 := by omega
    refine wp_exit ?_
    show Code.wp _ _ _ _ _
    refine k_seq ?_
    refine rg (by kernel_rfl) ?_
    refine u_val hk (e_aidx4 0 rfl rfl rfl (by decide)) rfl (by decide) fun a hk => ?_
    refine u_val hk (e_load oc3 rfl (hA.cell (by decide))) rfl (by decide) fun a hk => ?_
    refine u_val hk (e_aidx4 1 rfl rfl rfl (by decide)) rfl (by decide) fun a hk => ?_
    refine u_val hk (e_load oc3 rfl (hA.cell (by decide))) rfl (by decide) fun a hk => ?_
    refine u_val hk (e_aidx4 2 rfl rfl rfl (by decide)) rfl (by decide) fun a hk => ?_
    refine u_val hk (e_load oc3 rfl (hA.cell (by decide))) rfl (by decide) fun a hk => ?_
    refine u_val hk (e_aidx4 3 rfl rfl rfl (by decide)) rfl (by decide) fun a hk => ?_
    refine u_val hk (e_load oc3 rfl (hA.cell (by decide))) rfl (by decide) fun a hk => ?_
    refine u_callB hk (c_func pf_pixel rfl) (hX w) rfl (by decide) fun w1 a hk hb => ?_
    refine u_val hk (e_assign rfl) rfl (by decide) fun a hk => ?_
    refine u_nil ?_
    refine wp_ret ?_
    exact k_ret1 hk rfl rfl ⟨rfl, hB.trans (hb.mono (Nat.le_of_lt hA.lt))⟩
set_option maxRecDepth 100000 in
theorem half_any {r g b a r' g' b' a' : Int} (hr : isByte r) (hg : isByte g) (hb : isByte b) (ha : isByte a) (hr' : isByte r') (hg' : isByte g') (hb' : isByte b') (ha' : isByte a') (w0 : World) :
    Calls Try.prog 40 #[.int .u32 (pk r g b a), .int .u32 (pk r' g' b' a')] w0 fun e w' =>
      e = .returned (.int .u32 (pk (clampH r r') (clampH g g') (clampH b b') (clampH a a'))) ∧ Below w0.heap.size w0 w' := by
  have hP := fun {k : Nat} (hk : k < 4) (w : World) => drawB (laws_part.calls (pk r g b a) (k : Int) _ w (part_k hr hg hb ha hk))
  have hP' := fun {k : Nat} (hk : k < 4) (w : World) => drawB (laws_part.calls (pk r' g' b' a') (k : Int) _ w (part_k hr' hg' hb' ha' hk))
  have hH := fun (k : Nat) (w : World) => laws_held.calls _ _ w (half_one (pt_byte hr hg hb ha k) (pt_byte hr' hg' hb' ha' k))
  have b1 := byte_rng (clampH_byte r r'); have b2' := byte_rng (clampH_byte g g'); have b3 := byte_rng (clampH_byte b b'); have b4 := byte_rng (clampH_byte a a')
  have hX := fun (w : World) => drawB (laws_pixel.calls _ _ _ _ _ w ((pixel_eq (clampH b b') (clampH g g') (clampH r r') (clampH a a') b3 b2' b1 b4).trans (by rw [byte_mod (clampH_byte _ _), byte_mod (clampH_byte _ _), byte_mod (clampH_byte _ _), byte_mod (clampH_byte _ _)])))
  clear hr hg hb ha hr' hg' hb' ha' b1 b2' b3 b4
  generalize hV : (fun k : Nat => clampH (pt r g b a k) (pt r' g' b' a' k)) = V
  have hV0 : clampH b b' = V 0 := by rw [← hV]; rfl
  have hV1 : clampH g g' = V 1 := by rw [← hV]; rfl
  have hV2 : clampH r r' = V 2 := by rw [← hV]; rfl
  have hV3 : clampH a a' = V 3 := by rw [← hV]; rfl
  rw [hV0, hV1, hV2, hV3] at hX
  rw [hV0, hV1, hV2, hV3]
  have hH' : ∀ (k : Nat) (w : World), Calls Try.prog 51 #[.int .i64 (IntKind.i64.wrap (pt r g b a k + IntKind.i64.wrap ((IntKind.i64.wrap (pt r g b a k - pt r' g' b' a' k)).tdiv 2)))] w fun e w' => e = .returned (.int .i64 (V k)) ∧ Below w.heap.size w w' := fun k w => by rw [← hV, i64_w, i64_w, i64_w]; exact hH k w
  clear hH hV hV0 hV1 hV2 hV3
  generalize pk r g b a = X0 at hP ⊢
  generalize pk r' g' b' a' = X1 at hP' ⊢
  generalize pt r g b a = T0 at hP hH'
  generalize pt r' g' b' a' = T1 at hP' hH'
  refine k_enter Try.func40 rfl (Nat.le_of_ble_eq_true rfl) (args := [_, _]) fun a hk => ?_
  conv => arg 2; whnf
  refine k_seq ?_
  refine rg (by kernel_rfl) ?_
  refine u_val hk (e_assign rfl) rfl (by decide) fun a hk => ?_
  refine u_nil ?_
  refine k_seq ?_
  refine rg (by kernel_rfl) ?_
  refine u_val hk e_al62 rfl (by decide) fun a hk => ?_
  refine u_nil ?_
  have hA := A4.new w0
  have hB := below_alloc (Below.refl w0.heap.size w0) (.cells #[.int .i64 0, .int .i64 0, .int .i64 0, .int .i64 0] 62 (0, 0))
  generalize w0.alloc (.cells #[.int .i64 0, .int .i64 0, .int .i64 0, .int .i64 0] 62 (0, 0)) = w at hA hB ⊢
  generalize hgq : w0.heap.size = q at hA hB hk ⊢
  refine k_seq ?_
  refine k_seq ?_
  refine rg (by kernel_rfl) ?_
  refine u_val hk (e_assign rfl) rfl (by decide) fun a hk => ?_
  refine u_nil ?_
  refine wp_block ?_
  refine k_loop (fun m a w => ∃ k : Nat, k ≤ 4 ∧ m = 4 - k ∧ Kn 35 [(0, .int .u32 X0), (1, .int .u32 X1), (5, .pointer (some ⟨q, 0, none⟩)), (6, .int .i64 (k : Int))] a ∧ A4 w q (fun j => if j < k then V j else 0) ∧ Below q w0 w) 4
    ⟨0, by omega, rfl, hk.sub (Sub.cons rfl (Sub.cons rfl (Sub.cons rfl (Sub.cons rfl (Sub.nil _))))), by simpa using hA, hB⟩ ?_
  clear hk hA hB a w
  rintro m a w ⟨k, hk4, rfl, hk, hA, hB⟩
  refine k_seq ?_
  refine k_seq ?_
  refine rg (by kernel_rfl) ?_
  refine u_val hk (e_move rfl) rfl (by decide) fun a hk => ?_
  refine u_val hk (e_lss rfl rfl) rfl (by decide) fun a hk => ?_
  refine u_nil ?_
  refine k_cond hk rfl (fun hc => ?_) (fun hc => ?_)
  · replace hc : k < 4 := by have := of_decide_eq_true hc; omega
    refine wp_skip ?_
    refine k_seq ?_
    refine wp_block ?_
    refine rg (by kernel_rfl) ?_
    refine u_val hk (e_move rfl) rfl (by decide) fun a hk => ?_
    refine u_val hk (e_move rfl) rfl (by decide) fun a hk => ?_
    refine u_val hk (e_move rfl) rfl (by decide) fun a hk => ?_
    refine u_callB hk (c_func pf_part rfl) (hP hc w) rfl (by decide) fun w1 a hk hb => ?_
    replace hB := hB.trans (hb.mono (Nat.le_of_lt hA.lt))
    replace hA := hA.keep hb
    clear hb w
    refine u_val hk (e_move rfl) rfl (by decide) fun a hk => ?_
    refine u_val hk (e_move rfl) rfl (by decide) fun a hk => ?_
    refine u_callB hk (c_func pf_part rfl) (hP hc w1) rfl (by decide) fun w a hk hb => ?_
    replace hB := hB.trans (hb.mono (Nat.le_of_lt hA.lt))
    replace hA := hA.keep hb
    clear hb w1
    refine u_val hk (e_move rfl) rfl (by decide) fun a hk => ?_
    refine u_val hk (e_move rfl) rfl (by decide) fun a hk => ?_
    refine u_callB hk (c_func pf_part rfl) (hP' hc w) rfl (by decide) fun w1 a hk hb => ?_
    replace hB := hB.trans (hb.mono (Nat.le_of_lt hA.lt))
    replace hA := hA.keep hb
    clear hb w
    refine u_val hk (e_sub rfl rfl) rfl (by decide) fun a hk => ?_
    refine u_val hk (e_quo rfl rfl (by decide)) rfl (by decide) fun a hk => ?_
    refine u_val hk (e_add rfl rfl) rfl (by decide) fun a hk => ?_
    refine u_callB hk (c_func pf_held rfl) (hH' k w1) rfl (by decide) fun w a hk hb => ?_
    replace hB := hB.trans (hb.mono (Nat.le_of_lt hA.lt))
    replace hA := hA.keep hb
    clear hb w1
    refine u_val hk (e_aidx4 k rfl rfl rfl hc) rfl (by decide) fun a hk => ?_
    refine u_skip hk (s_store oc3 rfl rfl rfl (hA.cell hc) (hA.free hc)) rfl fun a hk => ?_
    refine u_nil ?_
    refine rg (by kernel_rfl) ?_
    refine u_val hk (e_move rfl) rfl (by decide) fun a hk => ?_
    refine u_val hk (e_add_eq ((k + 1 : Nat) : Int) rfl rfl (i64_eq (by omega) (by omega) (by omega))) rfl (by decide) fun a hk => ?_
    refine u_val hk (e_assign rfl) rfl (by decide) fun a hk => ?_
    refine u_nil ?_
    refine ⟨4 - (k + 1), by omega, k + 1, by omega, rfl, hk.sub (Sub.cons rfl (Sub.cons rfl (Sub.cons rfl (Sub.cons rfl (Sub.nil _))))), hA.put hc (fun j hj => ?_), hB.setCell (Nat.le_refl _) _⟩
    by_cases e : j = k
    · subst e; rw [if_pos rfl, if_pos (by omega)]
    · rw [if_neg e]
      by_cases e2 : j < k
      · rw [if_pos e2, if_pos (by omega)]
      · rw [if_neg e2, if_neg (by omega)]
  · replace hc : ¬ k < 4 := by have := of_decide_eq_false hc; omega
    obtain rfl : k = 4 := by omega
    refine wp_exit ?_
    show Code.wp _ _ _ _ _
    refine k_seq ?_
    refine rg (by kernel_rfl) ?_
    refine u_val hk (e_aidx4 0 rfl rfl rfl (by decide)) rfl (by decide) fun a hk => ?_
    refine u_val hk (e_load oc3 rfl (hA.cell (by decide))) rfl (by decide) fun a hk => ?_
    refine u_val hk (e_aidx4 1 rfl rfl rfl (by decide)) rfl (by decide) fun a hk => ?_
    refine u_val hk (e_load oc3 rfl (hA.cell (by decide))) rfl (by decide) fun a hk => ?_
    refine u_val hk (e_aidx4 2 rfl rfl rfl (by decide)) rfl (by decide) fun a hk => ?_
    refine u_val hk (e_load oc3 rfl (hA.cell (by decide))) rfl (by decide) fun a hk => ?_
    refine u_val hk (e_aidx4 3 rfl rfl rfl (by decide)) rfl (by decide) fun a hk => ?_
    refine u_val hk (e_load oc3 rfl (hA.cell (by decide))) rfl (by decide) fun a hk => ?_
    refine u_callB hk (c_func pf_pixel rfl) (hX w) rfl (by decide) fun w1 a hk hb => ?_
    refine u_val hk (e_assign rfl) rfl (by decide) fun a hk => ?_
    refine u_nil ?_
    refine wp_ret ?_
    exact k_ret1 hk rfl rfl ⟨rfl, hB.trans (hb.mono (Nat.le_of_lt hA.lt))⟩

/-! ### laws.guess, mode by mode -/
set_option maxHeartbeats 4000000 in
set_option maxRecDepth 100000 in
theorem guess_0 (L T TL TR : Int)  (w : World) :
    Calls Try.prog 28 #[.int .i64 0, .int .u32 L, .int .u32 T, .int .u32 TL, .int .u32 TR] w fun e w' => e = .returned (.int .u32 4278190080) ∧ Below w.heap.size w w' := by
  go_enter Try.func28, Try.ntmps28
  go_wp2
  go_ret
  exact ⟨by first | rfl | (simp; done), Below.refl _ _⟩
set_option maxHeartbeats 4000000 in
set_option maxRecDepth 100000 in
theorem guess_1 (L T TL TR : Int)  (w : World) :
    Calls Try.prog 28 #[.int .i64 1, .int .u32 L, .int .u32 T, .int .u32 TL, .int .u32 TR] w fun e w' => e = .returned (.int .u32 L) ∧ Below w.heap.size w w' := by
  go_enter Try.func28, Try.ntmps28
  go_wp2
  go_ret
  exact ⟨by first | rfl | (simp; done), Below.refl _ _⟩
set_option maxHeartbeats 4000000 in
set_option maxRecDepth 100000 in
theorem guess_2 (L T TL TR : Int)  (w : World) :
    Calls Try.prog 28 #[.int .i64 2, .int .u32 L, .int .u32 T, .int .u32 TL, .int .u32 TR] w fun e w' => e = .returned (.int .u32 T) ∧ Below w.heap.size w w' := by
  go_enter Try.func28, Try.ntmps28
  go_wp2
  go_ret
  exact ⟨by first | rfl | (simp; done), Below.refl _ _⟩
set_option maxHeartbeats 4000000 in
set_option maxRecDepth 100000 in
theorem guess_3 (L T TL TR : Int)  (w : World) :
    Calls Try.prog 28 #[.int .i64 3, .int .u32 L, .int .u32 T, .int .u32 TL, .int .u32 TR] w fun e w' => e = .returned (.int .u32 TR) ∧ Below w.heap.size w w' := by
  go_enter Try.func28, Try.ntmps28
  go_wp2
  go_ret
  exact ⟨by first | rfl | (simp; done), Below.refl _ _⟩
set_option maxHeartbeats 4000000 in
set_option maxRecDepth 100000 in
theorem guess_4 (L T TL TR : Int)  (w : World) :
    Calls Try.prog 28 #[.int .i64 4, .int .u32 L, .int .u32 T, .int .u32 TL, .int .u32 TR] w fun e w' => e = .returned (.int .u32 TL) ∧ Below w.heap.size w w' := by
  go_enter Try.func28, Try.ntmps28
  go_wp2
  go_ret
  exact ⟨by first | rfl | (simp; done), Below.refl _ _⟩
set_option maxHeartbeats 4000000 in
set_option maxRecDepth 100000 in
theorem guess_5 (L T TL TR V1 V2 : Int) (K30 : Aside0 (∀ w, Calls Try.prog 37 #[.int .u32 L, .int .u32 TR] w fun e w' => e = .returned (.int .u32 V1) ∧ Below w.heap.size w w')) (K32 : Aside0 (∀ w, Calls Try.prog 37 #[.int .u32 V1, .int .u32 T] w fun e w' => e = .returned (.int .u32 V2) ∧ Below w.heap.size w w')) (w : World) :
    Calls Try.prog 28 #[.int .i64 5, .int .u32 L, .int .u32 T, .int .u32 TL, .int .u32 TR] w fun e w' => e = .returned (.int .u32 V2) ∧ Below w.heap.size w w' := by
  go_enter Try.func28, Try.ntmps28
  go_wp2_with (first | ((with_reducible refine gate_callee (f := 37) rfl ?_); refine goesL_ (some 30) rfl rfl Try.func37 (by kernel_rfl) rfl #[.int .u32 L, .int .u32 TR] rfl (by (try simp only [List.map_toArray, List.map_cons, List.map_nil]); first | done | rfl) ?_; (refine (K30.out _).mono ?_); rintro e w1 ⟨rfl, hB⟩; have HB30 := Aside0.mk hB; clear hB; refine ⟨_, rfl, ?_⟩) | ((with_reducible refine gate_callee (f := 37) rfl ?_); refine goesL_ (some 32) rfl rfl Try.func37 (by kernel_rfl) rfl #[.int .u32 V1, .int .u32 T] rfl (by (try simp only [List.map_toArray, List.map_cons, List.map_nil]); first | done | rfl) ?_; (refine (K32.out _).mono ?_); rintro e w1 ⟨rfl, hB⟩; have HB32 := Aside0.mk hB; clear hB; refine ⟨_, rfl, ?_⟩))
  go_ret
  exact ⟨by first | rfl | (simp; done), (HB30.out).trans (HB32.out.mono (HB30.out).size)⟩
set_option maxHeartbeats 4000000 in
set_option maxRecDepth 100000 in
theorem guess_6 (L T TL TR V1 : Int) (K37 : Aside0 (∀ w, Calls Try.prog 37 #[.int .u32 L, .int .u32 TL] w fun e w' => e = .returned (.int .u32 V1) ∧ Below w.heap.size w w')) (w : World) :
    Calls Try.prog 28 #[.int .i64 6, .int .u32 L, .int .u32 T, .int .u32 TL, .int .u32 TR] w fun e w' => e = .returned (.int .u32 V1) ∧ Below w.heap.size w w' := by
  go_enter Try.func28, Try.ntmps28
  go_wp2_with (first | ((with_reducible refine gate_callee (f := 37) rfl ?_); refine goesL_ (some 37) rfl rfl Try.func37 (by kernel_rfl) rfl #[.int .u32 L, .int .u32 TL] rfl (by (try simp only [List.map_toArray, List.map_cons, List.map_nil]); first | done | rfl) ?_; (refine (K37.out _).mono ?_); rintro e w1 ⟨rfl, hB⟩; have HB37 := Aside0.mk hB; clear hB; refine ⟨_, rfl, ?_⟩))
  go_ret
  exact ⟨by first | rfl | (simp; done), HB37.out⟩
set_option maxHeartbeats 4000000 in
set_option maxRecDepth 100000 in
theorem guess_7 (L T TL TR V1 : Int) (K42 : Aside0 (∀ w, Calls Try.prog 37 #[.int .u32 L, .int .u32 T] w fun e w' => e = .returned (.int .u32 V1) ∧ Below w.heap.size w w')) (w : World) :
    Calls Try.prog 28 #[.int .i64 7, .int .u32 L, .int .u32 T, .int .u32 TL, .int .u32 TR] w fun e w' => e = .returned (.int .u32 V1) ∧ Below w.heap.size w w' := by
  go_enter Try.func28, Try.ntmps28
  go_wp2_with (first | ((with_reducible refine gate_callee (f := 37) rfl ?_); refine goesL_ (some 42) rfl rfl Try.func37 (by kernel_rfl) rfl #[.int .u32 L, .int .u32 T] rfl (by (try simp only [List.map_toArray, List.map_cons, List.map_nil]); first | done | rfl) ?_; (refine (K42.out _).mono ?_); rintro e w1 ⟨rfl, hB⟩; have HB42 := Aside0.mk hB; clear hB; refine ⟨_, rfl, ?_⟩))
  go_ret
  exact ⟨by first | rfl | (simp; done), HB42.out⟩
set_option maxHeartbeats 4000000 in
set_option maxRecDepth 100000 in
theorem guess_8 (L T TL TR V1 : Int) (K47 : Aside0 (∀ w, Calls Try.prog 37 #[.int .u32 TL, .int .u32 T] w fun e w' => e = .returned (.int .u32 V1) ∧ Below w.heap.size w w')) (w : World) :
    Calls Try.prog 28 #[.int .i64 8, .int .u32 L, .int .u32 T, .int .u32 TL, .int .u32 TR] w fun e w' => e = .returned (.int .u32 V1) ∧ Below w.heap.size w w' := by
  go_enter Try.func28, Try.ntmps28
  go_wp2_with (first | ((with_reducible refine gate_callee (f := 37) rfl ?_); refine goesL_ (some 47) rfl rfl Try.func37 (by kernel_rfl) rfl #[.int .u32 TL, .int .u32 T] rfl (by (try simp only [List.map_toArray, List.map_cons, List.map_nil]); first | done | rfl) ?_; (refine (K47.out _).mono ?_); rintro e w1 ⟨rfl, hB⟩; have HB47 := Aside0.mk hB; clear hB; refine ⟨_, rfl, ?_⟩))
  go_ret
  exact ⟨by first | rfl | (simp; done), HB47.out⟩
set_option maxHeartbeats 4000000 in
set_option maxRecDepth 100000 in
theorem guess_9 (L T TL TR V1 : Int) (K52 : Aside0 (∀ w, Calls Try.prog 37 #[.int .u32 T, .int .u32 TR] w fun e w' => e = .returned (.int .u32 V1) ∧ Below w.heap.size w w')) (w : World) :
    Calls Try.prog 28 #[.int .i64 9, .int .u32 L, .int .u32 T, .int .u32 TL, .int .u32 TR] w fun e w' => e = .returned (.int .u32 V1) ∧ Below w.heap.size w w' := by
  go_enter Try.func28, Try.ntmps28
  go_wp2_with (first | ((with_reducible refine gate_callee (f := 37) rfl ?_); refine goesL_ (some 52) rfl rfl Try.func37 (by kernel_rfl) rfl #[.int .u32 T, .int .u32 TR] rfl (by (try simp only [List.map_toArray, List.map_cons, List.map_nil]); first | done | rfl) ?_; (refine (K52.out _).mono ?_); rintro e w1 ⟨rfl, hB⟩; have HB52 := Aside0.mk hB; clear hB; refine ⟨_, rfl, ?_⟩))
  go_ret
  exact ⟨by first | rfl | (simp; done), HB52.out⟩
set_option maxHeartbeats 4000000 in
set_option maxRecDepth 100000 in
theorem guess_10 (L T TL TR V1 V2 V3 : Int) (K57 : Aside0 (∀ w, Calls Try.prog 37 #[.int .u32 L, .int .u32 TL] w fun e w' => e = .returned (.int .u32 V1) ∧ Below w.heap.size w w')) (K60 : Aside0 (∀ w, Calls Try.prog 37 #[.int .u32 T, .int .u32 TR] w fun e w' => e = .returned (.int .u32 V2) ∧ Below w.heap.size w w')) (K61 : Aside0 (∀ w, Calls Try.prog 37 #[.int .u32 V1, .int .u32 V2] w fun e w' => e = .returned (.int .u32 V3) ∧ Below w.heap.size w w')) (w : World) :
    Calls Try.prog 28 #[.int .i64 10, .int .u32 L, .int .u32 T, .int .u32 TL, .int .u32 TR] w fun e w' => e = .returned (.int .u32 V3) ∧ Below w.heap.size w w' := by
  go_enter Try.func28, Try.ntmps28
  go_wp2_with (first | ((with_reducible refine gate_callee (f := 37) rfl ?_); refine goesL_ (some 57) rfl rfl Try.func37 (by kernel_rfl) rfl #[.int .u32 L, .int .u32 TL] rfl (by (try simp only [List.map_toArray, List.map_cons, List.map_nil]); first | done | rfl) ?_; (refine (K57.out _).mono ?_); rintro e w1 ⟨rfl, hB⟩; have HB57 := Aside0.mk hB; clear hB; refine ⟨_, rfl, ?_⟩) | ((with_reducible refine gate_callee (f := 37) rfl ?_); refine goesL_ (some 60) rfl rfl Try.func37 (by kernel_rfl) rfl #[.int .u32 T, .int .u32 TR] rfl (by (try simp only [List.map_toArray, List.map_cons, List.map_nil]); first | done | rfl) ?_; (refine (K60.out _).mono ?_); rintro e w1 ⟨rfl, hB⟩; have HB60 := Aside0.mk hB; clear hB; refine ⟨_, rfl, ?_⟩) | ((with_reducible refine gate_callee (f := 37) rfl ?_); refine goesL_ (some 61) rfl rfl Try.func37 (by kernel_rfl) rfl #[.int .u32 V1, .int .u32 V2] rfl (by (try simp only [List.map_toArray, List.map_cons, List.map_nil]); first | done | rfl) ?_; (refine (K61.out _).mono ?_); rintro e w1 ⟨rfl, hB⟩; have HB61 := Aside0.mk hB; clear hB; refine ⟨_, rfl, ?_⟩))
  go_ret
  exact ⟨by first | rfl | (simp; done), ((HB57.out).trans (HB60.out.mono (HB57.out).size)).trans (HB61.out.mono ((HB57.out).trans (HB60.out.mono (HB57.out).size)).size)⟩
set_option maxHeartbeats 4000000 in
set_option maxRecDepth 100000 in
theorem guess_11 (L T TL TR V1 : Int) (K67 : Aside0 (∀ w, Calls Try.prog 38 #[.int .u32 L, .int .u32 T, .int .u32 TL] w fun e w' => e = .returned (.int .u32 V1) ∧ Below w.heap.size w w')) (w : World) :
    Calls Try.prog 28 #[.int .i64 11, .int .u32 L, .int .u32 T, .int .u32 TL, .int .u32 TR] w fun e w' => e = .returned (.int .u32 V1) ∧ Below w.heap.size w w' := by
  go_enter Try.func28, Try.ntmps28
  go_wp2_with (first | ((with_reducible refine gate_callee (f := 38) rfl ?_); refine goesL_ (some 67) rfl rfl Try.func38 (by kernel_rfl) rfl #[.int .u32 L, .int .u32 T, .int .u32 TL] rfl (by (try simp only [List.map_toArray, List.map_cons, List.map_nil]); first | done | rfl) ?_; (refine (K67.out _).mono ?_); rintro e w1 ⟨rfl, hB⟩; have HB67 := Aside0.mk hB; clear hB; refine ⟨_, rfl, ?_⟩))
  go_ret
  exact ⟨by first | rfl | (simp; done), HB67.out⟩
set_option maxHeartbeats 4000000 in
set_option maxRecDepth 100000 in
theorem guess_12 (L T TL TR V1 : Int) (K73 : Aside0 (∀ w, Calls Try.prog 39 #[.int .u32 L, .int .u32 T, .int .u32 TL] w fun e w' => e = .returned (.int .u32 V1) ∧ Below w.heap.size w w')) (w : World) :
    Calls Try.prog 28 #[.int .i64 12, .int .u32 L, .int .u32 T, .int .u32 TL, .int .u32 TR] w fun e w' => e = .returned (.int .u32 V1) ∧ Below w.heap.size w w' := by
  go_enter Try.func28, Try.ntmps28
  go_wp2_with (first | ((with_reducible refine gate_callee (f := 39) rfl ?_); refine goesL_ (some 73) rfl rfl Try.func39 (by kernel_rfl) rfl #[.int .u32 L, .int .u32 T, .int .u32 TL] rfl (by (try simp only [List.map_toArray, List.map_cons, List.map_nil]); first | done | rfl) ?_; (refine (K73.out _).mono ?_); rintro e w1 ⟨rfl, hB⟩; have HB73 := Aside0.mk hB; clear hB; refine ⟨_, rfl, ?_⟩))
  go_ret
  exact ⟨by first | rfl | (simp; done), HB73.out⟩
set_option maxHeartbeats 4000000 in
set_option maxRecDepth 100000 in
theorem guess_13 (L T TL TR V1 V2 : Int) (K76 : Aside0 (∀ w, Calls Try.prog 37 #[.int .u32 L, .int .u32 T] w fun e w' => e = .returned (.int .u32 V1) ∧ Below w.heap.size w w')) (K78 : Aside0 (∀ w, Calls Try.prog 40 #[.int .u32 V1, .int .u32 TL] w fun e w' => e = .returned (.int .u32 V2) ∧ Below w.heap.size w w')) (w : World) :
    Calls Try.prog 28 #[.int .i64 13, .int .u32 L, .int .u32 T, .int .u32 TL, .int .u32 TR] w fun e w' => e = .returned (.int .u32 V2) ∧ Below w.heap.size w w' := by
  go_enter Try.func28, Try.ntmps28
  go_wp2_with (first | ((with_reducible refine gate_callee (f := 37) rfl ?_); refine goesL_ (some 76) rfl rfl Try.func37 (by kernel_rfl) rfl #[.int .u32 L, .int .u32 T] rfl (by (try simp only [List.map_toArray, List.map_cons, List.map_nil]); first | done | rfl) ?_; (refine (K76.out _).mono ?_); rintro e w1 ⟨rfl, hB⟩; have HB76 := Aside0.mk hB; clear hB; refine ⟨_, rfl, ?_⟩) | ((with_reducible refine gate_callee (f := 40) rfl ?_); refine goesL_ (some 78) rfl rfl Try.func40 (by kernel_rfl) rfl #[.int .u32 V1, .int .u32 TL] rfl (by (try simp only [List.map_toArray, List.map_cons, List.map_nil]); first | done | rfl) ?_; (refine (K78.out _).mono ?_); rintro e w1 ⟨rfl, hB⟩; have HB78 := Aside0.mk hB; clear hB; refine ⟨_, rfl, ?_⟩))
  go_ret
  exact ⟨by first | rfl | (simp; done), (HB76.out).trans (HB78.out.mono (HB76.out).size)⟩
end Go.Proofs.Ytgjcikajfnlocaa
