/-
  OUR OWN: laws.FnPredictorBack: its walk, path by path.
-/
import Derived.Test.YtgjcikajfnlocaaBl
import Derived.Laws.OwnMore
namespace Go.Proofs.Ytgjcikajfnlocaa
open Go.RowKit Go.Proofs.Ytgjcikajfnlocaa.PFnPredictorBack Go.Proofs.YtgjcikajfnlocaaW.PrintWords Go.Proofs.YtgjcikajfnlocaaW.PrintLast
set_option linter.unusedVariables false
set_option linter.unusedSimpArgs false
/-! ### the law's walk, path by path -/
set_option maxHeartbeats 8000000 in
set_option maxRecDepth 100000 in
theorem go_long3 (a0 a1 a2 : Int) (A3 A4 : Option Addr) (c3 c4 : Nat) (l3 l4 : List Int) (w : World) (s3 : decide (2147483647 < (l3.length : Int)) = true) :
    Calls Try.prog 4 #[.int .i64 a0, .int .i64 a1, .int .i64 a2, .slice A3 l3.length c3, .slice A4 l4.length c4] w fun e w' => e = .returned (.bool true) ∧ Below w.heap.size w w' := by
  have HB := Aside0.mk (Below.refl w.heap.size w)
  go_enter Try.func4, Try.ntmps4
  go_wp2
  go_ret
  exact ⟨by first | rfl | (simp; done) | (simp [*]; done), HB.out⟩
set_option maxHeartbeats 8000000 in
set_option maxRecDepth 100000 in
theorem go_long4 (a0 a1 a2 : Int) (A3 A4 : Option Addr) (c3 c4 : Nat) (l3 l4 : List Int) (w : World) (s3 : decide (2147483647 < (l3.length : Int)) = false) (s4 : decide (2147483647 < (l4.length : Int)) = true) :
    Calls Try.prog 4 #[.int .i64 a0, .int .i64 a1, .int .i64 a2, .slice A3 l3.length c3, .slice A4 l4.length c4] w fun e w' => e = .returned (.bool true) ∧ Below w.heap.size w w' := by
  have HB := Aside0.mk (Below.refl w.heap.size w)
  go_enter Try.func4, Try.ntmps4
  go_wp2
  go_ret
  exact ⟨by first | rfl | (simp; done) | (simp [*]; done), HB.out⟩
set_option maxHeartbeats 8000000 in
set_option maxRecDepth 100000 in
theorem go_area (a0 a1 a2 : Int) (A3 A4 : Option Addr) (c3 c4 : Nat) (l3 l4 : List Int) (w : World) (s3 : decide (2147483647 < (l3.length : Int)) = false) (s4 : decide (2147483647 < (l4.length : Int)) = false) (KA : Aside0 (∀ w1, Below w.heap.size w w1 → Calls Try.prog 5 #[.int .i64 a0, .int .i64 a1, .slice A4 l4.length c4] w1 fun e w' => e = .returned (.bool false) ∧ Below w.heap.size w w')) (KS : Aside0 (∀ w1, Below w.heap.size w w1 → Calls Try.prog 8 #[] w1 fun e w' => e = .returned (.bool true) ∧ Below w.heap.size w w')) :
    Calls Try.prog 4 #[.int .i64 a0, .int .i64 a1, .int .i64 a2, .slice A3 l3.length c3, .slice A4 l4.length c4] w fun e w' => e = .returned (.bool true) ∧ Below w.heap.size w w' := by
  have HB := Aside0.mk (Below.refl w.heap.size w)
  go_enter Try.func4, Try.ntmps4
  go_wp2_with (first | ((with_reducible refine gate_callee (f := 5) rfl ?_); refine goesL_ (some 25) rfl rfl Try.func5 (by kernel_rfl) rfl #[.int .i64 a0, .int .i64 a1, .slice A4 l4.length c4] rfl (by (try simp only [List.map_toArray, List.map_cons, List.map_nil]); first | done | rfl) ?_; (refine (KA.out _ HB.out).mono ?_); rintro e w1 ⟨rfl, hB⟩; clear HB; have HB := Aside0.mk hB; clear hB; refine ⟨_, rfl, ?_⟩) | (first | ((with_reducible refine gate_callee (f := 8) rfl ?_); refine goesL_ (some 44) rfl rfl Try.func8 (by kernel_rfl) rfl #[] rfl (by (try simp only [List.map_toArray, List.map_cons, List.map_nil]); first | done | rfl) ?_; (refine (KS.out _ HB.out).mono ?_); rintro e w1 ⟨rfl, hB⟩; clear HB; have HB := Aside0.mk hB; clear hB; refine ⟨_, rfl, ?_⟩) | (go_at_call 8; (refine (KS.out _ HB.out).mono ?_); rintro e w1 ⟨rfl, hB⟩; clear HB; have HB := Aside0.mk hB; clear hB)))
  go_ret
  exact ⟨by first | rfl | (simp; done) | (simp [*]; done), HB.out⟩
set_option maxHeartbeats 8000000 in
set_option maxRecDepth 100000 in
theorem go_two (a0 a1 a2 : Int) (A3 A4 : Option Addr) (c3 c4 : Nat) (l3 l4 : List Int) (w : World) (s3 : decide (2147483647 < (l3.length : Int)) = false) (s4 : decide (2147483647 < (l4.length : Int)) = false) (KA : Aside0 (∀ w1, Below w.heap.size w w1 → Calls Try.prog 5 #[.int .i64 a0, .int .i64 a1, .slice A4 l4.length c4] w1 fun e w' => e = .returned (.bool true) ∧ Below w.heap.size w w')) (KS : Aside0 (∀ w1, Below w.heap.size w w1 → Calls Try.prog 8 #[] w1 fun e w' => e = .returned (.bool true) ∧ Below w.heap.size w w')) (n2 : decide (a2 < 2) = true) :
    Calls Try.prog 4 #[.int .i64 a0, .int .i64 a1, .int .i64 a2, .slice A3 l3.length c3, .slice A4 l4.length c4] w fun e w' => e = .returned (.bool true) ∧ Below w.heap.size w w' := by
  have HB := Aside0.mk (Below.refl w.heap.size w)
  go_enter Try.func4, Try.ntmps4
  go_wp2_with (first | ((with_reducible refine gate_callee (f := 5) rfl ?_); refine goesL_ (some 25) rfl rfl Try.func5 (by kernel_rfl) rfl #[.int .i64 a0, .int .i64 a1, .slice A4 l4.length c4] rfl (by (try simp only [List.map_toArray, List.map_cons, List.map_nil]); first | done | rfl) ?_; (refine (KA.out _ HB.out).mono ?_); rintro e w1 ⟨rfl, hB⟩; clear HB; have HB := Aside0.mk hB; clear hB; refine ⟨_, rfl, ?_⟩) | (first | ((with_reducible refine gate_callee (f := 8) rfl ?_); refine goesL_ (some 44) rfl rfl Try.func8 (by kernel_rfl) rfl #[] rfl (by (try simp only [List.map_toArray, List.map_cons, List.map_nil]); first | done | rfl) ?_; (refine (KS.out _ HB.out).mono ?_); rintro e w1 ⟨rfl, hB⟩; clear HB; have HB := Aside0.mk hB; clear hB; refine ⟨_, rfl, ?_⟩) | (go_at_call 8; (refine (KS.out _ HB.out).mono ?_); rintro e w1 ⟨rfl, hB⟩; clear HB; have HB := Aside0.mk hB; clear hB)))
  go_ret
  exact ⟨by first | rfl | (simp; done) | (simp [*]; done), HB.out⟩
set_option maxHeartbeats 8000000 in
set_option maxRecDepth 100000 in
theorem go_nine (a0 a1 a2 : Int) (A3 A4 : Option Addr) (c3 c4 : Nat) (l3 l4 : List Int) (w : World) (s3 : decide (2147483647 < (l3.length : Int)) = false) (s4 : decide (2147483647 < (l4.length : Int)) = false) (KA : Aside0 (∀ w1, Below w.heap.size w w1 → Calls Try.prog 5 #[.int .i64 a0, .int .i64 a1, .slice A4 l4.length c4] w1 fun e w' => e = .returned (.bool true) ∧ Below w.heap.size w w')) (KS : Aside0 (∀ w1, Below w.heap.size w w1 → Calls Try.prog 8 #[] w1 fun e w' => e = .returned (.bool true) ∧ Below w.heap.size w w')) (n2 : decide (a2 < 2) = false) (n9 : decide (9 < a2) = true) :
    Calls Try.prog 4 #[.int .i64 a0, .int .i64 a1, .int .i64 a2, .slice A3 l3.length c3, .slice A4 l4.length c4] w fun e w' => e = .returned (.bool true) ∧ Below w.heap.size w w' := by
  have HB := Aside0.mk (Below.refl w.heap.size w)
  go_enter Try.func4, Try.ntmps4
  go_wp2_with (first | ((with_reducible refine gate_callee (f := 5) rfl ?_); refine goesL_ (some 25) rfl rfl Try.func5 (by kernel_rfl) rfl #[.int .i64 a0, .int .i64 a1, .slice A4 l4.length c4] rfl (by (try simp only [List.map_toArray, List.map_cons, List.map_nil]); first | done | rfl) ?_; (refine (KA.out _ HB.out).mono ?_); rintro e w1 ⟨rfl, hB⟩; clear HB; have HB := Aside0.mk hB; clear hB; refine ⟨_, rfl, ?_⟩) | (first | ((with_reducible refine gate_callee (f := 8) rfl ?_); refine goesL_ (some 44) rfl rfl Try.func8 (by kernel_rfl) rfl #[] rfl (by (try simp only [List.map_toArray, List.map_cons, List.map_nil]); first | done | rfl) ?_; (refine (KS.out _ HB.out).mono ?_); rintro e w1 ⟨rfl, hB⟩; clear HB; have HB := Aside0.mk hB; clear hB; refine ⟨_, rfl, ?_⟩) | (go_at_call 8; (refine (KS.out _ HB.out).mono ?_); rintro e w1 ⟨rfl, hB⟩; clear HB; have HB := Aside0.mk hB; clear hB)))
  go_ret
  exact ⟨by first | rfl | (simp; done) | (simp [*]; done), HB.out⟩
set_option maxHeartbeats 8000000 in
set_option maxRecDepth 100000 in
theorem go_modes (a0 a1 a2 : Int) (A3 A4 : Option Addr) (c3 c4 : Nat) (l3 l4 : List Int) (w : World) (s3 : decide (2147483647 < (l3.length : Int)) = false) (s4 : decide (2147483647 < (l4.length : Int)) = false) (KA : Aside0 (∀ w1, Below w.heap.size w w1 → Calls Try.prog 5 #[.int .i64 a0, .int .i64 a1, .slice A4 l4.length c4] w1 fun e w' => e = .returned (.bool true) ∧ Below w.heap.size w w')) (KS : Aside0 (∀ w1, Below w.heap.size w w1 → Calls Try.prog 8 #[] w1 fun e w' => e = .returned (.bool true) ∧ Below w.heap.size w w')) (n2 : decide (a2 < 2) = false) (n9 : decide (9 < a2) = false) (T : Int) (KB : Aside0 (∀ w1, Below w.heap.size w w1 → Calls Try.prog 7 #[.int .i64 a0, .int .i64 a1, .int .i64 a2] w1 fun e w' => e = .returned (.int .i64 T) ∧ Below w.heap.size w w')) (KM : Aside0 (∀ w1, Below w.heap.size w w1 → Calls Try.prog 6 #[.slice A3 l3.length c3, .int .i64 T] w1 fun e w' => e = .returned (.bool false) ∧ Below w.heap.size w w')) :
    Calls Try.prog 4 #[.int .i64 a0, .int .i64 a1, .int .i64 a2, .slice A3 l3.length c3, .slice A4 l4.length c4] w fun e w' => e = .returned (.bool true) ∧ Below w.heap.size w w' := by
  have HB := Aside0.mk (Below.refl w.heap.size w)
  go_enter Try.func4, Try.ntmps4
  go_wp2_with (first | ((with_reducible refine gate_callee (f := 5) rfl ?_); refine goesL_ (some 25) rfl rfl Try.func5 (by kernel_rfl) rfl #[.int .i64 a0, .int .i64 a1, .slice A4 l4.length c4] rfl (by (try simp only [List.map_toArray, List.map_cons, List.map_nil]); first | done | rfl) ?_; (refine (KA.out _ HB.out).mono ?_); rintro e w1 ⟨rfl, hB⟩; clear HB; have HB := Aside0.mk hB; clear hB; refine ⟨_, rfl, ?_⟩) | (go_at_call 7; (refine (KB.out _ HB.out).mono ?_); rintro e w1 ⟨rfl, hB⟩; clear HB; have HB := Aside0.mk hB; clear hB) | (go_at_call 6; (refine (KM.out _ HB.out).mono ?_); rintro e w1 ⟨rfl, hB⟩; clear HB; have HB := Aside0.mk hB; clear hB) | (first | ((with_reducible refine gate_callee (f := 8) rfl ?_); refine goesL_ (some 44) rfl rfl Try.func8 (by kernel_rfl) rfl #[] rfl (by (try simp only [List.map_toArray, List.map_cons, List.map_nil]); first | done | rfl) ?_; (refine (KS.out _ HB.out).mono ?_); rintro e w1 ⟨rfl, hB⟩; clear HB; have HB := Aside0.mk hB; clear hB; refine ⟨_, rfl, ?_⟩) | (go_at_call 8; (refine (KS.out _ HB.out).mono ?_); rintro e w1 ⟨rfl, hB⟩; clear HB; have HB := Aside0.mk hB; clear hB)))
  go_ret
  exact ⟨by first | rfl | (simp; done) | (simp [*]; done), HB.out⟩

section
variable {P : Program} {n : Nat} {l : KL} {a : Act} {w : World} {o : Oper} {r : List Oper} {Q : Exit → Act → World → Prop} {ops : Array Oper} {R : World → Prop}
theorem l_callB {d : Nat} {v : Value} {f : FuncId} {args : Array Value} (hk : Kn n l a) (hg : o.guard = none) (he : Cv P l o w f args) (hc : Calls P f args w (fun e w' => e = .returned v ∧ R w')) (ho : o.dst = some d) (hd : d < n)
    (h : ∀ w' a', Kn n ((d, v) :: l) a' → R w' → wpList P ops Q r a' w') : wpList P ops Q (o :: r) a w := by
  unfold wpList
  rw [if_pos (by simp [Region.wanted, hg])]
  refine .inl ?_
  unfold Oper.wp
  rw [he n a hk]
  refine hc.mono fun e w'' hR => ?_
  obtain ⟨rfl, hR⟩ := hR
  show wpList P ops Q r (a.put o.dst v) w''
  rw [ho]
  exact h _ _ (hk.put hd v) hR
theorem l_callB_on {d j : Nat} {b : Bool} {v : Value} {f : FuncId} {args : Array Value} (hk : Kn n l a) (hg : o.guard = some (j, b)) (hy : yk ops l j = some b) (he : Cv P l o w f args) (hc : Calls P f args w (fun e w' => e = .returned v ∧ R w')) (ho : o.dst = some d) (hd : d < n)
    (h : ∀ w' a', Kn n ((d, v) :: l) a' → R w' → wpList P ops Q r a' w') : wpList P ops Q (o :: r) a w := by
  unfold wpList
  rw [if_pos (by simp [Region.wanted, hg, yk_spec hk hy])]
  refine .inl ?_
  unfold Oper.wp
  rw [he n a hk]
  refine hc.mono fun e w'' hR => ?_
  obtain ⟨rfl, hR⟩ := hR
  show wpList P ops Q r (a.put o.dst v) w''
  rw [ho]
  exact h _ _ (hk.put hd v) hR
theorem e_gtrF {dst : Option Tmp} {ty : TypeId} {pos : String} {after : Array Edge} {guard : Option (Nat × Bool)} {t yt : TypeId} {x y : Operand} {k : IntKind} {i j : Int} (hx : opv l x = some (.int k i)) (hy : opv l y = some (.int k j)) (h : ¬ j < i) :
    Ev P l ⟨dst, .binOp .gtr t x y yt, ty, pos, after, guard⟩ w (.bool false) w := by
  have := e_gtr (P := P) (w := w) (dst := dst) (ty := ty) (pos := pos) (after := after) (guard := guard) (t := t) (yt := yt) hx hy
  rwa [decide_eq_false (show ¬ i > j from h)] at this
end
theorem back_all' {dx px rx : Nat → Int} {W b N : Nat} (hr : ∀ i, isByte (px i)) (hW : 1 ≤ W) (hx : ∀ q, q < 4 * N → rx q = res dx W b px q) : ∀ n q, n ≤ N → q < 4 * n → ipx dx W b rx n q = px q
  | 0, q, _, h => by omega
  | n + 1, q, hn, h => by
    show step _ _ _ q = _
    unfold step
    by_cases c : 4 * n ≤ q ∧ q < 4 * n + 4
    · rw [if_pos c, u8_wrap, ipx_ahead dx W b _ n q c.1, pvAt_congr hW (fun q hq => back_all' hr hW hx n q (by omega) hq) (q - 4 * n) (by omega), hx q (by omega)]
      unfold res
      rw [show q / 4 = n by omega, show q % 4 = q - 4 * n by omega]
      have := hr q
      generalize pvAt dx W b px n (q - 4 * n) = v
      obtain ⟨x0, x1⟩ := this
      omega
    · rw [if_neg c]
      exact back_all' hr hW hx n q (by omega) (by omega)
theorem bd37 (w : World) (A : Option Addr) (n c : Nat) (W : Int) : (Instr.build 37 #[(2, .slice A n c), (3, .int .i64 W)]).run Try.prog w = .ok (.agg #[.pointer none, .slice none 0 0, .int .i64 0, .slice A n c, .int .i64 W]) w := by kernel_rfl
theorem bx37 (w : World) (A : Option Addr) (n c : Nat) (W : Int) : (Instr.box 37 (.agg #[.pointer none, .slice none 0 0, .int .i64 0, .slice A n c, .int .i64 W])).run Try.prog w = .ok (.pointer (some ⟨w.heap.size, 0, none⟩)) (w.alloc (.cells #[.pointer none, .slice none 0 0, .int .i64 0, .slice A n c, .int .i64 W] 37 (0, 0))) := by kernel_rfl
theorem e_bd37 {l : KL} {w : World} {dst : Option Tmp} {ty : TypeId} {pos : String} {after : Array Edge} {guard : Option (Nat × Bool)} {x y : Operand} {A : Option Addr} {n c : Nat} {W : Int} (hx : opv l x = some (.slice A n c)) (hy : opv l y = some (.int .i64 W)) :
    Ev Try.prog l ⟨dst, .build 37 #[(2, x), (3, y)], ty, pos, after, guard⟩ w (.agg #[.pointer none, .slice none 0 0, .int .i64 0, .slice A n c, .int .i64 W]) w := fun m a hk => by
  have := bd37 w A n c W
  simp [execOp, hk.eval hx, hk.eval hy, this, Result.andThen]
theorem e_bx37 {l : KL} {w : World} {dst : Option Tmp} {ty : TypeId} {pos : String} {after : Array Edge} {guard : Option (Nat × Bool)} {x : Operand} {A : Option Addr} {n c : Nat} {W : Int} (hx : opv l x = some (.agg #[.pointer none, .slice none 0 0, .int .i64 0, .slice A n c, .int .i64 W])) :
    Ev Try.prog l ⟨dst, .box 37 x, ty, pos, after, guard⟩ w (.pointer (some ⟨w.heap.size, 0, none⟩)) (w.alloc (.cells #[.pointer none, .slice none 0 0, .int .i64 0, .slice A n c, .int .i64 W] 37 (0, 0))) := fun m a hk => by
  have := bx37 w A n c W
  simp [execOp, hk.eval hx, this, Result.andThen]
theorem e_mk31 {l : KL} {w w' : World} {dst : Option Tmp} {ty : TypeId} {pos : String} {after : Array Edge} {guard : Option (Nat × Bool)} {x y : Operand} {n : Nat} {v : Value} (hx : opv l x = some (.int .i64 (n : Int))) (hy : opv l y = some (.int .i64 (n : Int)))
    (h : (Instr.makeSlice 31 (.int .i64 (n : Int)) (.int .i64 (n : Int))).run Try.prog w = .ok v w') :
    Ev Try.prog l ⟨dst, .makeSlice 31 x y, ty, pos, after, guard⟩ w v w' := fun m a hk => by
  simp [execOp, hk.eval hx, hk.eval hy, h, Result.andThen]
end Go.Proofs.Ytgjcikajfnlocaa
