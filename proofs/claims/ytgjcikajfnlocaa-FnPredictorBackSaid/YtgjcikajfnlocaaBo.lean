/-
  OUR OWN: laws.FnPredictorBack: the walk, joined.
-/
import Derived.Test.YtgjcikajfnlocaaBn
namespace Go.Proofs.Ytgjcikajfnlocaa
open Go.RowKit Go.Proofs.Ytgjcikajfnlocaa.PFnPredictorBack Go.Proofs.YtgjcikajfnlocaaW.PrintWords Go.Proofs.YtgjcikajfnlocaaW.PrintLast
set_option linter.unusedVariables false
set_option linter.unusedSimpArgs false
/-- laws.FnPredictorBack answers true. -/
theorem law_walk (a0 a1 a2 : Int) (a3 : Option Addr) (len3 cap3 : Nat) (z3 : List Int) (a4 : Option Addr) (len4 cap4 : Nat) (z4 : List Int) (w : World) (w0 : (Lit.int .i64 a0).wf = true) (w1 : (Lit.int .i64 a1).wf = true) (w2 : (Lit.int .i64 a2).wf = true)
    (w3 : (a3 = none ∧ len3 = 0 ∧ cap3 = 0 ∧ z3 = []) ∨ ∃ x, a3 = some x ∧ len3 ≤ cap3 ∧ cap3 ≤ maxLen ∧ z3.length = cap3 ∧ (∀ i, i < z3.length → w.cell? (x.add i) = some (.int .u8 (z3.getD i 0))) ∧ ∀ n ∈ z3, (Lit.int .u8 n).wf = true) (y3 : len3 * 1 ≤ 140737488351232)
    (w4 : (a4 = none ∧ len4 = 0 ∧ cap4 = 0 ∧ z4 = []) ∨ ∃ x, a4 = some x ∧ len4 ≤ cap4 ∧ cap4 ≤ maxLen ∧ z4.length = cap4 ∧ (∀ i, i < z4.length → w.cell? (x.add i) = some (.int .u8 (z4.getD i 0))) ∧ ∀ n ∈ z4, (Lit.int .u8 n).wf = true) (y4 : len4 * 1 ≤ 140737488351232) :
    Calls Try.prog 4 #[.int .i64 a0, .int .i64 a1, .int .i64 a2, .slice a3 len3 cap3, .slice a4 len4 cap4] w fun e w' => e = .returned (.bool true) ∧ Below w.heap.size w w' := by
  obtain ⟨l3, rfl, hr3, hm3, hw3, hc3⟩ := ReadsInt.ofRowC w3
  obtain ⟨l4, rfl, hr4, hm4, hw4, hc4⟩ := ReadsInt.ofRowC w4
  have C3 : Kd.C (Kd.int .u8) w a3 l3.length l3 := Kd.C_of_reads (d := (0 : Int)) (h1 := fun _ => rfl) hr3
  have C4 : Kd.C (Kd.int .u8) w a4 l4.length l4 := Kd.C_of_reads (d := (0 : Int)) (h1 := fun _ => rfl) hr4
  have b3 := byte_of_wf hw3
  have b4 := byte_of_wf hw4
  clear w3 w4 w0 w1 w2 hw3 hw4 hr3 hr4
  by_cases s3 : 2147483647 < (l3.length : Int)
  · exact go_long3 _ _ _ _ _ _ _ _ _ _ (decide_eq_true s3)
  by_cases s4 : 2147483647 < (l4.length : Int)
  · exact go_long4 _ _ _ _ _ _ _ _ _ _ (decide_eq_false s3) (decide_eq_true s4)
  have t3 := decide_eq_false s3
  have t4 := decide_eq_false s4
  have D : ∀ {w1 w' : World}, Below w.heap.size w w1 → Drawn0 w1 w' → Below w.heap.size w w' := fun h d => h.trans (d.below.mono h.size)
  have KS : Aside0 (∀ w1, Below w.heap.size w w1 → Calls Try.prog 8 #[] w1 fun e w' => e = .returned (.bool true) ∧ Below w.heap.size w w') := Aside0.mk fun w1 hB => (laws_readSums.calls true w1 sums_true).mono fun e w' h => ⟨h.1, D hB h.2⟩
  obtain ⟨r, hA, hAt⟩ := area_some a0 a1 l4 (by omega)
  have KA : Aside0 (∀ w1, Below w.heap.size w w1 → Calls Try.prog 5 #[.int .i64 a0, .int .i64 a1, .slice a4 l4.length cap4] w1 fun e w' => e = .returned (.bool r) ∧ Below w.heap.size w w') := Aside0.mk fun w1 hB =>
    (laws_isArea.calls a0 a1 a4 cap4 l4 r w1 (Kd.C_below C4 hB) hc4 hA).mono fun e w' h => ⟨h.1, D hB h.2⟩
  cases r with
  | false => exact go_area _ _ _ _ _ _ _ _ _ _ t3 t4 KA KS
  | true =>
    obtain ⟨W, h, rfl, rfl, hW, hW2, hh, hh2, h4⟩ := hAt rfl
    by_cases n2 : a2 < 2
    · exact go_two _ _ _ _ _ _ _ _ _ _ t3 t4 KA KS (decide_eq_true n2)
    by_cases n9 : 9 < a2
    · exact go_nine _ _ _ _ _ _ _ _ _ _ t3 t4 KA KS (decide_eq_false n2) (decide_eq_true n9)
    obtain ⟨b, rfl⟩ := Int.eq_ofNat_of_zero_le (show 0 ≤ a2 by omega)
    have hb : b ≤ 9 := by omega
    have hT2 : tl W b * tl h b ≤ W * h := Nat.mul_le_mul (tl_le hW) (tl_le hh)
    have hWh : W * h ≤ 268435456 := Nat.le_trans (Nat.mul_le_mul hW2 hh2) (by decide)
    have KB : Aside0 (∀ w1, Below w.heap.size w w1 → Calls Try.prog 7 #[.int .i64 (W : Int), .int .i64 (h : Int), .int .i64 (b : Int)] w1 fun e w' => e = .returned (.int .i64 ((tl W b * tl h b : Nat) : Int)) ∧ Below w.heap.size w w') := Aside0.mk fun w1 hB =>
      (laws_blocksOf.calls (W : Int) (h : Int) (b : Int) _ w1 (blocksOf_eq W h b hb hW hh hW2 hh2)).mono fun e w' h => ⟨h.1, D hB h.2⟩
    obtain ⟨k, r, hM, hMt⟩ := modes_some l3 (tl W b * tl h b) (by omega)
    have KM : Aside0 (∀ w1, Below w.heap.size w w1 → Calls Try.prog 6 #[.slice a3 l3.length cap3, .int .i64 ((tl W b * tl h b : Nat) : Int)] w1 fun e w' => e = .returned (.bool r) ∧ Below w.heap.size w w') := Aside0.mk fun w1 hB =>
      (laws_isModes.calls k a3 cap3 l3 _ r w1 (Kd.C_below C3 hB) hc3 hM).mono fun e w' h => ⟨h.1, D hB h.2⟩
    cases r with
    | false => exact go_modes _ _ _ _ _ _ _ _ _ _ t3 t4 KA KS (decide_eq_false n2) (decide_eq_false n9) _ KB KM
    | true =>
      obtain ⟨h3, hm⟩ := hMt rfl
      have hWh : 1 ≤ W * h := Nat.mul_pos hW hh
      have hTp : 1 ≤ tl W b * tl h b := Nat.mul_pos (tl_pos hW) (tl_pos hh)
      obtain ⟨db, dof, rfl, hdb, hdc⟩ := C_some C3 (by omega)
      exact go_all (Below.refl _ w) C4 hc4 C3 b3 b4 hdb hdc hW hh hW2 hh2 hb (by omega) rfl h4 h3 (fun u hu => by have := hm u hu; unfold rd at this; rwa [Int.toNat_natCast] at this) KA.out KB.out KM.out KS.out
end Go.Proofs.Ytgjcikajfnlocaa
