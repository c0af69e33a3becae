/-
  OUR OWN: laws.FnPredictor: its walk.
-/
import Derived.Test.YtgjcikajfnlocaaPw
import Derived.Test.YtgjcikajfnlocaaPq
namespace Go.Proofs.Ytgjcikajfnlocaa
open Go.RowKit Go.Proofs.Ytgjcikajfnlocaa.PFnPredictor Go.Proofs.YtgjcikajfnlocaaW.PrintWords Go.Proofs.YtgjcikajfnlocaaW.PrintLast
set_option linter.unusedVariables false

/-! ### what the guards answer -/
theorem area_some (a0 a1 : Int) (l : List Int) (hl : l.length ≤ 2147483647) : ∃ r, laws_isArea.f a0 a1 l = some r ∧ (r = true → ∃ W h : Nat, a0 = W ∧ a1 = h ∧ 1 ≤ W ∧ W ≤ 16384 ∧ 1 ≤ h ∧ h ≤ 16384 ∧ l.length = 4 * (W * h)) := by
  unfold laws_isArea.f
  by_cases c1 : a0 > 0
  · rw [if_pos c1]
    by_cases c2 : a1 > 0
    · rw [if_pos c2]
      by_cases c3 : a0 ≤ 16384
      · rw [if_pos c3]
        by_cases c4 : a1 ≤ 16384
        · rw [if_pos c4]
          by_cases c5 : wrap64 (a0 * a1) ≤ 16384
          · rw [if_pos c5]
            refine ⟨_, rfl, fun he => ?_⟩
            clear c5
            obtain ⟨W, rfl⟩ := Int.eq_ofNat_of_zero_le (show 0 ≤ a0 by omega)
            obtain ⟨h, rfl⟩ := Int.eq_ofNat_of_zero_le (show 0 ≤ a1 by omega)
            have hWh : W * h ≤ 268435456 := Nat.le_trans (Nat.mul_le_mul (show W ≤ 16384 by omega) (show h ≤ 16384 by omega)) (by decide)
            have e1 : wrap64 (wrap64 (4 * (W : Int)) * (h : Int)) = ((4 * (W * h) : Nat) : Int) := by
              rw [wrap64_lit (n := 4 * (W : Int)) (by omega) (by omega)]
              have : 4 * (W : Int) * (h : Int) = ((4 * (W * h) : Nat) : Int) := by rw [Int.mul_assoc]; simp
              rw [this]
              exact w64 _ (by omega)
            rw [e1] at he
            have he' := eq_of_beq he
            exact ⟨W, h, rfl, rfl, by omega, by omega, by omega, by omega, by omega⟩
          · exact ⟨false, by rw [if_neg c5], fun h => by cases h⟩
        · exact ⟨false, by rw [if_neg c4], fun h => by cases h⟩
      · exact ⟨false, by rw [if_neg c3], fun h => by cases h⟩
    · exact ⟨false, by rw [if_neg c2], fun h => by cases h⟩
  · exact ⟨false, by rw [if_neg c1], fun h => by cases h⟩
theorem blocks_eq (n s : Nat) (hs : s ≤ 9) (hn : n ≤ 16384) (h1 : 1 ≤ n) : laws_blocks.f (n : Int) (s : Int) = some ((tl n s : Nat) : Int) := rounded_eq n s hs hn h1
theorem blocksOf_eq (W h b : Nat) (hb : b ≤ 9) (hW : 1 ≤ W) (hh : 1 ≤ h) (hW2 : W ≤ 16384) (hh2 : h ≤ 16384) : laws_blocksOf.f (W : Int) (h : Int) (b : Int) = some ((tl W b * tl h b : Nat) : Int) := by
  have hT2 : tl W b * tl h b ≤ W * h := Nat.mul_le_mul (tl_le hW) (tl_le hh)
  have hWh : W * h ≤ 268435456 := Nat.le_trans (Nat.mul_le_mul hW2 hh2) (by decide)
  rw [laws_blocksOf.f, blocks_eq W b hb hW2 hW, Option.bind_some, blocks_eq h b hb hh2 hh, Option.bind_some]
  rw [w64' (((tl W b : Nat) : Int) * ((tl h b : Nat) : Int)) (tl W b * tl h b) (by simp) (by omega)]
theorem modes_loop (l : List Int) (T : Nat) (hl : l.length = 4 * T) (hT : T ≤ 268435456) : ∀ m t k : Nat, t + m = T → (∀ u, u < t → rd l ((4 * u + 1 : Nat) : Int) ≤ 13) →
    ∃ r, laws_isModes.l0 (m + k + 1) l ((4 * t + 1 : Nat) : Int) = some r ∧ (r = true → ∀ u, u < T → rd l ((4 * u + 1 : Nat) : Int) ≤ 13)
  | 0, t, k, h, hu => by
    refine ⟨true, ?_, fun _ => ?_⟩
    · rw [laws_isModes.l0, if_neg (by omega)]
    · intro u hut
      exact hu u (by omega)
  | m + 1, t, k, h, hu => by
    rw [show m + 1 + k + 1 = (m + k + 1) + 1 by omega, laws_isModes.l0, if_pos (by omega), if_pos (by omega)]
    by_cases c : rd l ((4 * t + 1 : Nat) : Int) > 13
    · exact ⟨false, by rw [if_pos c], fun h => by cases h⟩
    · rw [if_neg c, w64' (((4 * t + 1 : Nat) : Int) + 4) (4 * (t + 1) + 1) (by omega) (by omega)]
      refine modes_loop l T hl hT m (t + 1) k (by omega) fun u hut => ?_
      by_cases e : u = t
      · subst e; exact Int.not_lt.1 c
      · exact hu u (by omega)
theorem modes_some (l : List Int) (T : Nat) (hT : T ≤ 268435456) : ∃ k r, laws_isModes.f k l (T : Int) = some r ∧ (r = true → l.length = 4 * T ∧ ∀ u, u < T → rd l ((4 * u + 1 : Nat) : Int) ≤ 13) := by
  have e : wrap64 (4 * (T : Int)) = ((4 * T : Nat) : Int) := w64' _ _ (by omega) (by omega)
  by_cases c : l.length = 4 * T
  · obtain ⟨r, h1, h2⟩ := modes_loop l T c hT T 0 0 (by omega) (fun u hu => by omega)
    refine ⟨T + 1, r, ?_, fun hr => ⟨c, h2 hr⟩⟩
    rw [laws_isModes.f, e, if_pos (by omega)]
    exact h1
  · refine ⟨0, false, ?_, fun h => by cases h⟩
    rw [laws_isModes.f, e, if_neg (by omega)]
theorem bytes_loop (l : List Int) (hl : l.length ≤ 4294967296) : ∀ m i k : Nat, i + m = l.length → laws_bytes.l0 (m + k + 1) l l (i : Int) = some true
  | 0, i, k, h => by rw [laws_bytes.l0, if_neg (by omega)]
  | m + 1, i, k, h => by
    rw [show m + 1 + k + 1 = (m + k + 1) + 1 by omega, laws_bytes.l0, if_pos (by omega), if_pos (by omega), if_pos (by omega), if_pos rfl, w64' ((i : Int) + 1) (i + 1) (by omega) (by omega)]
    exact bytes_loop l hl m (i + 1) k (by omega)
theorem bytes_same (l : List Int) (hl : l.length ≤ 4294967296) : laws_bytes.f (l.length + 1) l l = some true := by
  rw [laws_bytes.f, if_pos rfl]
  exact bytes_loop l hl l.length 0 0 (by omega)
theorem sums_true : laws_readSums.f = some true := by kernel_rfl
theorem list_range (l : List Int) : (List.range l.length).map (fun i => l.getD i 0) = l := by
  apply List.ext_getElem?
  intro i
  by_cases h : i < l.length
  · simp [List.getD, h]
  · rw [List.getElem?_eq_none (by simpa using h), List.getElem?_eq_none (by simpa using h)]

/-! ### the calls, at any world that has kept what stood -/
theorem impl_chain {w0 w : World} (HB : Below w0.heap.size w0 w) {A3 A4 : Option Addr} {c3 c4 W b h : Nat} {l3 l4 : List Int} (hr3 : Kd.C (Kd.int .u8) w0 A3 l3.length l3) (hr4 : Kd.C (Kd.int .u8) w0 A4 l4.length l4) (hc3 : l3.length ≤ c3) (hc4 : l4.length ≤ c4)
    (hb3 : ∀ i, isByte (l3.getD i 0)) (hb4 : ∀ i, isByte (l4.getD i 0)) (hW : 1 ≤ W) (hh : 1 ≤ h) (hW2 : W ≤ 16384) (hh2 : h ≤ 16384) (hb : b ≤ 9) (h4 : l4.length = 4 * (W * h)) (h3 : l3.length = 4 * (tl W b * tl h b))
    (hm : ∀ u, u < tl W b * tl h b → rd l3 ((4 * u + 1 : Nat) : Int) ≤ 13) :
    Calls Try.prog 10 #[.int .i64 (W : Int), .int .i64 (h : Int), .int .i64 (b : Int), .slice A3 l3.length c3, .slice A4 l4.length c4] w fun e w1 =>
      ∃ A cap, e = .returned (.slice A l4.length cap) ∧
        Calls Try.prog 11 #[.int .i64 (W : Int), .int .i64 (h : Int), .int .i64 (b : Int), .slice A3 l3.length c3, .slice A4 l4.length c4] w1 fun e w2 => ∃ A' cap', e = .returned (.slice A' l4.length cap') ∧
          Calls Try.prog 9 #[.slice A l4.length cap, .slice A' l4.length cap'] w2 fun e w3 => e = .returned (.bool true) ∧ Below w0.heap.size w0 w3 := by
  have hWh2 : W * h ≤ 268435456 := Nat.le_trans (Nat.mul_le_mul hW2 hh2) (by decide)
  refine (impl_any (Kd.C_below hr3 HB) (Kd.C_below hr4 HB) hb3 hb4 hW hh hW2 hh2 hb h4 h3).mono ?_
  rintro e w1 ⟨A, cap, rfl, hcap, hC, hB1⟩
  refine ⟨A, cap, rfl, ?_⟩
  have HB1 : Below w0.heap.size w0 w1 := HB.trans (hB1.mono HB.size)
  have hspec : spec_Predictor.f (W * h + 6) (W : Int) (h : Int) (b : Int) l3 l4 = some ((List.range l4.length).map (ipx (fun i => l3.getD i 0) W b (fun i => l4.getD i 0) (W * h))) := by
    have := ref_eq (dx := fun i => l3.getD i 0) (px := fun i => l4.getD i 0) (W := W) (b := b) (h := h) hb4 hb3 hW hh hW2 hh2 hb (fun t ht => by have := hm t ht; unfold rd at this; rwa [Int.toNat_natCast] at this) (W * h + 6) (by omega)
    rw [← h3, ← h4, list_range, list_range] at this
    exact this
  refine (spec_Predictor.calls _ _ _ _ _ c3 l3 _ c4 l4 _ w1 (Kd.C_below hr3 HB1) hc3 (Kd.C_below hr4 HB1) hc4 hspec).mono ?_
  rintro e w2 ⟨v, rfl, hR, hB2⟩
  obtain ⟨A', cap', rfl, hcap', hC'⟩ := Kd.R_reads hR
  have len : ((List.range l4.length).map (ipx (fun i => l3.getD i 0) W b (fun i => l4.getD i 0) (W * h))).length = l4.length := range_len _ _
  refine ⟨A', cap', by rw [len], ?_⟩
  have hCC := Kd.C_below hC hB2
  generalize (List.range l4.length).map (ipx (fun i => l3.getD i 0) W b (fun i => l4.getD i 0) (W * h)) = L at hC' hCC hcap' len
  rw [← len] at hCC hcap ⊢
  refine (laws_bytes.calls (L.length + 1) A cap L A' cap' L true w2 hCC hcap hC' hcap' (bytes_same L (by omega))).mono ?_
  rintro e w3 ⟨rfl, hD⟩
  exact ⟨rfl, (HB1.trans (hB2.mono HB1.size)).trans (hD.below.mono (Nat.le_trans HB1.size hB2.size))⟩
end Go.Proofs.Ytgjcikajfnlocaa
