/-
  OUR OWN: laws.FnPredictorBack: its walk.
-/
import Derived.Test.YtgjcikajfnlocaaBw
import Derived.Test.YtgjcikajfnlocaaBe
namespace Go.Proofs.Ytgjcikajfnlocaa
open Go.RowKit Go.Proofs.Ytgjcikajfnlocaa.PFnPredictorBack Go.Proofs.YtgjcikajfnlocaaW.PrintWords Go.Proofs.YtgjcikajfnlocaaW.PrintLast
set_option linter.unusedVariables false

/-! ### what the guards answer -/
theorem area_some (a0 a1 : Int) (l : List Int) (hl : l.length ≤ 2147483647) : ∃ r, laws_isArea.f a0 a1 l = some r ∧ (r = true → ∃ W h : Nat, a0 = W ∧ a1 = h ∧ 1 ≤ W ∧ W ≤ 16384 ∧ 1 ≤ h ∧ h ≤ 16384 ∧ l.length = 4 * (W * h)) := by
  unfold laws_isArea.f
  by_cases c1 : a0 > 0
  · rw [if_pos c1]
    by_cases c2 : a1 > 0
    · rw [if_pos c2]
      by_cases c3 : a0 ≤ 16384
      · rw [if_pos c3]
        by_cases c4 : a1 ≤ 16384
        · rw [if_pos c4]
          by_cases c5 : wrap64 (a0 * a1) ≤ 16384
          · rw [if_pos c5]
            refine ⟨_, rfl, fun he => ?_⟩
            clear c5
            obtain ⟨W, rfl⟩ := Int.eq_ofNat_of_zero_le (show 0 ≤ a0 by omega)
            obtain ⟨h, rfl⟩ := Int.eq_ofNat_of_zero_le (show 0 ≤ a1 by omega)
            have hWh : W * h ≤ 268435456 := Nat.le_trans (Nat.mul_le_mul (show W ≤ 16384 by omega) (show h ≤ 16384 by omega)) (by decide)
            have e1 : wrap64 (wrap64 (4 * (W : Int)) * (h : Int)) = ((4 * (W * h) : Nat) : Int) := by
              rw [wrap64_lit (n := 4 * (W : Int)) (by omega) (by omega)]
              have : 4 * (W : Int) * (h : Int) = ((4 * (W * h) : Nat) : Int) := by rw [Int.mul_assoc]; simp
              rw [this]
              exact w64 _ (by omega)
            rw [e1] at he
            have he' := eq_of_beq he
            exact ⟨W, h, rfl, rfl, by omega, by omega, by omega, by omega, by omega⟩
          · exact ⟨false, by rw [if_neg c5], fun h => by cases h⟩
        · exact ⟨false, by rw [if_neg c4], fun h => by cases h⟩
      · exact ⟨false, by rw [if_neg c3], fun h => by cases h⟩
    · exact ⟨false, by rw [if_neg c2], fun h => by cases h⟩
  · exact ⟨false, by rw [if_neg c1], fun h => by cases h⟩
theorem blocksOf_eq (W h b : Nat) (hb : b ≤ 9) (hW : 1 ≤ W) (hh : 1 ≤ h) (hW2 : W ≤ 16384) (hh2 : h ≤ 16384) : laws_blocksOf.f (W : Int) (h : Int) (b : Int) = some ((tl W b * tl h b : Nat) : Int) := by
  have hT2 : tl W b * tl h b ≤ W * h := Nat.mul_le_mul (tl_le hW) (tl_le hh)
  have hWh : W * h ≤ 268435456 := Nat.le_trans (Nat.mul_le_mul hW2 hh2) (by decide)
  rw [laws_blocksOf.f, blocks_eq W b hb hW2 hW, Option.bind_some, blocks_eq h b hb hh2 hh, Option.bind_some]
  rw [w64' (((tl W b : Nat) : Int) * ((tl h b : Nat) : Int)) (tl W b * tl h b) (by simp) (by omega)]
theorem modes_loop (l : List Int) (T : Nat) (hl : l.length = 4 * T) (hT : T ≤ 268435456) : ∀ m t k : Nat, t + m = T → (∀ u, u < t → rd l ((4 * u + 1 : Nat) : Int) ≤ 13) →
    ∃ r, laws_isModes.l0 (m + k + 1) l ((4 * t + 1 : Nat) : Int) = some r ∧ (r = true → ∀ u, u < T → rd l ((4 * u + 1 : Nat) : Int) ≤ 13)
  | 0, t, k, h, hu => by
    refine ⟨true, ?_, fun _ => ?_⟩
    · rw [laws_isModes.l0, if_neg (by omega)]
    · intro u hut
      exact hu u (by omega)
  | m + 1, t, k, h, hu => by
    rw [show m + 1 + k + 1 = (m + k + 1) + 1 by omega, laws_isModes.l0, if_pos (by omega), if_pos (by omega)]
    by_cases c : rd l ((4 * t + 1 : Nat) : Int) > 13
    · exact ⟨false, by rw [if_pos c], fun h => by cases h⟩
    · rw [if_neg c, w64' (((4 * t + 1 : Nat) : Int) + 4) (4 * (t + 1) + 1) (by omega) (by omega)]
      refine modes_loop l T hl hT m (t + 1) k (by omega) fun u hut => ?_
      by_cases e : u = t
      · subst e; exact Int.not_lt.1 c
      · exact hu u (by omega)
theorem modes_some (l : List Int) (T : Nat) (hT : T ≤ 268435456) : ∃ k r, laws_isModes.f k l (T : Int) = some r ∧ (r = true → l.length = 4 * T ∧ ∀ u, u < T → rd l ((4 * u + 1 : Nat) : Int) ≤ 13) := by
  have e : wrap64 (4 * (T : Int)) = ((4 * T : Nat) : Int) := w64' _ _ (by omega) (by omega)
  by_cases c : l.length = 4 * T
  · obtain ⟨r, h1, h2⟩ := modes_loop l T c hT T 0 0 (by omega) (fun u hu => by omega)
    refine ⟨T + 1, r, ?_, fun hr => ⟨c, h2 hr⟩⟩
    rw [laws_isModes.f, e, if_pos (by omega)]
    exact h1
  · refine ⟨0, false, ?_, fun h => by cases h⟩
    rw [laws_isModes.f, e, if_neg (by omega)]
theorem bytes_loop (l : List Int) (hl : l.length ≤ 4294967296) : ∀ m i k : Nat, i + m = l.length → laws_bytes.l0 (m + k + 1) l l (i : Int) = some true
  | 0, i, k, h => by rw [laws_bytes.l0, if_neg (by omega)]
  | m + 1, i, k, h => by
    rw [show m + 1 + k + 1 = (m + k + 1) + 1 by omega, laws_bytes.l0, if_pos (by omega), if_pos (by omega), if_pos (by omega), if_pos rfl, w64' ((i : Int) + 1) (i + 1) (by omega) (by omega)]
    exact bytes_loop l hl m (i + 1) k (by omega)
theorem bytes_same (l : List Int) (hl : l.length ≤ 4294967296) : laws_bytes.f (l.length + 1) l l = some true := by
  rw [laws_bytes.f, if_pos rfl]
  exact bytes_loop l hl l.length 0 0 (by omega)
theorem sums_true : laws_readSums.f = some true := by kernel_rfl
theorem list_range (l : List Int) : (List.range l.length).map (fun i => l.getD i 0) = l := by
  apply List.ext_getElem?
  intro i
  by_cases h : i < l.length
  · simp [List.getD, h]
  · rw [List.getElem?_eq_none (by simpa using h), List.getElem?_eq_none (by simpa using h)]

theorem byte_of_wf {l : List Int} (h : ∀ x ∈ l, (Lit.int .u8 x).wf = true) (i : Nat) : isByte (l.getD i 0) := by
  by_cases hi : i < l.length
  · have := h (l.getD i 0) (by rw [List.getD_eq_getElem?_getD, List.getElem?_eq_getElem hi]; exact List.getElem_mem _)
    generalize l.getD i 0 = x at this
    simp [Lit.wf, IntKind.min, IntKind.max, IntKind.bits, IntKind.signed] at this
    unfold isByte
    omega
  · rw [List.getD_eq_getElem?_getD, List.getElem?_eq_none (by omega)]
    exact ⟨by decide, by decide⟩
/-- Pixels (u32) that a call has made: a row of its own. -/
theorem own_u32 {w : World} {base : Nat} {v : Value} {L : List Int} (hn : 0 < L.length) (h : Kd.R (Kd.int .u32) 38 w base (fun _ => True) v L) :
    ∃ g cap, v = .slice (some ⟨g, 0, none⟩) L.length cap ∧ base ≤ g ∧ g < w.heap.size ∧ L.length ≤ cap ∧ Kd.C (Kd.int .u32) w (some ⟨g, 0, none⟩) L.length L ∧ ∀ {i : Nat}, i < L.length → w.cell? ⟨g, 0 + i, none⟩ = some (.int .u32 (L.getD i 0)) := by
  obtain ⟨A, c, rfl, hc, hC⟩ := Kd.R_reads h
  obtain ⟨inner, ho, _⟩ := h.2
  obtain ⟨_, ho⟩ := ho
  rcases ho with ⟨_, h0⟩ | ⟨g, cap, cur, he, hb, hg, _⟩
  · omega
  · simp only [Value.slice.injEq] at he
    obtain ⟨rfl, _, rfl⟩ := he
    refine ⟨g, c, rfl, hb, (Array.getElem?_eq_some_iff.1 hg).1, hc, hC, fun {i} hi => ?_⟩
    obtain ⟨ad, e, hcell⟩ := Kd.at_int hC (i : Int) (by omega) (by omega)
    obtain rfl := Option.some.inj e
    rw [Addr.add_eq] at hcell
    exact hcell
end Go.Proofs.Ytgjcikajfnlocaa
