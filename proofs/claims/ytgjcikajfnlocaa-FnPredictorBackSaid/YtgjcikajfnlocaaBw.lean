/-
  OUR OWN: THE WALK of laws.FnPredictorBack: bytes.Clone, vp8l.DoorPredictor, impl.Predictor.
-/
import Derived.Test.YtgjcikajfnlocaaSe
import Derived.Test.YtgjcikajfnlocaaPFnPredictorBackx
import Derived.Lib.SliceRun
import Derived.Lib.Walk
import Derived.OwnWalk
namespace Go.Proofs.Ytgjcikajfnlocaa
open Go.RowKit Go.Proofs.Ytgjcikajfnlocaa.PFnPredictorBack Go.Proofs.YtgjcikajfnlocaaW.PrintWords Go.Proofs.YtgjcikajfnlocaaW.PrintLast
set_option linter.unusedVariables false

set_option maxHeartbeats 2000000 in
set_option maxRecDepth 100000 in
theorem clone_at (a : Addr) (n c : Nat) (xs : List Int) (w : World) (hx : xs.length = n) (hbig : n ≤ 140737488355328) (hc : ∀ i, i < n → w.cell? (a.add i) = some (.int .u8 (xs.getD i 0))) :
    Calls Try.prog 22 #[.slice (some a) n c] w fun e w' => ∃ v', e = .returned v' ∧ w'.ownsRow w.heap.size 5 1 v' n (xs.map (Value.int .u8)) ∧ v' ≠ .slice none 0 0 ∧ Below w.heap.size w w' := by
  have t22 := Try.underlying22
  have t5 := Try.underlying5
  have A : Aside (∀ i, i < n → w.cell? (a.add i) = some (.int .u8 (xs.getD i 0))) := hc
  clear hc
  obtain ⟨i0, hi, hz0, hz1, hz2⟩ := info_parts info5
  have q22 : ∀ (w : World) (a : Option Addr) (n c n' c' : Nat), (binOp .eql 22 (.slice a n c) (.slice none n' c')).run Try.prog w = .ok (.bool a.isNone) w := fun w a n c n' c' => Lib.run_eql_slice_nil w _ _ a n c n' c' t22
  have u22 : ∀ w, Sem.run Try.prog (underlying 22) w = .ok (TypeDesc.slice 5) w := run_underlying t22
  have z5 : ∀ w, Sem.run Try.prog (Go.sizeOf 5) w = .ok 1 w := fun w => by simp [Go.sizeOf, typeInfo, hi, hz1]
  go_enter Try.func22, Try.ntmps22
  go_wp2_with (at_builtin; refine wpList_append_own _ rfl _ _ 22 rfl w.heap.size 5 i0 (.int .u8 0) 1 1 t22 hi hz0 hz1 hz2 rfl (by decide) _ _ _ rfl (World.ownsRow_made w #[] 0 (Nat.le_refl _) (Nat.zero_le _) rfl) a n c (xs.map (Value.int .u8)) rfl ?qc1 ?qc2 ?qc3 ?qc4 ?qc5 ?qc6 ?_)
  case qc1 => simp; omega
  case qc2 =>
    intro j u hj
    have hjn : j < n := by
      have := (List.getElem?_eq_some_iff.1 hj).1
      simp at this
      omega
    refine Lib.cell?_alloc_some _ ?_
    rw [A.out j hjn]
    have e : (xs.map (Value.int .u8))[j]? = some (Value.int .u8 (xs.getD j 0)) := by simp [List.getD, List.getElem?_eq_getElem (show j < xs.length by omega)]
    rw [e] at hj
    exact hj
  case qc3 => intro u hu; obtain ⟨x, _, rfl⟩ := List.mem_map.1 hu; rfl
  case qc4 => unfold maxLen; omega
  case qc5 => omega
  case qc6 => simp
  intro v' w1 hown hgrow hnil
  go_wp2
  go_ret
  refine ⟨v', rfl, by simpa using hown, ?_, ?_⟩
  · first | exact hnil | (intro e; exact absurd (hnil.1 e).1 (by simp))
  · exact ((Below.refl _ w).alloc (Nat.le_refl _) _).grown hgrow (by simp) (by intro k hk; simp [Value.ownBlock] at hk; omega)

set_option maxHeartbeats 4000000 in
set_option maxRecDepth 100000 in
theorem door_any {w0 : World} {db dof dlen dcap pb len cap W b h : Nat} {px dx : Nat → Int}
    (h2 : db ≠ pb) (hpb : pb < w0.heap.size) (hdb : db < w0.heap.size) (hr : ∀ i, isByte (px i)) (hd : ∀ i, isByte (dx i)) (hW : 1 ≤ W) (hh : 1 ≤ h) (hW2 : W ≤ 16384) (hh2 : h ≤ 16384) (hb : b ≤ 9) (hlen : len = 4 * (W * h)) (hdl : dlen = 4 * (tl W b * tl h b))
    (hcd : ∀ {i : Nat}, i < dlen → w0.cell? ⟨db, dof + i, none⟩ = some (.int .u8 (dx i))) (hm : Mem w0 pb len px) :
    Calls Try.prog 21 #[.int .i32 (W : Int), .int .u32 (b : Int), .slice (some ⟨db, dof, none⟩) dlen dcap, .slice (some ⟨pb, 0, none⟩) len cap, .int .i32 (h : Int)] w0 fun e w' =>
      e = .returned (.slice (some ⟨pb, 0, none⟩) len cap) ∧ Mem w' pb len (ipx dx W b px (W * h)) ∧ ∀ B, B ≤ pb → B ≤ w0.heap.size → Below B w0 w' := by
  have A2 : Aside (db ≠ pb) := h2
  have key : ∀ w1 : World, w1 = w0.alloc (.cells #[.int .u32 0, .int .i32 (W : Int), .int .u32 (b : Int), .slice (some ⟨db, dof, none⟩) dlen dcap] 57 (0, 0)) →
      Calls Try.prog 32 #[.pointer (some ⟨w0.heap.size, 0, none⟩), .slice (some ⟨pb, 0, none⟩) len cap, .int .i32 (h : Int)] w1 fun e w' =>
        e = .returned (.slice (some ⟨pb, 0, none⟩) len cap) ∧ Mem w' pb len (ipx dx W b px (W * h)) ∧ ∀ B, B ≤ pb → B ≤ w0.heap.size → Below B w0 w' := by
    intro w1 e1
    have hbl := below_alloc (Below.refl w0.heap.size w0) (.cells #[.int .u32 0, .int .i32 (W : Int), .int .u32 (b : Int), .slice (some ⟨db, dof, none⟩) dlen dcap] 57 (0, 0))
    have hnew := blk_new w0 (.cells #[.int .u32 0, .int .i32 (W : Int), .int .u32 (b : Int), .slice (some ⟨db, dof, none⟩) dlen dcap] 57 (0, 0))
    rw [← e1] at hbl hnew
    have hc : ∀ (i : Nat) (v : Value), (#[Value.int .u32 0, .int .i32 (W : Int), .int .u32 (b : Int), .slice (some ⟨db, dof, none⟩) dlen dcap] : Array Value)[i]? = some v → w1.cell? ⟨w0.heap.size, i, none⟩ = some v := fun i v hv => by
      unfold World.cell?
      simp only [hnew]
      simpa using hv
    have hT : Tr w1 w0.heap.size 0 db dof dlen dcap W b dx := ⟨hc 1 _ rfl, hc 2 _ rfl, hc 3 _ rfl, fun hi => (hbl.cell hdb).trans (hcd hi)⟩
    have hm1 : Mem w1 pb len px := ⟨fun hi => (hbl.cell hpb).trans (hm.cell hi), fun hi => (hbl.frozen hpb).trans (hm.free hi)⟩
    refine (ip_any (cap := cap) (Nat.ne_of_gt hpb) A2.out hr hd hW hh hW2 hh2 hb hlen hdl hT hm1).mono ?_
    rintro e w' ⟨he, hm', ho⟩
    refine ⟨he, hm', fun B hB hB2 => ?_⟩
    exact (hbl.mono hB2).trans ⟨ho.os, ho.tape, ho.output, Nat.le_of_eq ho.size.symm, fun k hk => ho.block k (by omega)⟩
  clear hcd hm hr hd hW hh hW2 hh2 hb hlen hdl h2 hpb hdb
  go_enter Try.func21, Try.ntmps21
  go_wp2_with ((with_reducible refine gate_callee (f := 32) rfl ?_); refine goesL_ (some 18) rfl rfl Try.func32 (by kernel_rfl) rfl #[.pointer (some ⟨w0.heap.size, 0, none⟩), .slice (some ⟨pb, 0, none⟩) len cap, .int .i32 (h : Int)] rfl (by (try simp only [List.map_toArray, List.map_cons, List.map_nil]); first | done | rfl) ?_; (refine (key _ rfl).mono ?_); rintro e w' ⟨rfl, hm', hb'⟩; refine ⟨_, rfl, ?_⟩)
  go_ret
  exact ⟨rfl, hm', hb'⟩

theorem addr_of_cell {w : World} {a : Addr} {v : Value} (h : w.cell? (a.add 0) = some v) : a = ⟨a.block, a.off, none⟩ := by
  obtain ⟨b, o, e⟩ := a
  cases e with
  | none => rfl
  | some x =>
    unfold World.cell? Addr.add at h
    simp at h
    repeat' split at h
    all_goals first | cases h | simp_all
theorem C_cells {w : World} {a : Addr} {l : List Int} (h : Kd.C (Kd.int .u8) w (some a) l.length l) {i : Nat} (hi : i < l.length) : w.cell? (a.add i) = some (.int .u8 (l.getD i 0)) := by
  obtain ⟨ad, e, hc⟩ := Kd.at_int h (i : Int) (by omega) (by omega)
  obtain rfl := Option.some.inj e
  exact hc
theorem C_some {w : World} {A : Option Addr} {l : List Int} (h : Kd.C (Kd.int .u8) w A l.length l) (h0 : 0 < l.length) : ∃ b o, A = some ⟨b, o, none⟩ ∧ b < w.heap.size ∧ ∀ {i : Nat}, i < l.length → w.cell? ⟨b, o + i, none⟩ = some (.int .u8 (l.getD i 0)) := by
  obtain ⟨ad, rfl, hc⟩ := Kd.at_int h 0 (by omega) (by omega)
  have e := addr_of_cell hc
  obtain ⟨b, o, e'⟩ := ad
  simp only [Addr.mk.injEq, true_and] at e
  subst e
  refine ⟨b, o, rfl, ?_, fun {i} hi => ?_⟩
  · exact World.block_lt_of_cell? w _ hc
  · have := C_cells h hi
    rwa [Addr.add_eq] at this
theorem C_of_Mem {w : World} {b len : Nat} {px : Nat → Int} (h : Mem w b len px) (hl : len ≤ 9223372036854775807) : Kd.C (Kd.int .u8) w (some ⟨b, 0, none⟩) len ((List.range len).map px) := by
  refine Kd.C_of_reads (d := (0 : Int)) (h1 := fun _ => rfl) ⟨by simp, hl, fun h0 => ⟨_, rfl, fun j hj => ?_⟩⟩
  rw [Addr.add_eq, Nat.zero_add, h.cell hj]
  simp [hj]
theorem own_mem {w : World} {base n : Nat} {v : Value} {l : List Int} (hn : 0 < n) (hl : l.length = n) (h : w.ownsRow base 5 1 v n (l.map (Value.int .u8))) :
    ∃ g cap, v = .slice (some ⟨g, 0, none⟩) n cap ∧ base ≤ g ∧ g < w.heap.size ∧ n ≤ cap ∧ Mem w g n (fun i => l.getD i 0) := by
  obtain ⟨_, h⟩ := h
  rcases h with ⟨_, rfl⟩ | ⟨g, cap, cur, rfl, hb, hg, hnc, _, hsz, ht⟩
  · omega
  · refine ⟨g, cap, rfl, hb, (Array.getElem?_eq_some_iff.1 hg).1, hnc, ⟨fun {i} hi => ?_, fun {i} hi => ?_⟩⟩
    · unfold World.cell?
      simp only [hg]
      have : cur.toList[i]? = some (.int .u8 (l.getD i 0)) := by
        have h1 : (cur.toList.take (n * 1))[i]? = some (Value.int .u8 (l.getD i 0)) := by
          rw [ht]
          simp [List.getD, List.getElem?_eq_getElem (show i < l.length by omega)]
        rwa [List.getElem?_take_of_lt (by omega)] at h1
      simpa using this
    · unfold World.frozen?
      simp [hg]
theorem wrap32_id (n : Nat) (h : n ≤ 16384) : wrap32 (n : Int) = n := by unfold wrap32; omega

set_option maxHeartbeats 4000000 in
set_option maxRecDepth 100000 in
theorem impl_any {w : World} {A3 A4 : Option Addr} {c3 c4 W b h : Nat} {l3 l4 : List Int} (hr3 : Kd.C (Kd.int .u8) w A3 l3.length l3) (hr4 : Kd.C (Kd.int .u8) w A4 l4.length l4)
    (hb3 : ∀ i, isByte (l3.getD i 0)) (hb4 : ∀ i, isByte (l4.getD i 0)) (hW : 1 ≤ W) (hh : 1 ≤ h) (hW2 : W ≤ 16384) (hh2 : h ≤ 16384) (hb : b ≤ 9) (h4 : l4.length = 4 * (W * h)) (h3 : l3.length = 4 * (tl W b * tl h b)) :
    Calls Try.prog 10 #[.int .i64 (W : Int), .int .i64 (h : Int), .int .i64 (b : Int), .slice A3 l3.length c3, .slice A4 l4.length c4] w fun e w' =>
      ∃ A cap, e = .returned (.slice A l4.length cap) ∧ l4.length ≤ cap ∧ Kd.C (Kd.int .u8) w' A l4.length ((List.range l4.length).map (ipx (fun i => l3.getD i 0) W b (fun i => l4.getD i 0) (W * h))) ∧ Below w.heap.size w w' := by
  have hWh : 1 ≤ W * h := Nat.mul_pos hW hh
  have hWh2 : W * h ≤ 268435456 := Nat.le_trans (Nat.mul_le_mul hW2 hh2) (by decide)
  have hT : 1 ≤ tl W b * tl h b := Nat.mul_pos (tl_pos hW) (tl_pos hh)
  obtain ⟨b4, o4, rfl, _, k4⟩ := C_some hr4 (by omega)
  obtain ⟨b3, o3, rfl, hb3s, k3⟩ := C_some hr3 (by omega)
  have cl := clone_at ⟨b4, o4, none⟩ l4.length c4 l4 w rfl (by omega) (fun i hi => by rw [Addr.add_eq]; exact k4 hi)
  have cl2 : Calls Try.prog 22 #[.slice (some ⟨b4, o4, none⟩) l4.length c4] w fun e w1 => ∃ g cap, e = .returned (.slice (some ⟨g, 0, none⟩) l4.length cap) ∧ l4.length ≤ cap ∧
      Calls Try.prog 21 #[.int .i32 (wrap32 (W : Int)), .int .u32 ((b : Int) % 4294967296), .slice (some ⟨b3, o3, none⟩) l3.length c3, .slice (some ⟨g, 0, none⟩) l4.length cap, .int .i32 (wrap32 (h : Int))] w1 fun e w' =>
        e = .returned (.slice (some ⟨g, 0, none⟩) l4.length cap) ∧ Kd.C (Kd.int .u8) w' (some ⟨g, 0, none⟩) l4.length ((List.range l4.length).map (ipx (fun i => l3.getD i 0) W b (fun i => l4.getD i 0) (W * h))) ∧ Below w.heap.size w w' := by
    refine cl.mono ?_
    rintro e w1 ⟨v, rfl, hown, _, hbl⟩
    obtain ⟨g, cap, rfl, hg1, hg2, hcap, hm⟩ := own_mem (by omega) rfl hown
    refine ⟨g, cap, rfl, hcap, ?_⟩
    rw [wrap32_id W hW2, wrap32_id h hh2, show (b : Int) % 4294967296 = b by omega]
    refine (door_any (db := b3) (dof := o3) (by omega) hg2 (Nat.lt_of_lt_of_le hb3s hbl.size) hb4 hb3 hW hh hW2 hh2 hb h4 h3 (fun hi => (hbl.cell hb3s).trans (k3 hi)) hm).mono ?_
    rintro e w' ⟨rfl, hm', hB⟩
    exact ⟨rfl, C_of_Mem hm' (by omega), hbl.trans (hB _ hg1 hbl.size)⟩
  clear cl hr3 hr4 hb3 hb4 hW hh hW2 hh2 hb h4 h3 hWh hWh2 hT k3 k4
  go_enter Try.func10, Try.ntmps10
  go_wp2_with (first | ((with_reducible refine gate_callee (f := 22) rfl ?_); refine goesL_ (some 17) rfl rfl Try.func22 (by kernel_rfl) rfl #[.slice (some ⟨b4, o4, none⟩) l4.length c4] rfl (by (try simp only [List.map_toArray, List.map_cons, List.map_nil]); first | done | rfl) ?_; (refine cl2.mono ?_); rintro e w1 ⟨g, cap, rfl, hcap, dr⟩; refine ⟨_, rfl, ?_⟩) | ((with_reducible refine gate_callee (f := 21) rfl ?_); refine goesL_ (some 20) rfl rfl Try.func21 (by kernel_rfl) rfl #[.int .i32 (wrap32 (W : Int)), .int .u32 ((b : Int) % 4294967296), .slice (some ⟨b3, o3, none⟩) l3.length c3, .slice (some ⟨g, 0, none⟩) l4.length cap, .int .i32 (wrap32 (h : Int))] rfl (by (try simp only [List.map_toArray, List.map_cons, List.map_nil]); first | done | rfl) ?_; (refine dr.mono ?_); rintro e w' ⟨rfl, hC, hB⟩; refine ⟨_, rfl, ?_⟩))
  go_ret
  exact ⟨_, _, rfl, hcap, hC, hB⟩
end Go.Proofs.Ytgjcikajfnlocaa
