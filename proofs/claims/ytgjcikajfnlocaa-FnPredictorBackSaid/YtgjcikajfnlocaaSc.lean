/-
  OUR OWN: rows of bytes in a block of their own: 'Mem'; what a call may have turned: 'Only'; the small functions of the predictions.
-/
import Derived.Test.YtgjcikajfnlocaaSb
import Derived.Test.YtgjcikajfnlocaaProg
namespace Go.Proofs.Ytgjcikajfnlocaa
open Go.RowKit

/-- Block b may have turned, no other one; no block has come or gone. -/
structure Only (b : Nat) (w w' : World) : Prop where
  os : w'.os = w.os
  tape : w'.tape = w.tape
  output : w'.output = w.output
  size : w'.heap.size = w.heap.size
  block : ∀ k, k ≠ b → w'.heap[k]? = w.heap[k]?
theorem Only.refl (b : Nat) (w : World) : Only b w w := ⟨rfl, rfl, rfl, rfl, fun _ _ => rfl⟩
theorem Only.drew {b : Nat} {w w' : World} (h : Only b w w') : Only b w w'.drew := ⟨h.os, h.tape, h.output, h.size, h.block⟩
theorem Only.trans {b : Nat} {w w' w'' : World} (h : Only b w w') (h' : Only b w' w'') : Only b w w'' :=
  ⟨h'.os.trans h.os, h'.tape.trans h.tape, h'.output.trans h.output, h'.size.trans h.size, fun k hk => (h'.block k hk).trans (h.block k hk)⟩
theorem Only.setCell {b : Nat} {w w' : World} (h : Only b w w') (i : Nat) (v : Value) : Only b w (w'.setCell ⟨b, i, none⟩ v) :=
  ⟨h.os, h.tape, h.output, by simp [World.setCell, h.size], fun k hk => by rw [Below.heap_setCell _ _ _ _ hk]; exact h.block k hk⟩
theorem Only.cell {b : Nat} {w w' : World} (h : Only b w w') {p : Addr} (hp : p.block ≠ b) : w'.cell? p = w.cell? p := World.cell?_of_block (w := w) (h.block p.block hp)
theorem Only.frozen {b : Nat} {w w' : World} (h : Only b w w') {p : Addr} (hp : p.block ≠ b) : w'.frozen? p = w.frozen? p := World.frozen?_of_block (w := w) (h.block p.block hp)

/-- The first len cells of block b are the bytes px, and may be written. -/
structure Mem (w : World) (b len : Nat) (px : Nat → Int) : Prop where
  cell : ∀ {i : Nat}, i < len → w.cell? ⟨b, i, none⟩ = some (.int .u8 (px i))
  free : ∀ {i : Nat}, i < len → w.frozen? ⟨b, i, none⟩ = false
theorem Mem.drew {w : World} {b len : Nat} {px : Nat → Int} (h : Mem w b len px) : Mem w.drew b len px := ⟨fun hi => h.cell hi, fun hi => h.free hi⟩
theorem Mem.congr {w : World} {b len : Nat} {f g : Nat → Int} (h : Mem w b len f) (e : ∀ i, i < len → f i = g i) : Mem w b len g := ⟨fun hi => by rw [← e _ hi]; exact h.cell hi, fun hi => h.free hi⟩
theorem cell_set_same {w : World} {b i : Nat} {u v : Value} (hc : w.cell? ⟨b, i, none⟩ = some u) : (w.setCell ⟨b, i, none⟩ v).cell? ⟨b, i, none⟩ = some v := by
  unfold World.cell? at hc ⊢
  unfold World.setCell
  simp only [Array.getElem?_modify]
  split at hc
  · rename_i c e f hb
    simp only [Option.isSome_none, Bool.false_eq_true, if_false] at hc
    have hi : i < c.size := (Array.getElem?_eq_some_iff.1 hc).1
    simp [hb, hi]
  · cases hc
theorem cell_set_ne {w : World} {b i j : Nat} {v : Value} (h : j ≠ i) : (w.setCell ⟨b, i, none⟩ v).cell? ⟨b, j, none⟩ = w.cell? ⟨b, j, none⟩ := by
  unfold World.cell? World.setCell
  simp only [Array.getElem?_modify]
  cases hb : w.heap[b]? with
  | none => simp
  | some o => cases o <;> simp [Ne.symm h]
theorem frozen_set {w : World} {b i : Nat} {v : Value} (q : Addr) : (w.setCell ⟨b, i, none⟩ v).frozen? q = w.frozen? q := by
  unfold World.frozen? World.setCell
  simp only [Array.getElem?_modify]
  by_cases hq : b = q.block
  · subst hq
    cases hb : w.heap[q.block]? with
    | none => simp
    | some o => cases o <;> simp
  · simp [hq]

/-- The bytes are px but for c bytes from p on, which are v. -/
structure PM (w : World) (b len : Nat) (px : Nat → Int) (p c : Nat) (v : Nat → Int) : Prop where
  old : ∀ {i : Nat}, i < len → i < p ∨ p + c ≤ i → w.cell? ⟨b, i, none⟩ = some (.int .u8 (px i))
  new : ∀ {j : Nat}, j < c → p + j < len → w.cell? ⟨b, p + j, none⟩ = some (.int .u8 (v j))
  free : ∀ {i : Nat}, i < len → w.frozen? ⟨b, i, none⟩ = false
theorem PM.drew {w : World} {b len : Nat} {px : Nat → Int} {p c : Nat} {v : Nat → Int} (h : PM w b len px p c v) : PM w.drew b len px p c v := ⟨fun hi hj => h.old hi hj, fun hj hi => h.new hj hi, fun hi => h.free hi⟩
theorem Mem.pm {w : World} {b len : Nat} {px : Nat → Int} (h : Mem w b len px) (p : Nat) (v : Nat → Int) : PM w b len px p 0 v := ⟨fun hi _ => h.cell hi, fun hj => by omega, fun hi => h.free hi⟩
theorem PM.put {w : World} {b len : Nat} {px : Nat → Int} {p c : Nat} {v : Nat → Int} (h : PM w b len px p c v) (hl : p + c < len) : PM (w.setCell ⟨b, p + c, none⟩ (.int .u8 (v c))) b len px p (c + 1) v := by
  refine ⟨fun hi hj => ?_, fun {j} hj hi => ?_, fun hi => ?_⟩
  · rw [cell_set_ne (by omega)]; exact h.old hi (by omega)
  · by_cases e : j = c
    · subst e; exact cell_set_same (h.old hl (by omega))
    · rw [cell_set_ne (by omega)]; exact h.new (by omega) hi
  · rw [frozen_set]; exact h.free hi
/-- A store of the next byte. -/
theorem u_put {P : Program} {n : Nat} {l : KL} {a : Act} {w w0 : World} {r : List Oper} {Q : Exit → Act → World → Prop} {ty : TypeId} {pos : String} {after : Array Edge} {guard : Option (Nat × Bool)}
    {t : TypeId} {x y : Operand} {b len p c : Nat} {px v : Nat → Int} {u : Int} (hk : Kn n l a) (h1 : oneCell P t = true) (hx : opv l x = some (.pointer (some ⟨b, p + c, none⟩))) (hy : opv l y = some (.int .u8 u))
    (hm : PM w b len px p c v) (ho : Only b w0 w) (hl : p + c < len) (hu : u = v c)
    (h : ∀ w' a', Kn n l a' → PM w' b len px p (c + 1) v → Only b w0 w' → wpU P Q r a' w') : wpU P Q (⟨none, .store t x y, ty, pos, after, guard⟩ :: r) a w := by
  subst hu
  exact u_skip hk (s_store h1 hx hy rfl (hm.old hl (by omega)) (hm.free hl)) rfl fun a' hk' => h _ a' hk' (hm.put hl) (ho.setCell _ _)

theorem e_add_eq {P : Program} {l : KL} {w : World} {dst : Option Tmp} {ty : TypeId} {pos : String} {after : Array Edge} {guard : Option (Nat × Bool)} {t yt : TypeId} {x y : Operand} {k : IntKind} {i j : Int} (z : Int) (hx : opv l x = some (.int k i)) (hy : opv l y = some (.int k j))
    (hz : k.wrap (i + j) = z) : Ev P l ⟨dst, .binOp .add t x y yt, ty, pos, after, guard⟩ w (.int k z) w := by subst hz; exact e_add hx hy
theorem e_sub_eq {P : Program} {l : KL} {w : World} {dst : Option Tmp} {ty : TypeId} {pos : String} {after : Array Edge} {guard : Option (Nat × Bool)} {t yt : TypeId} {x y : Operand} {k : IntKind} {i j : Int} (z : Int) (hx : opv l x = some (.int k i)) (hy : opv l y = some (.int k j))
    (hz : k.wrap (i - j) = z) : Ev P l ⟨dst, .binOp .sub t x y yt, ty, pos, after, guard⟩ w (.int k z) w := by subst hz; exact e_sub hx hy
theorem e_mul_eq {P : Program} {l : KL} {w : World} {dst : Option Tmp} {ty : TypeId} {pos : String} {after : Array Edge} {guard : Option (Nat × Bool)} {t yt : TypeId} {x y : Operand} {k : IntKind} {i j : Int} (z : Int) (hx : opv l x = some (.int k i)) (hy : opv l y = some (.int k j))
    (hz : k.wrap (i * j) = z) : Ev P l ⟨dst, .binOp .mul t x y yt, ty, pos, after, guard⟩ w (.int k z) w := by subst hz; exact e_mul hx hy
theorem e_conv_eq {P : Program} {l : KL} {w : World} {dst : Option Tmp} {ty : TypeId} {pos : String} {after : Array Edge} {guard : Option (Nat × Bool)} {s d : TypeId} {x : Operand} {k k' : IntKind} {i : Int} (z : Int) (h : toInt P s d k = true) (hx : opv l x = some (.int k' i))
    (hz : k.wrap i = z) : Ev P l ⟨dst, .convert s d x, ty, pos, after, guard⟩ w (.int k z) w := by subst hz; exact e_conv h hx
theorem e_eqlT {P : Program} {l : KL} {w : World} {dst : Option Tmp} {ty : TypeId} {pos : String} {after : Array Edge} {guard : Option (Nat × Bool)} {t yt : TypeId} {x y : Operand} {k : IntKind} {i j : Int} (hx : opv l x = some (.int k i)) (hy : opv l y = some (.int k j)) (h : i = j) : Ev P l ⟨dst, .binOp .eql t x y yt, ty, pos, after, guard⟩ w (.bool true) w := by
  have := e_eql (P := P) (w := w) (dst := dst) (ty := ty) (pos := pos) (after := after) (guard := guard) (t := t) (yt := yt) hx hy
  rwa [decide_eq_true h] at this
theorem e_eqlF {P : Program} {l : KL} {w : World} {dst : Option Tmp} {ty : TypeId} {pos : String} {after : Array Edge} {guard : Option (Nat × Bool)} {t yt : TypeId} {x y : Operand} {k : IntKind} {i j : Int} (hx : opv l x = some (.int k i)) (hy : opv l y = some (.int k j)) (h : i ≠ j) : Ev P l ⟨dst, .binOp .eql t x y yt, ty, pos, after, guard⟩ w (.bool false) w := by
  have := e_eql (P := P) (w := w) (dst := dst) (ty := ty) (pos := pos) (after := after) (guard := guard) (t := t) (yt := yt) hx hy
  rwa [decide_eq_false h] at this
theorem e_lssT {P : Program} {l : KL} {w : World} {dst : Option Tmp} {ty : TypeId} {pos : String} {after : Array Edge} {guard : Option (Nat × Bool)} {t yt : TypeId} {x y : Operand} {k : IntKind} {i j : Int} (hx : opv l x = some (.int k i)) (hy : opv l y = some (.int k j)) (h : i < j) : Ev P l ⟨dst, .binOp .lss t x y yt, ty, pos, after, guard⟩ w (.bool true) w := by
  have := e_lss (P := P) (w := w) (dst := dst) (ty := ty) (pos := pos) (after := after) (guard := guard) (t := t) (yt := yt) hx hy
  rwa [decide_eq_true h] at this
theorem e_lssF {P : Program} {l : KL} {w : World} {dst : Option Tmp} {ty : TypeId} {pos : String} {after : Array Edge} {guard : Option (Nat × Bool)} {t yt : TypeId} {x y : Operand} {k : IntKind} {i j : Int} (hx : opv l x = some (.int k i)) (hy : opv l y = some (.int k j)) (h : ¬ i < j) : Ev P l ⟨dst, .binOp .lss t x y yt, ty, pos, after, guard⟩ w (.bool false) w := by
  have := e_lss (P := P) (w := w) (dst := dst) (ty := ty) (pos := pos) (after := after) (guard := guard) (t := t) (yt := yt) hx hy
  rwa [decide_eq_false h] at this
theorem i32_eq {n z : Int} (e : n = z) (h1 : -2147483648 ≤ z) (h2 : z ≤ 2147483647) : IntKind.i32.wrap n = z := by
  subst e; simp [IntKind.wrap, IntKind.bits, IntKind.signed]; omega
theorem i64_eq {n z : Int} (e : n = z) (h1 : -9223372036854775808 ≤ z) (h2 : z ≤ 9223372036854775807) : IntKind.i64.wrap n = z := by
  subst e; simp [IntKind.wrap, IntKind.bits, IntKind.signed]; omega
theorem u8_eq {n z : Int} (e : n = z) (h1 : 0 ≤ z) (h2 : z ≤ 255) : IntKind.u8.wrap n = z := by
  subst e; simp [IntKind.wrap, IntKind.bits, IntKind.signed]; omega
theorem u32_eq {n z : Int} (e : n = z) (h1 : 0 ≤ z) (h2 : z ≤ 4294967295) : IntKind.u32.wrap n = z := by
  subst e; simp [IntKind.wrap, IntKind.bits, IntKind.signed]; omega
theorem u64_eq {n z : Int} (e : n = z) (h1 : 0 ≤ z) (h2 : z ≤ 18446744073709551615) : IntKind.u64.wrap n = z := by
  subst e; simp [IntKind.wrap, IntKind.bits, IntKind.signed]; omega
theorem u8_wrap (n : Int) : IntKind.u8.wrap n = n % 256 := by simp [IntKind.wrap, IntKind.bits, IntKind.signed]

theorem e_shl_eq {P : Program} {l : KL} {w : World} {dst : Option Tmp} {ty : TypeId} {pos : String} {after : Array Edge} {guard : Option (Nat × Bool)} {t yt : TypeId} {x y : Operand} {k k' : IntKind} {i j : Int} (m : Nat) (z : Int) (hx : opv l x = some (.int k i)) (hy : opv l y = some (.int k' j)) (hj : j = (m : Int)) (hm : m ≤ k.bits)
    (hz : k.wrap (i * 2 ^ m) = z) : Ev P l ⟨dst, .binOp .shl t x y yt, ty, pos, after, guard⟩ w (.int k z) w := by subst hz; exact e_shl m hx hy hj hm
theorem e_shr_eq {P : Program} {l : KL} {w : World} {dst : Option Tmp} {ty : TypeId} {pos : String} {after : Array Edge} {guard : Option (Nat × Bool)} {t yt : TypeId} {x y : Operand} {k k' : IntKind} {i j : Int} (m : Nat) (z : Int) (hx : opv l x = some (.int k i)) (hy : opv l y = some (.int k' j)) (hj : j = (m : Int)) (hm : m ≤ k.bits)
    (hz : i.fdiv (2 ^ m) = z) : Ev P l ⟨dst, .binOp .shr t x y yt, ty, pos, after, guard⟩ w (.int k z) w := by subst hz; exact e_shr m hx hy hj hm
theorem e_and_eq {P : Program} {l : KL} {w : World} {dst : Option Tmp} {ty : TypeId} {pos : String} {after : Array Edge} {guard : Option (Nat × Bool)} {t yt : TypeId} {x y : Operand} {k : IntKind} {i j : Int} (z : Int) (hx : opv l x = some (.int k i)) (hy : opv l y = some (.int k j))
    (hz : bits .and k i j = z) : Ev P l ⟨dst, .binOp .and t x y yt, ty, pos, after, guard⟩ w (.int k z) w := by subst hz; exact e_and hx hy
theorem fdiv_pow (n b : Nat) : Int.fdiv ((n : Nat) : Int) (2 ^ b) = ((n / 2 ^ b : Nat) : Int) := by
  rw [Int.fdiv_eq_ediv_of_nonneg _ (Int.pow_nonneg (by decide))]
  simp
theorem and_mask (x b : Nat) (hx : x < 2147483648) (hb : b ≤ 30) : bits .and .i32 ((x : Nat) : Int) ((2 ^ b - 1 : Nat) : Int) = ((x % 2 ^ b : Nat) : Int) := by
  have hp : 2 ^ b ≤ 2 ^ 30 := Nat.pow_le_pow_right (by omega) hb
  have hp0 : 0 < 2 ^ b := Nat.two_pow_pos b
  have hm := Nat.mod_lt x hp0
  show IntKind.i32.wrap (((BitVec.ofInt 32 ((x : Nat) : Int) &&& BitVec.ofInt 32 ((2 ^ b - 1 : Nat) : Int) : BitVec 32).toNat : Nat) : Int) = _
  rw [BitVec.ofInt_natCast, BitVec.ofInt_natCast, BitVec.toNat_and, BitVec.toNat_ofNat, BitVec.toNat_ofNat, Nat.mod_eq_of_lt (by omega), Nat.mod_eq_of_lt (a := 2 ^ b - 1) (by omega), Nat.and_two_pow_sub_one_eq_mod]
  exact i32_eq rfl (by omega) (by omega)
theorem e_idx1 {P : Program} {l : KL} {w : World} {dst : Option Tmp} {ty : TypeId} {pos : String} {after : Array Edge} {guard : Option (Nat × Bool)} {t : TypeId} {x y : Operand} {b q len cap : Nat} {k : IntKind} {j : Int} (m : Nat) (hs : elemSize P t = some 1) (hx : opv l x = some (.slice (some ⟨b, q, none⟩) len cap)) (hy : opv l y = some (.int k j))
    (hj : j = (m : Int)) (hm : m < len) : Ev P l ⟨dst, .indexAddr t x y, ty, pos, after, guard⟩ w (.pointer (some ⟨b, q + m, none⟩)) w := by
  have := e_idx (dst := dst) (ty := ty) (pos := pos) (after := after) (guard := guard) (w := w) m hs hx hy hj hm
  rwa [Nat.mul_one] at this

/-! ### The small functions -/
def avg (a b : Int) : Int := (a + b) / 2
def clampF (a b c : Int) : Int := if a + b - c < 0 then 0 else if a + b - c > 255 then 255 else a + b - c
def clampH (a b : Int) : Int := if a + (a - b).tdiv 2 < 0 then 0 else if a + (a - b).tdiv 2 > 255 then 255 else a + (a - b).tdiv 2
def isByte (a : Int) : Prop := 0 ≤ a ∧ a < 256
theorem avg_byte {a b : Int} (ha : isByte a) (hb : isByte b) : isByte (avg a b) := by unfold isByte avg at *; omega
theorem clampF_byte (a b c : Int) : isByte (clampF a b c) := by 
  unfold isByte clampF
  repeat' split
  all_goals omega
theorem clampH_byte (a b : Int) : isByte (clampH a b) := by 
  unfold isByte clampH
  repeat' split
  all_goals omega

theorem avg_any (a b : Int) (ha : isByte a) (hb : isByte b) (w : World) : Calls Try.prog 41 #[.int .u8 a, .int .u8 b] w fun e w' => e = .returned (.int .u8 (avg a b)) ∧ w' = w := by
  obtain ⟨a0, a1⟩ := ha
  obtain ⟨b0, b1⟩ := hb
  go_enter Try.func41, Try.ntmps41
  go_wp2
  go_ret
  exact ⟨rfl, rfl⟩
theorem clampF_any (a b c : Int) (ha : isByte a) (hb : isByte b) (hc : isByte c) (w : World) : Calls Try.prog 42 #[.int .u8 a, .int .u8 b, .int .u8 c] w fun e w' => e = .returned (.int .u8 (clampF a b c)) ∧ w' = w := by
  obtain ⟨a0, a1⟩ := ha
  obtain ⟨b0, b1⟩ := hb
  obtain ⟨c0, c1⟩ := hc
  unfold clampF
  by_cases h1 : a + b - c < 0
  · rw [if_pos h1]
    go_enter Try.func42, Try.ntmps42
    go_wp2
    go_ret
    exact ⟨rfl, rfl⟩
  · rw [if_neg h1]
    by_cases h2 : a + b - c > 255
    · rw [if_pos h2]
      go_enter Try.func42, Try.ntmps42
      go_wp2
      go_ret
      exact ⟨rfl, rfl⟩
    · rw [if_neg h2]
      go_enter Try.func42, Try.ntmps42
      go_wp2
      go_ret
      exact ⟨rfl, rfl⟩
theorem tdiv2 (x : Int) (h1 : -256 < x) (h2 : x < 256) : -128 < x.tdiv 2 ∧ x.tdiv 2 < 128 := by
  rcases Int.lt_or_le x 0 with h | h
  · have e : x.tdiv 2 = -((-x) / 2) := by
      have := Int.neg_tdiv (a := x) (b := 2)
      rw [← Int.neg_neg (x.tdiv 2), ← Int.neg_tdiv, Int.tdiv_eq_ediv_of_nonneg (by omega)]
    omega
  · rw [Int.tdiv_eq_ediv_of_nonneg h]; omega
theorem clampH_any (a b : Int) (ha : isByte a) (hb : isByte b) (w : World) : Calls Try.prog 43 #[.int .u8 a, .int .u8 b] w fun e w' => e = .returned (.int .u8 (clampH a b)) ∧ w' = w := by
  obtain ⟨a0, a1⟩ := ha
  obtain ⟨b0, b1⟩ := hb
  obtain ⟨t0, t1⟩ := tdiv2 (a - b) (by omega) (by omega)
  unfold clampH
  by_cases h1 : a + (a - b).tdiv 2 < 0
  · rw [if_pos h1]
    go_enter Try.func43, Try.ntmps43
    go_wp2
    go_ret
    exact ⟨rfl, rfl⟩
  · rw [if_neg h1]
    by_cases h2 : a + (a - b).tdiv 2 > 255
    · rw [if_pos h2]
      go_enter Try.func43, Try.ntmps43
      go_wp2
      go_ret
      exact ⟨rfl, rfl⟩
    · rw [if_neg h2]
      go_enter Try.func43, Try.ntmps43
      go_wp2
      go_ret
      exact ⟨rfl, rfl⟩
def iabs (x : Int) : Int := if x < 0 then -x else x
theorem abs_any (x : Int) (h1 : -256 < x) (h2 : x < 256) (w : World) : Calls Try.prog 45 #[.int .i32 x] w fun e w' => e = .returned (.int .i32 (iabs x)) ∧ w' = w := by
  unfold iabs
  by_cases h : x < 0
  · rw [if_pos h]
    go_enter Try.func45, Try.ntmps45
    go_wp2
    go_ret
    exact ⟨rfl, rfl⟩
  · rw [if_neg h]
    go_enter Try.func45, Try.ntmps45
    go_wp2
    go_ret
    exact ⟨rfl, rfl⟩
/-- A quiet call outside a region that draws. -/
theorem u_qcall {P : Program} {n : Nat} {l : KL} {a : Act} {w : World} {o : Oper} {r : List Oper} {Q : Exit → Act → World → Prop} {d : Nat} {v : Value} {f : FuncId} {args : Array Value} (hk : Kn n l a) (he : Cv P l o w f args)
    (hc : Calls P f args w (fun e w'' => e = .returned v ∧ w'' = w)) (ho : o.dst = some d) (hd : d < n) (h : ∀ a', Kn n ((d, v) :: l) a' → wpU P Q r a' w) : wpU P Q (o :: r) a w :=
  u_call hk he hc ho hd fun e w' ⟨h1, h2⟩ => ⟨v, h1, fun a' hk' => by rw [h2]; exact h a' hk'⟩
theorem byte_i32 {x : Int} (h : isByte x) : IntKind.i32.wrap x = x := i32_eq rfl (by have := h.1; omega) (by have := h.2; omega)
theorem byte_u8 {x : Int} (h : isByte x) : IntKind.u8.wrap x = x := u8_eq rfl h.1 (by have := h.2; omega)
theorem sub_i32 {x y : Int} (h : isByte x) (h' : isByte y) : IntKind.i32.wrap (x - y) = x - y := i32_eq rfl (by have := h.1; have := h'.2; omega) (by have := h.2; have := h'.1; omega)
theorem iabs_rng {x y : Int} (h : isByte x) (h' : isByte y) : 0 ≤ iabs (x - y) ∧ iabs (x - y) ≤ 255 := by
  obtain ⟨h1, h2⟩ := h
  obtain ⟨h3, h4⟩ := h'
  unfold iabs
  split <;> omega
theorem abs_byte {x y : Int} (h : isByte x) (h' : isByte y) (w : World) : Calls Try.prog 45 #[.int .i32 (x - y)] w fun e w' => e = .returned (.int .i32 (iabs (x - y))) ∧ w' = w :=
  abs_any _ (by have := h.1; have := h'.2; omega) (by have := h.2; have := h'.1; omega) w

/-! ### What is foretold of a pixel (channel c), and a pixel put back -/
def selL (px : Nat → Int) (p top : Nat) : Prop :=
  iabs (px (top - 4) - px (top + 0)) + iabs (px (top - 3) - px (top + 1)) + iabs (px (top - 2) - px (top + 2)) + iabs (px (top - 1) - px (top + 3)) <
  iabs (px (top - 4) - px (p - 4)) + iabs (px (top - 3) - px (p - 3)) + iabs (px (top - 2) - px (p - 2)) + iabs (px (top - 1) - px (p - 1))
instance (px : Nat → Int) (p top : Nat) : Decidable (selL px p top) := by unfold selL; infer_instance
def predV (mode : Nat) (px : Nat → Int) (p top c : Nat) : Int :=
  match mode with
  | 0 => if c = 3 then 255 else 0
  | 1 => px (p - (4 - c))
  | 2 => px (top + c)
  | 3 => px (top + (4 + c))
  | 4 => px (top - (4 - c))
  | 5 => avg (avg (px (p - (4 - c))) (px (top + (4 + c)))) (px (top + c))
  | 6 => avg (px (p - (4 - c))) (px (top - (4 - c)))
  | 7 => avg (px (p - (4 - c))) (px (top + c))
  | 8 => avg (px (top - (4 - c))) (px (top + c))
  | 9 => avg (px (top + c)) (px (top + (4 + c)))
  | 10 => avg (avg (px (p - (4 - c))) (px (top - (4 - c)))) (avg (px (top + c)) (px (top + (4 + c))))
  | 11 => if selL px p top then px (p - (4 - c)) else px (top + c)
  | 12 => clampF (px (p - (4 - c))) (px (top + c)) (px (top - (4 - c)))
  | 13 => clampH (avg (px (p - (4 - c))) (px (top + c))) (px (top - (4 - c)))
  | _ => 0
def step (px : Nat → Int) (p : Nat) (pv : Nat → Int) : Nat → Int := fun i => if p ≤ i ∧ i < p + 4 then IntKind.u8.wrap (px i + pv (i - p)) else px i
theorem PM.mem {w : World} {b len : Nat} {px : Nat → Int} {p : Nat} {pv : Nat → Int} (h : PM w b len px p 4 (fun j => IntKind.u8.wrap (px (p + j) + pv j))) : Mem w b len (step px p pv) := by
  refine ⟨fun {i} hi => ?_, fun hi => h.free hi⟩
  unfold step
  by_cases hc : p ≤ i ∧ i < p + 4
  · rw [if_pos hc]
    have := h.new (j := i - p) (by omega) (by omega)
    rw [show p + (i - p) = i by omega] at this
    rw [this]
  · rw [if_neg hc]; exact h.old hi (by omega)
theorem PM.mem0 {w : World} {b len : Nat} {px : Nat → Int} {p top : Nat} (h : PM w b len px (p + 3) 1 (fun j => IntKind.u8.wrap (px (p + 3 + j) + 255))) (hr : ∀ i, isByte (px i)) : Mem w b len (step px p (predV 0 px p top)) := by
  refine ⟨fun {i} hi => ?_, fun hi => h.free hi⟩
  have e : ∀ c, predV 0 px p top c = if c = 3 then 255 else 0 := fun _ => rfl
  unfold step
  by_cases hc : p ≤ i ∧ i < p + 4
  · rw [if_pos hc, e]
    by_cases h3 : i - p = 3
    · have := h.new (j := 0) (by omega) (by omega)
      rw [show p + 3 + 0 = i by omega] at this
      rw [this, if_pos h3]
    · rw [if_neg h3, Int.add_zero, byte_u8 (hr i)]; exact h.old hi (by omega)
  · rw [if_neg hc]; exact h.old hi (by omega)
theorem step_zero {px : Nat → Int} (p : Nat) (hr : ∀ i, isByte (px i)) (pv : Nat → Int) (hp : ∀ c, pv c = 0) : step px p pv = px := by
  funext i
  unfold step
  split
  · rw [hp, Int.add_zero, byte_u8 (hr i)]
  · rfl
theorem step_byte {px : Nat → Int} {p : Nat} {pv : Nat → Int} (hr : ∀ i, isByte (px i)) : ∀ i, isByte (step px p pv i) := by
  intro i
  unfold step
  split
  · rw [u8_wrap]; unfold isByte; omega
  · exact hr i
end Go.Proofs.Ytgjcikajfnlocaa
