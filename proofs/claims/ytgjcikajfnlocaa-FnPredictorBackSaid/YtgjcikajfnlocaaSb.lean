/-
  OUR OWN: the laws of X..Sa for memory, shifts, bits, conversions, calls; and of the control code.
-/
import Derived.Test.YtgjcikajfnlocaaSa
namespace Go.Proofs.Ytgjcikajfnlocaa
open Go.RowKit
section
variable {P : Program} {n : Nat} {l : KL} {a : Act} {w w' : World} {o : Oper} {r : List Oper} {Q : Exit → Act → World → Prop} {K : Act → Prop}
variable {dst : Option Tmp} {ty : TypeId} {pos : String} {after : Array Edge} {guard : Option (Nat × Bool)}

/-- A variable of type t is one cell (no struct, no array). -/
def oneCell (P : Program) (t : TypeId) : Bool :=
  match P.info? t, P.underlying t with
  | some i, some d => i.size == 1 && !(d matches .struct _ | .array _ _)
  | _, _ => false
theorem oneCell_spec {t : TypeId} (h : oneCell P t = true) : (∃ i, P.info? t = some i ∧ i.size = 1) ∧ ∃ d, P.underlying t = some d ∧ (∀ fs, d ≠ .struct fs) ∧ ∀ k e, d ≠ .array k e := by
  unfold oneCell at h
  split at h
  · rename_i i d hi hd
    simp only [Bool.and_eq_true, beq_iff_eq, Bool.not_eq_true'] at h
    refine ⟨⟨i, hi, h.1⟩, d, hd, ?_, ?_⟩
    · rintro fs rfl; simp at h
    · rintro k e rfl; simp at h
  · cases h
theorem run_isAgg_one {t : TypeId} (h : oneCell P t = true) (w : World) : (isAgg t).run P w = .ok false w := by
  obtain ⟨_, d, hd, h1, h2⟩ := oneCell_spec h
  cases d <;> first | (exfalso; exact h1 _ rfl) | (exfalso; exact h2 _ _ rfl) | simp [isAgg, run_underlying hd]

theorem run_load1 {p : Addr} {v : Value} (hc : w.cell? p = some v) : (load p).run P w = .ok v w := by simp [load, Sem.run, hc]
theorem run_store1 {p : Addr} {v u : Value} (hv : (match v with | .agg _ | .tuple _ => false | _ => true) = true) (hc : w.cell? p = some u) (hf : w.frozen? p = false) : (store p v).run P w = .ok () (w.setCell p v) := by
  cases v <;> first | (simp at hv; done) | simp [store, Sem.run, hc, hf]
theorem e_load {t : TypeId} {x : Operand} {p : Addr} {v : Value} (h1 : oneCell P t = true) (hx : opv l x = some (.pointer (some p))) (hc : w.cell? p = some v) :
    Ev P l ⟨dst, .load t x, ty, pos, after, guard⟩ w v w := fun n a hk => by
  simp [execOp, hk.eval hx, Instr.loadAt, Instr.sureAddr, loadVar, run_isAgg_one h1, run_load1 hc, Result.andThen]
/-- A value that one cell holds. -/
def Value.isCell : Value → Bool
  | .agg _ | .tuple _ => false
  | _ => true
theorem s_store {t : TypeId} {x y : Operand} {p : Addr} {v u : Value} (h1 : oneCell P t = true) (hx : opv l x = some (.pointer (some p))) (hy : opv l y = some v) (hv : Value.isCell v = true)
    (hc : w.cell? p = some u) (hf : w.frozen? p = false) : Sv P l ⟨dst, .store t x y, ty, pos, after, guard⟩ w (w.setCell p v) := fun n a hk => by
  obtain ⟨⟨i, hi, hs⟩, _⟩ := oneCell_spec h1
  have hp : p.add 0 = p := by simp [Addr.add]
  have hst := run_store1 (P := P) (v := v) hv hc hf
  cases v <;> first | (simp [Value.isCell] at hv; done) | simp [execOp, hk.eval hx, hk.eval hy, Instr.storeAt, Instr.sureAddr, storeVar, sizeOf, typeInfo, hi, hs, Value.cells, storeCells, hp, hst, Result.andThen]

/-- Where field f of a struct of type s lies. -/
def fieldOff (P : Program) (s : TypeId) (f : Nat) : Option Nat :=
  match P.underlying s with
  | some (.struct fs) => match fs[f]? with
    | some fl => match P.info? fl.type with
      | some i => if i.size = 0 then none else some fl.offset
      | none => none
    | none => none
  | _ => none
theorem e_field {s : TypeId} {x : Operand} {f off b q : Nat} (hf : fieldOff P s f = some off) (hx : opv l x = some (.pointer (some ⟨b, q, none⟩))) :
    Ev P l ⟨dst, .fieldAddr s x f, ty, pos, after, guard⟩ w (.pointer (some ⟨b, q + off, none⟩)) w := fun n a hk => by
  unfold fieldOff at hf
  split at hf
  · rename_i fs hs
    split at hf
    · rename_i fl hfl
      split at hf
      · rename_i i hi
        split at hf
        · cases hf
        · rename_i hz
          obtain rfl := Option.some.inj hf
          have e : (⟨b, q, none⟩ : Addr).add fl.offset = ⟨b, q + fl.offset, none⟩ := by
            unfold Addr.add; split
            · simp
            · rfl
          simp [execOp, hk.eval hx, Instr.fieldAt, run_underlying hs, hfl, Instr.sureAddr, fieldPlace, sizeOf, typeInfo, hi, hz, e, Result.andThen]
      · cases hf
    · cases hf
  · cases hf

/-- The number of cells of an element of the slice type t. -/
def elemSize (P : Program) (t : TypeId) : Option Nat :=
  match P.underlying t with
  | some (.slice e) => (P.info? e).map (·.size)
  | _ => none
theorem elemSize_spec {t : TypeId} {sz : Nat} (h : elemSize P t = some sz) : ∃ e i, P.underlying t = some (.slice e) ∧ P.info? e = some i ∧ i.size = sz := by
  unfold elemSize at h
  split at h
  · rename_i e he
    obtain ⟨i, hi, hs⟩ := Option.map_eq_some_iff.1 h
    exact ⟨e, i, he, hi, hs⟩
  · cases h
theorem Addr.add_eq (b q k : Nat) : (⟨b, q, none⟩ : Addr).add k = ⟨b, q + k, none⟩ := by
  unfold Addr.add; split
  · simp
  · rfl
/-- 'x[m]' of a slice: its address. -/
theorem e_idx {t : TypeId} {x y : Operand} {b q len cap sz : Nat} {k : IntKind} {j : Int} (m : Nat) (hs : elemSize P t = some sz) (hx : opv l x = some (.slice (some ⟨b, q, none⟩) len cap)) (hy : opv l y = some (.int k j))
    (hj : j = (m : Int)) (hm : m < len) : Ev P l ⟨dst, .indexAddr t x y, ty, pos, after, guard⟩ w (.pointer (some ⟨b, q + m * sz, none⟩)) w := fun n a hk => by
  obtain ⟨e, i, he, hi, rfl⟩ := elemSize_spec hs
  subst hj
  simp [execOp, hk.eval hx, hk.eval hy, Instr.indexAt, asIntOf, run_underlying he, sizeOf, typeInfo, hi, Addr.add_eq, hm, Result.andThen]
/-- The same where the row begins at its block's head and an element is one cell. -/
theorem e_idx0 {t : TypeId} {x y : Operand} {b len cap : Nat} {k : IntKind} {j : Int} (m : Nat) (hs : elemSize P t = some 1) (hx : opv l x = some (.slice (some ⟨b, 0, none⟩) len cap)) (hy : opv l y = some (.int k j))
    (hj : j = (m : Int)) (hm : m < len) : Ev P l ⟨dst, .indexAddr t x y, ty, pos, after, guard⟩ w (.pointer (some ⟨b, m, none⟩)) w := by
  have := e_idx (dst := dst) (ty := ty) (pos := pos) (after := after) (guard := guard) (w := w) m hs hx hy hj hm
  rwa [Nat.zero_add, Nat.mul_one] at this
/-- The length and the size of an element of the array type t. -/
def arrSize (P : Program) (t : TypeId) : Option (Nat × Nat) :=
  match P.underlying t with
  | some (.array n e) => (P.info? e).map fun i => (n, i.size)
  | _ => none
theorem arrSize_spec {t : TypeId} {N sz : Nat} (h : arrSize P t = some (N, sz)) : ∃ e i, P.underlying t = some (.array N e) ∧ P.info? e = some i ∧ i.size = sz := by
  unfold arrSize at h
  split at h
  · rename_i n e he
    obtain ⟨i, hi, hs⟩ := Option.map_eq_some_iff.1 h
    simp only [Prod.mk.injEq] at hs
    obtain ⟨rfl, hs⟩ := hs
    exact ⟨e, i, he, hi, hs⟩
  · cases h
/-- 'x[m]' of an array in memory: its address. -/
theorem e_aidx {t : TypeId} {x y : Operand} {b q N sz : Nat} {k : IntKind} {j : Int} (m : Nat) (hs : arrSize P t = some (N, sz)) (hx : opv l x = some (.pointer (some ⟨b, q, none⟩))) (hy : opv l y = some (.int k j))
    (hj : j = (m : Int)) (hm : m < N) : Ev P l ⟨dst, .indexAddr t x y, ty, pos, after, guard⟩ w (.pointer (some ⟨b, q + m * sz, none⟩)) w := fun n a hk => by
  obtain ⟨e, i, he, hi, rfl⟩ := arrSize_spec hs
  subst hj
  simp [execOp, hk.eval hx, hk.eval hy, Instr.indexAt, asIntOf, run_underlying he, Instr.sureAddr, sizeOf, typeInfo, hi, Addr.add_eq, hm, Result.andThen]

/-- A conversion from any type to the integer kind k. -/
def toInt (P : Program) (src dst : TypeId) (k : IntKind) : Bool :=
  match P.underlying src, P.underlying dst with
  | some _, some (.int k') => k' == k
  | _, _ => false
theorem e_conv {s d : TypeId} {x : Operand} {k k' : IntKind} {i : Int} (h : toInt P s d k = true) (hx : opv l x = some (.int k' i)) : Ev P l ⟨dst, .convert s d x, ty, pos, after, guard⟩ w (.int k (k.wrap i)) w := fun n a hk => by
  unfold toInt at h
  split at h
  · rename_i hs hd
    obtain rfl := eq_of_beq h
    simp [execOp, hk.eval hx, convert, run_underlying hs, run_underlying hd, Conv.intToInt, Result.andThen]
  · cases h
theorem e_quo {t yt : TypeId} {x y : Operand} {k : IntKind} {i j : Int} (hx : opv l x = some (.int k i)) (hy : opv l y = some (.int k j)) (hj : j ≠ 0) : Ev P l ⟨dst, .binOp .quo t x y yt, ty, pos, after, guard⟩ w (.int k (k.wrap (i.tdiv j))) w := fun n a hk => by
  simp [execOp, hk.eval hx, hk.eval hy, eqGuard, binOp, Op.intDiv, hj]
theorem e_rem {t yt : TypeId} {x y : Operand} {k : IntKind} {i j : Int} (hx : opv l x = some (.int k i)) (hy : opv l y = some (.int k j)) (hj : j ≠ 0) : Ev P l ⟨dst, .binOp .rem t x y yt, ty, pos, after, guard⟩ w (.int k (i.tmod j)) w := fun n a hk => by
  simp [execOp, hk.eval hx, hk.eval hy, eqGuard, binOp, Op.intDiv, hj]
theorem e_and {t yt : TypeId} {x y : Operand} {k : IntKind} {i j : Int} (hx : opv l x = some (.int k i)) (hy : opv l y = some (.int k j)) : Ev P l ⟨dst, .binOp .and t x y yt, ty, pos, after, guard⟩ w (.int k (bits .and k i j)) w := fun n a hk => by
  simp [execOp, hk.eval hx, hk.eval hy, eqGuard, binOp, Op.intBits, bits]
theorem e_or {t yt : TypeId} {x y : Operand} {k : IntKind} {i j : Int} (hx : opv l x = some (.int k i)) (hy : opv l y = some (.int k j)) : Ev P l ⟨dst, .binOp .or t x y yt, ty, pos, after, guard⟩ w (.int k (bits .or k i j)) w := fun n a hk => by
  simp [execOp, hk.eval hx, hk.eval hy, eqGuard, binOp, Op.intBits, bits]
theorem e_shl {t yt : TypeId} {x y : Operand} {k k' : IntKind} {i j : Int} (m : Nat) (hx : opv l x = some (.int k i)) (hy : opv l y = some (.int k' j)) (hj : j = (m : Int)) (hm : m ≤ k.bits) :
    Ev P l ⟨dst, .binOp .shl t x y yt, ty, pos, after, guard⟩ w (.int k (k.wrap (i * 2 ^ m))) w := fun n a hk => by
  subst hj
  have h0 : ¬ ((m : Int) < 0) := by omega
  simp [execOp, hk.eval hx, hk.eval hy, eqGuard, binOp, Op.shift, h0, Nat.min_eq_left hm]
theorem e_shr {t yt : TypeId} {x y : Operand} {k k' : IntKind} {i j : Int} (m : Nat) (hx : opv l x = some (.int k i)) (hy : opv l y = some (.int k' j)) (hj : j = (m : Int)) (hm : m ≤ k.bits) :
    Ev P l ⟨dst, .binOp .shr t x y yt, ty, pos, after, guard⟩ w (.int k (i.fdiv (2 ^ m))) w := fun n a hk => by
  subst hj
  have h0 : ¬ ((m : Int) < 0) := by omega
  simp [execOp, hk.eval hx, hk.eval hy, eqGuard, binOp, Op.shift, h0, Nat.min_eq_left hm]
theorem e_not {t : TypeId} {x : Operand} {b : Bool} (hx : opv l x = some (.bool b)) : Ev P l ⟨dst, .unOp .not t x, ty, pos, after, guard⟩ w (.bool (!b)) w := fun n a hk => by
  simp [execOp, hk.eval hx, Op.unary]
theorem e_neg {t : TypeId} {x : Operand} {k : IntKind} {i : Int} (hx : opv l x = some (.int k i)) : Ev P l ⟨dst, .unOp .neg t x, ty, pos, after, guard⟩ w (.int k (k.wrap (0 - i))) w := fun n a hk => by
  simp [execOp, hk.eval hx, Op.unary, Op.intArith]
theorem e_extract {x : Operand} {vs : Array Value} {i : Nat} {v : Value} (hx : opv l x = some (.tuple vs)) (hv : vs[i]? = some v) : Ev P l ⟨dst, .extract x i, ty, pos, after, guard⟩ w v w := fun n a hk => by
  simp [execOp, hk.eval hx, Instr.extract, hv]

/-- A named function with a body. -/
def plainFn (P : Program) (f : FuncId) : Bool :=
  match P.funcs[f]? with
  | some fn => fn.name != "runtime.NumGoroutine" && fn.body.isSome
  | none => false
theorem run_callFunc {f : FuncId} (h : plainFn P f = true) (args : Array Value) (w : World) : (callFunc f args).run P w = .ok (.enter f args) w := by
  unfold plainFn at h
  split at h
  · rename_i fn hf
    simp only [Bool.and_eq_true, bne_iff_ne, ne_eq] at h
    have hb : fn.body ≠ none := by intro e; rw [e] at h; simp at h
    simp [callFunc, hf, h.1, hb, Result.andThen]
  · cases h
theorem c_func {f : FuncId} {xs : List Operand} {vs : List Value} {ats : Array TypeId} (hf : plainFn P f = true) (hx : xs.mapM (opv l) = some vs) :
    Cv P l ⟨dst, .call ⟨.value (.func f), xs.toArray, ats⟩, ty, pos, after, guard⟩ w f vs.toArray := fun n a hk => by
  have e := hk.evals hx
  have e' : Array.map a.eval xs.toArray = vs.toArray := by simpa using congrArg List.toArray e
  simp [execOp, resolve, Deferred.ofValue, Act.eval, invoke]
  rw [show List.map a.eval xs = vs from e]
  exact run_callFunc hf _ _
theorem e_len {x : Operand} {t : TypeId} {p : Option Addr} {len cap e : Nat} (ht : P.underlying t = some (.slice e)) (hx : opv l x = some (.slice p len cap)) :
    Ev P l ⟨dst, .call ⟨.builtin .len, #[x], #[t]⟩, ty, pos, after, guard⟩ w (.int .i64 (len : Int)) w := fun n a hk => by
  simp [execOp, resolve, hk.eval hx, invoke, builtin, Builtin.len_, run_underlying ht, goInt, Result.andThen]
theorem e_cap {x : Operand} {t : TypeId} {p : Option Addr} {len cap e : Nat} (ht : P.underlying t = some (.slice e)) (hx : opv l x = some (.slice p len cap)) :
    Ev P l ⟨dst, .call ⟨.builtin .cap, #[x], #[t]⟩, ty, pos, after, guard⟩ w (.int .i64 (cap : Int)) w := fun n a hk => by
  simp [execOp, resolve, hk.eval hx, invoke, builtin, Builtin.cap_, run_underlying ht, goInt, Result.andThen]

/-! ### Guarded operations ('a && b', 'a || b') -/
/-- What the operation numbered j has answered, where l is known. -/
def yk (ops : Array Oper) (l : KL) (j : Nat) : Option Bool :=
  match (ops[j]?).bind (·.dst) with
  | some d => match l.lookup d with
    | some (.bool b) => some b
    | _ => none
  | none => none
theorem yk_spec {ops : Array Oper} {j : Nat} {b : Bool} (hk : Kn n l a) (h : yk ops l j = some b) : yielded ops a.tmps j = some b := by
  unfold yk at h
  unfold yielded
  split at h
  · rename_i d hd
    split at h
    · rename_i b' hb
      obtain rfl := Option.some.inj h
      have := hk.get d _ hb
      rw [hd]
      simp only [Option.bind_some]
      rw [Array.getD_eq_getD_getElem?] at this
      cases hx : a.tmps[d]? with
      | none => rw [hx] at this; simp [undef] at this
      | some v => rw [hx] at this; simp only [Option.getD_some] at this; subst this; rfl
    · cases h
  · cases h
theorem rgl {id : Nat} {ls : List Oper} (h : wpList P ls.toArray Q ls a w) : (Code.region id ls.toArray false).wp P Q a w := wp_region_lit h
theorem l_nil {ops : Array Oper} (h : Q .normal a w) : wpList P ops Q [] a w := h
theorem l_val {ops : Array Oper} {d : Nat} {v : Value} (hk : Kn n l a) (hg : o.guard = none) (he : Ev P l o w v w') (ho : o.dst = some d) (hd : d < n) (h : ∀ a', Kn n ((d, v) :: l) a' → wpList P ops Q r a' w') : wpList P ops Q (o :: r) a w := by
  unfold wpList
  rw [if_pos (by simp [Region.wanted, hg])]
  refine .inl ?_
  unfold Oper.wp
  rw [he n a hk]
  show wpList P ops Q r (a.put o.dst v) w'
  rw [ho]
  exact h _ (hk.put hd v)
theorem l_on {ops : Array Oper} {d j : Nat} {b : Bool} {v : Value} (hk : Kn n l a) (hg : o.guard = some (j, b)) (hy : yk ops l j = some b) (he : Ev P l o w v w') (ho : o.dst = some d) (hd : d < n) (h : ∀ a', Kn n ((d, v) :: l) a' → wpList P ops Q r a' w') : wpList P ops Q (o :: r) a w := by
  unfold wpList
  rw [if_pos (by simp [Region.wanted, hg, yk_spec hk hy])]
  refine .inl ?_
  unfold Oper.wp
  rw [he n a hk]
  show wpList P ops Q r (a.put o.dst v) w'
  rw [ho]
  exact h _ (hk.put hd v)
theorem l_off {ops : Array Oper} {d j : Nat} {b : Bool} (hk : Kn n l a) (hg : o.guard = some (j, b)) (hy : yk ops l j = some (!b)) (ho : o.dst = some d) (hd : d < n) (h : ∀ a', Kn n ((d, undef) :: l) a' → wpList P ops Q r a' w) : wpList P ops Q (o :: r) a w := by
  unfold wpList
  rw [if_neg (by simp [Region.wanted, hg, yk_spec hk hy])]
  rw [ho]
  exact h _ (hk.put hd undef)
/-- 'c ? true : y', where y may not have been asked. -/
theorem e_pickT {c x y : Operand} {u : Value} (hc : opv l c = some (.bool true)) (hx : opv l x = some u) : Ev P l ⟨dst, .pick c x y, ty, pos, after, guard⟩ w u w := fun n a hk => by
  simp [execOp, hk.eval hc, hk.eval hx, asBool]
theorem e_pickF {c x y : Operand} {u : Value} (hc : opv l c = some (.bool false)) (hy : opv l y = some u) : Ev P l ⟨dst, .pick c x y, ty, pos, after, guard⟩ w u w := fun n a hk => by
  simp [execOp, hk.eval hc, hk.eval hy, asBool]

/-! ### The control code -/
theorem k_cond {c : Operand} {x y : Code} {b : Bool} (hk : Kn n l a) (hc : opv l c = some (.bool b)) (ht : b = true → x.wp P Q a w) (hf : b = false → y.wp P Q a w) : (Code.cond c x y).wp P Q a w := by
  cases b with
  | true => exact wp_cond_true (hk.eval hc) (ht rfl)
  | false => exact wp_cond_false (hk.eval hc) (hf rfl)
theorem k_true {c : Operand} {x y : Code} (hk : Kn n l a) (hc : opv l c = some (.bool true)) (h : x.wp P Q a w) : (Code.cond c x y).wp P Q a w := wp_cond_true (hk.eval hc) h
theorem k_false {c : Operand} {x y : Code} (hk : Kn n l a) (hc : opv l c = some (.bool false)) (h : y.wp P Q a w) : (Code.cond c x y).wp P Q a w := wp_cond_false (hk.eval hc) h
theorem least_ex {p : Nat → Prop} (h : ∃ n, p n) : ∃ n, p n ∧ ∀ m, p m → n ≤ m := by
  obtain ⟨n, hn⟩ := h
  induction n using Nat.strongRecOn with
  | _ n ih =>
    by_cases hx : ∃ m, m < n ∧ p m
    · obtain ⟨m, hm, hp⟩ := hx; exact ih m hm hp
    · exact ⟨n, hn, fun m hm => Nat.le_of_not_lt fun hlt => hx ⟨m, hlt, hm⟩⟩
open Classical in
/-- A loop whose measure is a ghost: the invariant names it. -/
theorem k_loop {c : Code} (I : Nat → Act → World → Prop) (m : Nat) (h0 : I m a w)
    (round : ∀ m a w, I m a w → c.wp P (Exit.then (fun a' w' => ∃ k, k < m ∧ I k a' w') Q) a w) : (Code.loop c).wp P Q a w := by
  refine wp_loop (fun a w => ∃ m, I m a w) (fun a w => if h : ∃ m, I m a w then Classical.choose (least_ex h) else 0) ⟨m, h0⟩ fun a w hI => ?_
  refine wp_mono (round _ a w (Classical.choose_spec (least_ex hI)).1) fun e a' w' hq => ?_
  cases e with
  | normal =>
    obtain ⟨k, hk, hI'⟩ := hq
    have hex : ∃ m, I m a' w' := ⟨k, hI'⟩
    refine ⟨hex, ?_⟩
    rw [dif_pos hex, dif_pos hI]
    exact Nat.lt_of_le_of_lt ((Classical.choose_spec (least_ex hex)).2 k hI') hk
  | _ => exact hq
/-- One piece of code and what stands behind it. -/
theorem k_seq {x y : Code} (h : x.wp P (Exit.then (y.wp P Q) Q) a w) : (Code.seq x y).wp P Q a w := wp_seq h
/-- A function's call: into its body. -/
theorem k_enter {f : FuncId} {fn : Func} {c : Code} {args : List Value} {R : Ending → World → Prop} (hf : P.funcs[f]? = some fn) (hb : fn.body = some c) (hn : args.length ≤ fn.ntmps)
    (h : ∀ a, Kn fn.ntmps (args.zipIdx.map fun (v, i) => (i, v)) a → c.wp P (bodyPost P fn R) a w) : Calls P f args.toArray w R := by
  refine calls_of_wp hf hb (h _ ⟨by simp; omega, rfl, fun i v hv => ?_⟩)
  have key : ∀ (l : List Value) (k : Nat), ((l.zipIdx k).map fun (v, i) => (i, v)).lookup i = some v → k ≤ i ∧ l[i - k]? = some v := by
    intro l
    induction l with
    | nil => intro k h; simp at h
    | cons u l ih =>
      intro k h
      simp only [List.zipIdx_cons, List.map_cons] at h
      by_cases e : i = k
      · subst e; rw [lookup_cons_self] at h; simpa using h
      · rw [lookup_cons_ne e] at h
        obtain ⟨h1, h2⟩ := ih (k + 1) h
        refine ⟨by omega, ?_⟩
        rw [show i - k = (i - (k + 1)) + 1 by omega]
        simpa using h2
  obtain ⟨_, h2⟩ := key args 0 hv
  have hi : i < args.length := (List.getElem?_eq_some_iff.1 (by simpa using h2)).1
  simp only [Array.getD_eq_getD_getElem?, Array.getElem?_append, List.size_toArray]
  rw [if_pos hi]
  simp only [Nat.sub_zero] at h2
  simp [h2]
/-- A return of one result. -/
theorem k_ret1 {fn : Func} {R : Ending → World → Prop} {t : Tmp} {v : Value} (hk : Kn n l a) (hr : fn.results = #[.tmp t]) (hv : l.lookup t = some v) (h : R (.returned v) w) : bodyPost P fn R .ret a w :=
  bodyPost_ret (results_tmp hr _ _ _) hk.defers (by rw [hk.get t v hv]; exact h)
theorem k_ret2 {fn : Func} {R : Ending → World → Prop} {t u : Tmp} {v v' : Value} (hk : Kn n l a) (hr : fn.results = #[.tmp t, .tmp u]) (hv : l.lookup t = some v) (hu : l.lookup u = some v') (h : R (.returned (.tuple #[v, v'])) w) : bodyPost P fn R .ret a w :=
  bodyPost_ret (results_tmp2 hr _ _ _) hk.defers (by rw [hk.get t v hv, hk.get u v' hu]; exact h)
theorem k_ret0 {fn : Func} {R : Ending → World → Prop} (hk : Kn n l a) (hr : fn.results = #[]) (h : R (.returned (.tuple #[])) w) : bodyPost P fn R .ret a w :=
  bodyPost_ret (results_none hr _ _ _) hk.defers h
theorem k_end0 {fn : Func} {R : Ending → World → Prop} (hk : Kn n l a) (hr : fn.results = #[]) (h : R (.returned (.tuple #[])) w) : bodyPost P fn R .normal a w :=
  bodyPost_end (results_none hr _ _ _) hk.defers h
end
/-- The code at a path. -/
def sub : Code → List Bool → Code
  | c, [] => c
  | .seq a _, false :: p => sub a p
  | .seq _ b, true :: p => sub b p
  | .cond _ a _, false :: p => sub a p
  | .cond _ _ b, true :: p => sub b p
  | .block _ a, _ :: p => sub a p
  | .loop a, _ :: p => sub a p
  | .scope a, _ :: p => sub a p
  | c, _ => c
end Go.Proofs.Ytgjcikajfnlocaa
