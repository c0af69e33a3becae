/-
  OUR OWN: a small symbolic run of the loaded program's operations over KNOWN SLOTS: 'Kn n l a': of the act 'a' (n slots, no defers) the slots listed in l hold what l says.
  Each operation has a law that is closed by 'rfl' on the list; nothing is simplified along a walk.
-/
import Derived.WalkKit
import Derived.KernelRfl
import Derived.StillTail
import Derived.WideLaws
namespace Go.Proofs.Ytgjcikajfnlocaa
open Go.RowKit

abbrev KL := List (Nat × Value)

structure Kn (n : Nat) (l : KL) (a : Act) : Prop where
  size : a.tmps.size = n
  defers : a.defers = []
  get : ∀ i v, l.lookup i = some v → a.tmps.getD i undef = v

def opv (l : KL) : Operand → Option Value
  | .tmp i => l.lookup i
  | .const v => some v
  | .global g => some (.pointer (some ⟨g, 0, none⟩))
  | .func f => some (.func (.func f) #[] #[])

theorem Kn.eval {n : Nat} {l : KL} {a : Act} (h : Kn n l a) {x : Operand} {v : Value} (hx : opv l x = some v) : a.eval x = v := by
  cases x with
  | tmp i => exact h.get i v hx
  | const u => simp only [opv, Option.some.injEq] at hx; exact hx
  | global g => simp only [opv, Option.some.injEq] at hx; exact hx
  | func f => simp only [opv, Option.some.injEq] at hx; exact hx

theorem Kn.evals {n : Nat} {l : KL} {a : Act} (h : Kn n l a) : ∀ {xs : List Operand} {vs : List Value}, xs.mapM (opv l) = some vs → xs.map a.eval = vs
  | [], vs, hx => by simp at hx; simp [hx]
  | x :: xs, vs, hx => by
    cases h1 : opv l x with
    | none => simp [h1] at hx
    | some v =>
      cases h2 : xs.mapM (opv l) with
      | none => simp [h1, h2] at hx
      | some us =>
        simp [h1, h2] at hx
        subst hx
        simp [h.eval h1, h.evals h2]

theorem lookup_cons_ne {i d : Nat} {v : Value} {l : KL} (h : i ≠ d) : ((d, v) :: l).lookup i = l.lookup i := by
  simp [List.lookup, show (i == d) = false from by simpa using h]
theorem lookup_cons_self {d : Nat} {v : Value} {l : KL} : ((d, v) :: l).lookup d = some v := by simp [List.lookup]

theorem Kn.put {n : Nat} {l : KL} {a : Act} (h : Kn n l a) {d : Nat} (hd : d < n) (v : Value) : Kn n ((d, v) :: l) (a.put (some d) v) := by
  refine ⟨by simp [Act.put, h.size], by simp [Act.put, h.defers], fun i u hi => ?_⟩
  by_cases hid : i = d
  · subst hid
    rw [lookup_cons_self] at hi
    obtain rfl := Option.some.inj hi
    simp [Act.put, h.size, hd]
  · rw [lookup_cons_ne hid] at hi
    have := h.get i u hi
    simp only [Act.put, Array.getD_eq_getD_getElem?] at this ⊢
    rw [Array.getElem?_setIfInBounds_ne (fun e => hid e.symm)]
    exact this
/-- A slot of whose new value nothing need be known. -/
theorem Kn.putNone {n : Nat} {l : KL} {a : Act} (h : Kn n l a) (v : Value) : Kn n l (a.put none v) := h

/-- The list is cut down, or told anew: each row of the new list is looked up in the old one. -/
def Sub (l l' : KL) : Prop := ∀ i v, l'.lookup i = some v → l.lookup i = some v
theorem Sub.nil (l : KL) : Sub l [] := fun _ _ h => by simp at h
theorem Sub.cons {l l' : KL} {i : Nat} {v : Value} (hv : l.lookup i = some v) (h : Sub l l') : Sub l ((i, v) :: l') := fun j u hj => by
  by_cases e : j = i
  · subst e; rw [lookup_cons_self] at hj; obtain rfl := Option.some.inj hj; exact hv
  · rw [lookup_cons_ne e] at hj; exact h j u hj
theorem Sub.refl (l : KL) : Sub l l := fun _ _ h => h
theorem Kn.sub {n : Nat} {l l' : KL} {a : Act} (h : Kn n l a) (hs : Sub l l') : Kn n l' a := ⟨h.size, h.defers, fun i v hi => h.get i v (hs i v hi)⟩

section
variable {P : Program}

/-- OPERATION o, WHERE l IS KNOWN, IN WORLD w, YIELDS v AND LEAVES w'. -/
def Ev (P : Program) (l : KL) (o : Oper) (w : World) (v : Value) (w' : World) : Prop := ∀ n a, Kn n l a → (execOp a.eval o).run P w = .ok (.value v) w'
/-- The same for an operation that yields nothing (a store). -/
def Sv (P : Program) (l : KL) (o : Oper) (w w' : World) : Prop := ∀ n a, Kn n l a → (execOp a.eval o).run P w = .ok .skip w'
/-- The same for a call. -/
def Cv (P : Program) (l : KL) (o : Oper) (w : World) (f : FuncId) (args : Array Value) : Prop := ∀ n a, Kn n l a → (execOp a.eval o).run P w = .ok (.enter f args) w

/-! ### Sequences of operations -/
def Yl (P : Program) (w : World) (o : Oper) (a : Act) (v : Value) : Prop :=
  (execOp a.eval o).run P w = .ok (.value v) w ∨ ∃ f args, (execOp a.eval o).run P w = .ok (.enter f args) w ∧ Calls P f args w (fun e w'' => e = .returned v ∧ w'' = w)
/-- Quiet operations, one after the other. -/
def Runs (P : Program) (w : World) (K : Act → Prop) : List Oper → Act → Prop
  | [], a => K a
  | o :: r, a => ∃ v, Yl P w o a v ∧ Runs P w K r (a.put o.dst v)
/-- Any operations, one after the other. -/
def wpU (P : Program) (Q : Exit → Act → World → Prop) : List Oper → Act → World → Prop
  | [], a, w => Q .normal a w
  | o :: r, a, w => o.wp P a w (wpU P Q r) Q
theorem Yl.still {w : World} {o : Oper} {a : Act} {v : Value} (h : Yl P w o a v) {K : Act → Prop} (hK : K (a.put o.dst v)) : o.still P a w K := by
  unfold Oper.still
  rcases h with h | ⟨f, args, h, hc⟩
  · rw [h]; exact ⟨rfl, hK⟩
  · rw [h]; exact ⟨rfl, v, hc, hK⟩
theorem wpStill_of_runs {w : World} {K : Act → Prop} {ops : Array Oper} : ∀ (l : List Oper) (a : Act), l.all (fun o => o.guard.isNone) = true → Runs P w K l a → wpStill P ops w K l a
  | [], _, _, h => h
  | o :: l, a, hg, h => by
    simp only [List.all_cons, Bool.and_eq_true] at hg
    obtain ⟨v, hv, hr⟩ := h
    unfold wpStill
    rw [if_pos (by simp [Region.wanted, Option.isNone_iff_eq_none.1 hg.1])]
    exact hv.still (wpStill_of_runs l _ hg.2 hr)
theorem Oper.wp_le {o : Oper} {a : Act} {w : World} {K K' : Act → World → Prop} {Q : Exit → Act → World → Prop} (hk : ∀ a w, K a w → K' a w) (h : o.wp P a w K Q) : o.wp P a w K' Q := by
  unfold Oper.wp at *
  generalize (execOp a.eval o).run P w = r at *
  cases r with
  | ok n w' =>
    cases n <;> simp only [Oper.upon] at h ⊢ <;> first | exact hk _ _ h | skip
    · refine h.mono fun e w'' he => ?_
      cases e <;> first | exact hk _ _ he | exact he
    · exact h.mono fun v w'' he => hk _ _ he
  | halt x w' => cases x <;> simp only [Oper.upon] at h ⊢ <;> exact h
theorem wpList_of_wpU {ops : Array Oper} {Q : Exit → Act → World → Prop} : ∀ (l : List Oper) (a : Act) (w : World), l.all (fun o => o.guard.isNone) = true → wpU P Q l a w → wpList P ops Q l a w
  | [], _, _, _, h => h
  | o :: l, a, w, hg, h => by
    simp only [List.all_cons, Bool.and_eq_true] at hg
    unfold wpList
    rw [if_pos (by simp [Region.wanted, Option.isNone_iff_eq_none.1 hg.1])]
    exact .inl (Oper.wp_le (fun a w h => wpList_of_wpU l a w hg.2 h) h)
/-- A region in the text's order. -/
theorem rg {id : Nat} {Q : Exit → Act → World → Prop} {a : Act} {w : World} {l : List Oper} (hg : l.all (fun o => o.guard.isNone) = true) (h : wpU P Q l a w) : (Code.region id l.toArray false).wp P Q a w :=
  wp_region_lit (wpList_of_wpU l a w hg h)
theorem Runs.mono {w : World} {K K' : Act → Prop} (hk : ∀ a, K a → K' a) : ∀ (l : List Oper) (a : Act), Runs P w K l a → Runs P w K' l a
  | [], _, h => hk _ h
  | _ :: l, _, ⟨v, hv, hr⟩ => ⟨v, hv, Runs.mono hk l _ hr⟩
/-- A region that draws its order: n quiet operations, then the rest in the text's order. -/
theorem rgt {id : Nat} {Q : Exit → Act → World → Prop} {a : Act} {w : World} {l : List Oper} (n : Nat) (hm : P.follows .mixedOrders = true) (hB : Region.lexTailB .any l.toArray n = true)
    (hg : l.all (fun o => o.guard.isNone) = true) (h : Runs P w.drew (fun a' => wpU P Q (l.drop n) a' w.drew) (l.take n) a) : (Code.region id l.toArray true).wp P Q a w := by
  have hg' : (l.take n).all (fun o => o.guard.isNone) = true ∧ (l.drop n).all (fun o => o.guard.isNone) = true := by
    have e := List.take_append_drop n l
    rw [← e, List.all_append, Bool.and_eq_true] at hg
    exact hg
  exact wp_region_still_tail n hm hB (wpStill_of_runs _ _ hg'.1 (Runs.mono (fun a' h => wpList_of_wpU _ _ _ hg'.2 h) _ _ h))
/-- A region that draws its order and only reads. -/
theorem rgs {id : Nat} {Q : Exit → Act → World → Prop} {a : Act} {w : World} {l : List Oper} (hm : P.follows .mixedOrders = true) (hB : Region.lexB .any l.toArray = true)
    (hg : l.all (fun o => o.guard.isNone) = true) (h : Runs P w.drew (fun a' => Q .normal a' w.drew) l a) : (Code.region id l.toArray true).wp P Q a w :=
  wp_region_still_lit hm hB (wpStill_of_runs _ _ hg h)

variable {n : Nat} {l : KL} {a : Act} {w w' : World} {o : Oper} {r : List Oper} {Q : Exit → Act → World → Prop} {K : Act → Prop}

theorem u_nil (h : Q .normal a w) : wpU P Q [] a w := h
theorem r_nil (h : K a) : Runs P w K [] a := h
theorem u_val {d : Nat} {v : Value} (hk : Kn n l a) (he : Ev P l o w v w') (ho : o.dst = some d) (hd : d < n) (h : ∀ a', Kn n ((d, v) :: l) a' → wpU P Q r a' w') : wpU P Q (o :: r) a w := by
  show o.wp P a w _ Q
  unfold Oper.wp
  rw [he n a hk]
  show wpU P Q r (a.put o.dst v) w'
  rw [ho]
  exact h _ (hk.put hd v)
theorem r_val {d : Nat} {v : Value} (hk : Kn n l a) (he : Ev P l o w v w) (ho : o.dst = some d) (hd : d < n) (h : ∀ a', Kn n ((d, v) :: l) a' → Runs P w K r a') : Runs P w K (o :: r) a :=
  ⟨v, .inl (he n a hk), by rw [ho]; exact h _ (hk.put hd v)⟩
theorem u_skip (hk : Kn n l a) (he : Sv P l o w w') (ho : o.dst = none) (h : ∀ a', Kn n l a' → wpU P Q r a' w') : wpU P Q (o :: r) a w := by
  show o.wp P a w _ Q
  unfold Oper.wp
  rw [he n a hk]
  show wpU P Q r (a.put o.dst undef) w'
  rw [ho]
  exact h _ hk
theorem r_call {d : Nat} {v : Value} {f : FuncId} {args : Array Value} (hk : Kn n l a) (he : Cv P l o w f args) (hc : Calls P f args w (fun e w'' => e = .returned v ∧ w'' = w)) (ho : o.dst = some d) (hd : d < n)
    (h : ∀ a', Kn n ((d, v) :: l) a' → Runs P w K r a') : Runs P w K (o :: r) a :=
  ⟨v, .inr ⟨f, args, he n a hk, hc⟩, by rw [ho]; exact h _ (hk.put hd v)⟩
/-- A call by its contract; what the contract leaves is met by 'h'. -/
theorem u_call {d : Nat} {f : FuncId} {args : Array Value} {R : Ending → World → Prop} (hk : Kn n l a) (he : Cv P l o w f args) (hc : Calls P f args w R) (ho : o.dst = some d) (hd : d < n)
    (h : ∀ e w', R e w' → ∃ v, e = .returned v ∧ ∀ a', Kn n ((d, v) :: l) a' → wpU P Q r a' w') : wpU P Q (o :: r) a w := by
  show o.wp P a w _ Q
  unfold Oper.wp
  rw [he n a hk]
  refine hc.mono fun e w'' hR => ?_
  obtain ⟨v, rfl, hn⟩ := h e w'' hR
  show wpU P Q r (a.put o.dst v) w''
  rw [ho]
  exact hn _ (hk.put hd v)
theorem u_call0 {f : FuncId} {args : Array Value} {R : Ending → World → Prop} (hk : Kn n l a) (he : Cv P l o w f args) (hc : Calls P f args w R) (ho : o.dst = none)
    (h : ∀ e w', R e w' → ∃ v, e = .returned v ∧ ∀ a', Kn n l a' → wpU P Q r a' w') : wpU P Q (o :: r) a w := by
  show o.wp P a w _ Q
  unfold Oper.wp
  rw [he n a hk]
  refine hc.mono fun e w'' hR => ?_
  obtain ⟨v, rfl, hn⟩ := h e w'' hR
  show wpU P Q r (a.put o.dst v) w''
  rw [ho]
  exact hn _ hk

/-! ### The operations -/
variable {dst : Option Tmp} {ty : TypeId} {pos : String} {after : Array Edge} {guard : Option (Nat × Bool)}

theorem e_move {x : Operand} {v : Value} (hx : opv l x = some v) : Ev P l ⟨dst, .move x, ty, pos, after, guard⟩ w v w := fun n a hk => by
  simp [execOp, hk.eval hx]
theorem e_assign {x : Operand} {v : Value} (hx : opv l x = some v) : Ev P l ⟨dst, .assign x, ty, pos, after, guard⟩ w v w := fun n a hk => by
  simp [execOp, hk.eval hx]
theorem e_pick {c x y : Operand} {b : Bool} {u v : Value} (hc : opv l c = some (.bool b)) (hx : opv l x = some u) (hy : opv l y = some v) : Ev P l ⟨dst, .pick c x y, ty, pos, after, guard⟩ w (if b then u else v) w := fun n a hk => by
  simp only [execOp, hk.eval hc, hk.eval hx, hk.eval hy]
  cases b <;> simp [asBool]
theorem e_nilCheck {x : Operand} {p : Addr} (hx : opv l x = some (.pointer (some p))) : Ev P l ⟨dst, .nilCheck x, ty, pos, after, guard⟩ w (.pointer (some p)) w := fun n a hk => by
  simp [execOp, hk.eval hx]

theorem e_add {t yt : TypeId} {x y : Operand} {k : IntKind} {i j : Int} (hx : opv l x = some (.int k i)) (hy : opv l y = some (.int k j)) : Ev P l ⟨dst, .binOp .add t x y yt, ty, pos, after, guard⟩ w (.int k (k.wrap (i + j))) w := fun n a hk => by
  simp [execOp, hk.eval hx, hk.eval hy, eqGuard, binOp, Op.intArith]
theorem e_sub {t yt : TypeId} {x y : Operand} {k : IntKind} {i j : Int} (hx : opv l x = some (.int k i)) (hy : opv l y = some (.int k j)) : Ev P l ⟨dst, .binOp .sub t x y yt, ty, pos, after, guard⟩ w (.int k (k.wrap (i - j))) w := fun n a hk => by
  simp [execOp, hk.eval hx, hk.eval hy, eqGuard, binOp, Op.intArith]
theorem e_mul {t yt : TypeId} {x y : Operand} {k : IntKind} {i j : Int} (hx : opv l x = some (.int k i)) (hy : opv l y = some (.int k j)) : Ev P l ⟨dst, .binOp .mul t x y yt, ty, pos, after, guard⟩ w (.int k (k.wrap (i * j))) w := fun n a hk => by
  simp [execOp, hk.eval hx, hk.eval hy, eqGuard, binOp, Op.intArith]
theorem e_lss {t yt : TypeId} {x y : Operand} {k : IntKind} {i j : Int} (hx : opv l x = some (.int k i)) (hy : opv l y = some (.int k j)) : Ev P l ⟨dst, .binOp .lss t x y yt, ty, pos, after, guard⟩ w (.bool (decide (i < j))) w := fun n a hk => by
  simp [execOp, hk.eval hx, hk.eval hy, eqGuard, binOp, Op.intCmp]
theorem e_leq {t yt : TypeId} {x y : Operand} {k : IntKind} {i j : Int} (hx : opv l x = some (.int k i)) (hy : opv l y = some (.int k j)) : Ev P l ⟨dst, .binOp .leq t x y yt, ty, pos, after, guard⟩ w (.bool (decide (i ≤ j))) w := fun n a hk => by
  simp [execOp, hk.eval hx, hk.eval hy, eqGuard, binOp, Op.intCmp]
theorem e_gtr {t yt : TypeId} {x y : Operand} {k : IntKind} {i j : Int} (hx : opv l x = some (.int k i)) (hy : opv l y = some (.int k j)) : Ev P l ⟨dst, .binOp .gtr t x y yt, ty, pos, after, guard⟩ w (.bool (decide (i > j))) w := fun n a hk => by
  simp [execOp, hk.eval hx, hk.eval hy, eqGuard, binOp, Op.intCmp]
theorem e_geq {t yt : TypeId} {x y : Operand} {k : IntKind} {i j : Int} (hx : opv l x = some (.int k i)) (hy : opv l y = some (.int k j)) : Ev P l ⟨dst, .binOp .geq t x y yt, ty, pos, after, guard⟩ w (.bool (decide (i ≥ j))) w := fun n a hk => by
  simp [execOp, hk.eval hx, hk.eval hy, eqGuard, binOp, Op.intCmp]
theorem e_eql {t yt : TypeId} {x y : Operand} {k : IntKind} {i j : Int} (hx : opv l x = some (.int k i)) (hy : opv l y = some (.int k j)) : Ev P l ⟨dst, .binOp .eql t x y yt, ty, pos, after, guard⟩ w (.bool (decide (i = j))) w := fun n a hk => by
  simp [execOp, hk.eval hx, hk.eval hy, eqGuard, binOp, Op.intCmp]
  by_cases h : i = j <;> simp [h]
theorem e_neq {t yt : TypeId} {x y : Operand} {k : IntKind} {i j : Int} (hx : opv l x = some (.int k i)) (hy : opv l y = some (.int k j)) : Ev P l ⟨dst, .binOp .neq t x y yt, ty, pos, after, guard⟩ w (.bool (decide (i ≠ j))) w := fun n a hk => by
  simp [execOp, hk.eval hx, hk.eval hy, eqGuard, binOp, Op.intCmp]
  by_cases h : i = j <;> simp [h]
end
end Go.Proofs.Ytgjcikajfnlocaa
