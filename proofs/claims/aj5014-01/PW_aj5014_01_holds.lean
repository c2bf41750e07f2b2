import PyProof.Rows.All
import Wide.All
import OpenK.AllK
import Wide.FinOn
import Lean
import PySem.Challenge.RW_aj5014_01
open PySem PySem.W PySem.Spec PySem.Calls PyProof.Rows
set_option Elab.async false
set_option linter.all false
set_option linter.unusedVariables false
set_option maxRecDepth 100000
set_option maxHeartbeats 8000000
namespace Mine
open_top hd for PySem.Challenge.rw_aj5014_01
inductive PV where
  | none
  | bool (b : Bool)
  | int (i : Int)
  | str (x : Str)
  | tup (l : List PV)
  | list (l : List PV)
  | val (v : Value)

mutual
inductive Rep (h : Heap) : Value → PV → Prop
  | none : Rep h .none .none
  | bool (b : Bool) : Rep h (.bool b) (.bool b)
  | int (i : Int) (t : Tok) : Rep h (.int i t) (.int i)
  | str (x : Str) (t : Tok) : Rep h (.str x t) (.str x)
  | val (v : Value) : Rep h v (.val v)
  | tup {a : Addr} {vs : List Value} {l : List PV} : IsTup h a vs.toArray → Reps h vs l → Rep h (.ref a) (.tup l)
  | list {a : Addr} {vs : List Value} {l : List PV} : h.IsList a vs.toArray → Reps h vs l → Rep h (.ref a) (.list l)
inductive Reps (h : Heap) : List Value → List PV → Prop
  | nil : Reps h [] []
  | cons {v : Value} {vs : List Value} {p : PV} {ps : List PV} : Rep h v p → Reps h vs ps → Reps h (v :: vs) (p :: ps)
end

def Keep (h h' : Heap) : Prop := ∀ b o, h.get? b = some o → h'.get? b = some o
theorem Keep.refl (h : Heap) : Keep h h := fun _ _ e => e
theorem Keep.trans {a b c : Heap} (x : Keep a b) (y : Keep b c) : Keep a c := fun i o e => y i o (x i o e)
theorem Keep.push (h : Heap) (o : Obj) : Keep h (h.push o) := fun _ _ e => Heap.get?_push_of_some o e

def SeqKeep (h h' : Heap) : Prop := ∀ b o its n, h.get? b = some o → o.data = .seq its n → h'.get? b = some o
theorem Keep.seq {h h' : Heap} (k : Keep h h') : SeqKeep h h' := fun b o _ _ e _ => k b o e
theorem SeqKeep.extBut {h h' : Heap} {L : Addr} {m : Str → Option Value} (n : h.Ns L m) (x : Heap.ExtBut L h h') : SeqKeep h h' := by
  intro b o its k e d
  refine x b o ?_ e
  rintro rfl
  obtain ⟨o', es, ep, ho, hd, _⟩ := n
  rw [ho] at e; cases e; rw [hd] at d; cases d

theorem IsTup.sk {h h' : Heap} {a its} (x : IsTup h a its) (k : SeqKeep h h') : IsTup h' a its :=
  let ⟨o, ho, hc, n, hd⟩ := x; ⟨o, k a o its n ho hd, hc, n, hd⟩
theorem IsList.sk {h h' : Heap} {a its} (x : h.IsList a its) (k : SeqKeep h h') : h'.IsList a its :=
  let ⟨o, ho, hc, n, hd⟩ := x; ⟨o, k a o its n ho hd, hc, n, hd⟩

mutual
theorem Rep.sk {h h' : Heap} {v : Value} {p : PV} (k : SeqKeep h h') : Rep h v p → Rep h' v p
  | .none => .none
  | .bool b => .bool b
  | .int i t => .int i t
  | .str x t => .str x t
  | .val v => .val v
  | .tup x r => .tup (IsTup.sk x k) (Reps.sk k r)
  | .list x r => .list (IsList.sk x k) (Reps.sk k r)
theorem Reps.sk {h h' : Heap} {vs : List Value} {ps : List PV} (k : SeqKeep h h') : Reps h vs ps → Reps h' vs ps
  | .nil => .nil
  | .cons x r => .cons (Rep.sk k x) (Reps.sk k r)
end
theorem Rep.keep {h h' : Heap} {v : Value} {p : PV} (k : Keep h h') (r : Rep h v p) : Rep h' v p := r.sk k.seq
theorem Reps.keep {h h' : Heap} {vs : List Value} {ps : List PV} (k : Keep h h') (r : Reps h vs ps) : Reps h' vs ps := r.sk k.seq

structure Cx where
  prog : Program
  w : World
  K : Frag
  p : Program
  loose : List Str
  mean : ExcName → Option Value
  mg : Str → Option Value
  mb : Str → Option Value
abbrev Cx.M (C : Cx) : Model := model C.prog C.w

structure Ok (C : Cx) (h : Heap) : Prop where
  X : C.K.In h
  T : Top C.p C.loose C.mean C.mg C.mb h
theorem Ok.keep {C : Cx} {h h' : Heap} (o : Ok C h) (k : Keep h h') : Ok C h' := ⟨o.X.keeps k, o.T.keeps k⟩

structure Room (n : Nat) (A : Around) : Prop where
  d : A.depth + n < recursionLimit
  u : A.units + 8 * n + 80 < cLine
  hh : A.handled = none
theorem Room.mono {n k : Nat} {A : Around} (r : Room n A) (h : k ≤ n) : Room k A := ⟨by have := r.d; omega, by have := r.u; omega, r.hh⟩
theorem Room.deeper {n : Nat} {A : Around} (env : Env) (r : Room (n + 1) A) : Room n (A.deeper env) := ⟨by have := r.d; show A.depth + 1 + n < _; omega, by have := r.u; show A.units + 3 + 8 * n + 80 < _; omega, r.hh⟩

abbrev Loc := List (String × PV)
def look (ρ : Loc) (x : String) : Option PV := ρ.lookup x

theorem ofString_inj {x y : String} (h : Str.ofString x = Str.ofString y) : x = y := by
  rw [Str.ofString_eq_toList, Str.ofString_eq_toList] at h
  have h2 : x.toList.map Char.toNat = y.toList.map Char.toNat := by
    have := congrArg (fun s => s.cps.toList) h
    simpa using this
  have h3 : x.toList = y.toList := by
    have inj : ∀ l l' : List Char, l.map Char.toNat = l'.map Char.toNat → l = l' := by
      intro l
      induction l with
      | nil => intro l' e; cases l' with
        | nil => rfl
        | cons _ _ => simp at e
      | cons a l ih => intro l' e; cases l' with
        | nil => simp at e
        | cons b l' =>
          simp only [List.map_cons, List.cons.injEq] at e
          rw [ih l' e.2, Char.toNat_inj.mp e.1]
    exact inj _ _ h2
  exact String.toList_inj.mp h3

/-- the name x holds v in env at the heap h -/
inductive VarAt (env : Env) (h : Heap) (x : String) (v : Value) : Prop
  | loc (m : Str → Option Value) (hk : env.kindOf (Str.ofString x) = some .local) (hn : h.Ns env.locals m) (hm : m (Str.ofString x) = some v)
  | cell (c : Addr) (hk : env.kindOf (Str.ofString x) = some .cell) (hc : env.cells.lookup (Str.ofString x) = some c) (hv : h.IsCell c (some v))

theorem VarAt.keep {env : Env} {h h' : Heap} {x : String} {v : Value} (k : Keep h h') : VarAt env h x v → VarAt env h' x v
  | .loc m a b c => .loc m a (b.keeps k) c
  | .cell c a b d => .cell c a b (let ⟨o, ho, hd⟩ := d; ⟨o, k _ _ ho, hd⟩)

def Names (env : Env) (h : Heap) (ρ : Loc) : Prop := ∀ x p, look ρ x = some p → (Str.ofString x == Str.ofString "__debug__") = false ∧ ∃ v, VarAt env h x v ∧ Rep h v p
theorem Names.keep {env : Env} {h h' : Heap} {ρ : Loc} (k : Keep h h') (n : Names env h ρ) : Names env h' ρ := fun x p e =>
  let ⟨d, v, a, b⟩ := n x p e; ⟨d, v, a.keep k, b.keep k⟩

structure Plain (env : Env) : Prop where
  g : env.globals = mainGlobals
  b : env.builtins = builtinsNs
  k : env.scope.kind = .function

/-- expression e comes out as some p with φ p, from names ρ; nothing on the heap turns -/
def Ev (C : Cx) (sc : Scope) (n : Nat) (ρ : Loc) (e : Expr) (φ : PV → Prop) : Prop :=
  ∀ (env : Env) (A : Around) (s : Shared) (Q : Value → Shared → Prop) (E : Value → Shared → Prop), env.scope = sc → Plain env → Room n A → Ok C s.heap → Names env s.heap ρ →
    (∀ h' tk' v p, φ p → Keep s.heap h' → Rep h' v p → Q v { s with heap := h', toks := tk' }) → wpAny C.M A (eval e env) Q E s
/-- the test e comes out as the bool b -/
def Ts (C : Cx) (sc : Scope) (n : Nat) (ρ : Loc) (e : Expr) (φ : Bool → Prop) : Prop :=
  ∀ (env : Env) (A : Around) (s : Shared) (Q : Bool → Shared → Prop) (E : Value → Shared → Prop), env.scope = sc → Plain env → Room n A → Ok C s.heap → Names env s.heap ρ →
    (∀ h' tk' b, φ b → Keep s.heap h' → Q b { s with heap := h', toks := tk' }) → wpAny C.M A (isTrue e env (eval e env)) Q E s

section
variable {C : Cx} {sc : Scope} {n : Nat} {ρ : Loc} {φ : PV → Prop}

theorem Ev.mono {e : Expr} {ψ : PV → Prop} (h : Ev C sc n ρ e φ) (hi : ∀ p, φ p → ψ p) : Ev C sc n ρ e ψ :=
  fun env A s Q E h1 h2 h3 h4 h5 k => h env A s Q E h1 h2 h3 h4 h5 fun h' tk' v p hp => k h' tk' v p (hi p hp)

theorem Ev.name {x : String} {pos : Pos} {p : PV} (hx : look ρ x = some p) (h : φ p) : Ev C sc n ρ (.Name (Str.ofString x) pos) φ := by
  intro env A s Q E hs hp hr ho hn k
  obtain ⟨hd, v, hv, hrep⟩ := hn x p hx
  refine wpAny_Name ?_ hd
  cases hv with
  | loc m a b c => exact wpAny_loadName_local hp.k a b c (k s.heap s.toks v p h (.refl _) hrep)
  | cell c a b d => exact wpAny_loadName_cell hp.k a b d (k s.heap s.toks v p h (.refl _) hrep)

theorem Ev.glob {x : Str} {pos : Pos} {p : PV} {v : Value} (hx : sc.names.lookup x = some .globalImplicit) (hk : nsIn C.K mainGlobals x = some (some v)) (hr : ∀ h, C.K.In h → Rep h v p)
    (h : φ p) (hd : (x == ("__debug__" : Str)) = false := by decide) : Ev C sc n ρ (.Name x pos) φ := by
  intro env A s Q E hs hp hr' ho hn k
  subst hs
  refine Name_function_global hp.k hx (loadGlobal_global (mg := C.mg) (hp.g ▸ ho.T.g) (mg_of ho.X ho.T.g hk) ?_) hd
  exact k s.heap s.toks v p h (.refl _) (hr _ ho.X)

theorem Ev.cint {i : Int} {k : Nat} {pos : Pos} (h : φ (.int i)) : Ev C sc n ρ (.Constant (.int i) k pos) φ :=
  fun env A s Q E hs hp hr ho hn q => wpAny_Constant_int (q s.heap _ _ _ h (.refl _) (.int _ _))
theorem Ev.cbool {b : Bool} {k : Nat} {pos : Pos} (h : φ (.bool b)) : Ev C sc n ρ (.Constant (.bool b) k pos) φ :=
  fun env A s Q E hs hp hr ho hn q => Constant_bool (q s.heap s.toks _ _ h (.refl _) (.bool _))

/-- an operator's step, on pure values -/
def Step2 (C : Cx) (t : Value → Value → Sem Value) (p q : PV) (φ : PV → Prop) : Prop :=
  ∀ (A : Around) (s : Shared) (Q : Value → Shared → Prop) (E : Value → Shared → Prop) (v u : Value), Ok C s.heap → A.handled = none → A.units + 64 < cLine → Rep s.heap v p → Rep s.heap u q →
    (∀ h' tk' v p, φ p → Keep s.heap h' → Rep h' v p → Q v { s with heap := h', toks := tk' }) → wpAny C.M A (t v u) Q E s

theorem Ev.bin {op : Operator} {l r : Expr} {pos : Pos} (h : Ev C sc n ρ l fun p => Ev C sc n ρ r fun q => Step2 C (binaryOp op) p q φ) : Ev C sc n ρ (.BinOp l op r pos) φ := by
  intro env A s Q E hs hp hr ho hn k
  refine wpAny_BinOp (h env A s _ E hs hp hr ho hn fun h1 t1 v p hq k1 r1 => ?_)
  refine hq env A _ _ E hs hp hr (ho.keep k1) (hn.keep k1) fun h2 t2 u q hq2 k2 r2 => ?_
  exact hq2 A _ _ E v u ((ho.keep k1).keep k2) hr.hh (by have := hr.u; omega) (r1.keep k2) r2 fun h3 t3 w p' hp' k3 r3 => k h3 t3 w p' hp' ((k1.trans k2).trans k3) r3

/-- a step on one value -/
def Step1 (C : Cx) (t : Value → Sem Value) (p : PV) (φ : PV → Prop) : Prop :=
  ∀ (A : Around) (s : Shared) (Q : Value → Shared → Prop) (E : Value → Shared → Prop) (v : Value), Ok C s.heap → A.handled = none → A.units + 64 < cLine → Rep s.heap v p →
    (∀ h' tk' v p, φ p → Keep s.heap h' → Rep h' v p → Q v { s with heap := h', toks := tk' }) → wpAny C.M A (t v) Q E s
def Truth (C : Cx) (p : PV) (φ : Bool → Prop) : Prop :=
  ∀ (A : Around) (s : Shared) (Q : Bool → Shared → Prop) (E : Value → Shared → Prop) (v : Value), Ok C s.heap → Rep s.heap v p →
    (∀ h' tk' b, φ b → Keep s.heap h' → Q b { s with heap := h', toks := tk' }) → wpAny C.M A (truthy v) Q E s

theorem truth_bool {b : Bool} {φ : Bool → Prop} (h : φ b) : Truth C (.bool b) φ := by
  intro A s Q E v ho hr k
  cases hr
  exact wpAny_truthy_bool (k s.heap s.toks b h (.refl _))
theorem truth_none {φ : Bool → Prop} (h : φ false) : Truth C .none φ := by
  intro A s Q E v ho hr k
  cases hr
  exact truthy_none (k s.heap s.toks false h (.refl _))
theorem truth_int {i : Int} {φ : Bool → Prop} (h : φ (i != 0)) : Truth C (.int i) φ := by
  intro A s Q E v ho hr k
  cases hr
  exact truthy_int (k s.heap s.toks _ h (.refl _))

theorem Ev.cmp {op : CmpOp} {l r : Expr} {pos : Pos} (h : Ev C sc n ρ l fun p => Ev C sc n ρ r fun q => Step2 C (compareOp op) p q φ)
    (hm : behindInMarks op r = false := by with_unfolding_all rfl) : Ev C sc n ρ (.Compare l [op] [r] pos) φ := by
  intro env A s Q E hs hp hr ho hn k
  refine wpAny_Compare1 (h env A s _ E hs hp hr ho hn fun h1 t1 v p hq k1 r1 => ?_) hm
  refine hq env A _ _ E hs hp hr (ho.keep k1) (hn.keep k1) fun h2 t2 u q hq2 k2 r2 => ?_
  exact hq2 A _ _ E v u ((ho.keep k1).keep k2) hr.hh (by have := hr.u; omega) (r1.keep k2) r2 fun h3 t3 w p' hp' k3 r3 => k h3 t3 w p' hp' ((k1.trans k2).trans k3) r3

theorem Ts.cmp {op : CmpOp} {l r : Expr} {pos : Pos} {ψ : Bool → Prop} (h : Ev C sc n ρ l fun p => Ev C sc n ρ r fun q => Step2 C (compareOp op) p q fun b => Truth C b ψ)
    (hm : behindInMarks op r = false := by with_unfolding_all rfl) : Ts C sc n ρ (.Compare l [op] [r] pos) ψ := by
  intro env A s Q E hs hp hr ho hn k
  refine wpAny_isTrue_Compare1 (h env A s _ E hs hp hr ho hn fun h1 t1 v p hq k1 r1 => ?_) hm
  refine hq env A _ _ E hs hp hr (ho.keep k1) (hn.keep k1) fun h2 t2 u q hq2 k2 r2 => ?_
  refine hq2 A _ _ E v u ((ho.keep k1).keep k2) hr.hh (by have := hr.u; omega) (r1.keep k2) r2 fun h3 t3 w p' hp' k3 r3 => ?_
  exact hp' A _ _ E w (((ho.keep k1).keep k2).keep k3) r3 fun h4 t4 b hb k4 => k h4 t4 b hb (((k1.trans k2).trans k3).trans k4)

/-- a test that is no comparison, no not, and, or -/
theorem Ts.plain {e : Expr} {ψ : Bool → Prop} (h : Ev C sc n ρ e fun p => Truth C p ψ)
    (he : ∀ env whole, isTrue e env whole = (do let v ← whole; standAt e.pos; holding [v] (truthy v)) := by intro _ _; rfl) : Ts C sc n ρ e ψ := by
  intro env A s Q E hs hp hr ho hn k
  refine isTrue_plain (h env A s _ E hs hp hr ho hn fun h1 t1 v p hq k1 r1 => ?_) (he _ _)
  exact hq A _ _ E v (ho.keep k1) r1 fun h4 t4 b hb k4 => k h4 t4 b hb (k1.trans k4)
theorem Ts.not {x : Expr} {pos : Pos} {ψ : Bool → Prop} (h : Ts C sc n ρ x fun b => ψ (!b)) : Ts C sc n ρ (.UnaryOp .Not x pos) ψ := by
  intro env A s Q E hs hp hr ho hn k
  exact isTrue_not (h env A s _ E hs hp hr ho hn fun h1 t1 b hb k1 => k h1 t1 _ hb k1)
theorem Ts.and_nil {pos : Pos} {ψ : Bool → Prop} (h : ψ true) : Ts C sc n ρ (.BoolOp .And [] pos) ψ :=
  fun env A s Q E hs hp hr ho hn k => isTrue_and_nil (k s.heap s.toks _ h (.refl _))
theorem Ts.or_nil {pos : Pos} {ψ : Bool → Prop} (h : ψ false) : Ts C sc n ρ (.BoolOp .Or [] pos) ψ :=
  fun env A s Q E hs hp hr ho hn k => isTrue_or_nil (k s.heap s.toks _ h (.refl _))
theorem Ts.and {x : Expr} {rest : List Expr} {pos : Pos} {ψ : Bool → Prop} (h : Ts C sc n ρ x fun b => (b = true → Ts C sc n ρ (.BoolOp .And rest pos) ψ) ∧ (b = false → ψ false)) : Ts C sc n ρ (.BoolOp .And (x :: rest) pos) ψ := by
  intro env A s Q E hs hp hr ho hn k
  refine isTrue_and (h env A s _ E hs hp hr ho hn fun h1 t1 b hb k1 => ?_)
  cases b with
  | true =>
    have := hb.1 rfl env A { s with heap := h1, toks := t1 } Q E hs hp hr (ho.keep k1) (hn.keep k1) fun h2 t2 b hb k2 => k h2 t2 b hb (k1.trans k2)
    simp only [if_true]
    exact this
  | false =>
    rw [if_neg (by decide)]
    exact k h1 t1 _ (hb.2 rfl) k1
theorem Ts.or {x : Expr} {rest : List Expr} {pos : Pos} {ψ : Bool → Prop} (h : Ts C sc n ρ x fun b => (b = false → Ts C sc n ρ (.BoolOp .Or rest pos) ψ) ∧ (b = true → ψ true)) : Ts C sc n ρ (.BoolOp .Or (x :: rest) pos) ψ := by
  intro env A s Q E hs hp hr ho hn k
  refine isTrue_or (h env A s _ E hs hp hr ho hn fun h1 t1 b hb k1 => ?_)
  cases b with
  | false =>
    have := hb.1 rfl env A { s with heap := h1, toks := t1 } Q E hs hp hr (ho.keep k1) (hn.keep k1) fun h2 t2 b hb k2 => k h2 t2 b hb (k1.trans k2)
    rw [if_neg (by decide)]
    exact this
  | true =>
    simp only [if_true]
    exact k h1 t1 _ (hb.2 rfl) k1

theorem Ev.not {x : Expr} {pos : Pos} (h : Ev C sc n ρ x fun p => Truth C p fun b => φ (.bool (!b))) : Ev C sc n ρ (.UnaryOp .Not x pos) φ := by
  intro env A s Q E hs hp hr ho hn k
  refine UnaryOp_ (h env A s _ E hs hp hr ho hn fun h1 t1 v p hq k1 r1 => not_of ?_)
  exact hq A _ _ E v (ho.keep k1) r1 fun h4 t4 b hb k4 => k h4 t4 _ _ hb (k1.trans k4) (.bool _)
theorem Ev.neg {x : Expr} {pos : Pos} (h : Ev C sc n ρ x fun p => ∃ i, p = .int i ∧ φ (.int (-i))) : Ev C sc n ρ (.UnaryOp .USub x pos) φ := by
  intro env A s Q E hs hp hr ho hn k
  refine UnaryOp_ (h env A s _ E hs hp hr ho hn fun h1 t1 v p hq k1 r1 => ?_)
  obtain ⟨i, rfl, hi⟩ := hq
  cases r1
  exact PyProof.Rows.neg_int (k _ _ _ _ hi k1 (.int _ _))
theorem Ev.ifexp {test body orelse : Expr} {pos : Pos} (h : Ts C sc n ρ test fun b => (b = true → Ev C sc n ρ body φ) ∧ (b = false → Ev C sc n ρ orelse φ)) : Ev C sc n ρ (.IfExp test body orelse pos) φ := by
  intro env A s Q E hs hp hr ho hn k
  refine IfExp_ (h env A s _ E hs hp hr ho hn fun h1 t1 b hb k1 => ?_)
  cases b with
  | true => simp only [if_true]; exact hb.1 rfl env A { s with heap := h1, toks := t1 } Q E hs hp hr (ho.keep k1) (hn.keep k1) fun h2 t2 v p hp k2 r2 => k h2 t2 v p hp (k1.trans k2) r2
  | false => rw [if_neg (by decide)]; exact hb.2 rfl env A { s with heap := h1, toks := t1 } Q E hs hp hr (ho.keep k1) (hn.keep k1) fun h2 t2 v p hp k2 r2 => k h2 t2 v p hp (k1.trans k2) r2
theorem Ev.or_one {e : Expr} {pos : Pos} {op : BoolOp} (h : Ev C sc n ρ e φ) : Ev C sc n ρ (.BoolOp op [e] pos) φ :=
  fun env A s Q E hs hp hr ho hn k => BoolOp_one (h env A s Q E hs hp hr ho hn k)
theorem Ev.or {e₁ e₂ : Expr} {rest : List Expr} {pos : Pos} (h : Ev C sc n ρ e₁ fun p => Truth C p fun b => (b = true → φ p) ∧ (b = false → Ev C sc n ρ (.BoolOp .Or (e₂ :: rest) pos) φ)) : Ev C sc n ρ (.BoolOp .Or (e₁ :: e₂ :: rest) pos) φ := by
  intro env A s Q E hs hp hr ho hn k
  refine BoolOp_or (h env A s _ E hs hp hr ho hn fun h1 t1 v p hq k1 r1 => ?_)
  refine hq A _ _ E v (ho.keep k1) r1 fun h2 t2 b hb k2 => ?_
  cases b with
  | true => simp only [if_true]; exact k h2 t2 v p (hb.1 rfl) (k1.trans k2) (r1.keep k2)
  | false => rw [if_neg (by decide)]; exact hb.2 rfl env A { s with heap := h2, toks := t2 } Q E hs hp hr ((ho.keep k1).keep k2) ((hn.keep k1).keep k2) fun h3 t3 v p hp k3 r3 => k h3 t3 v p hp ((k1.trans k2).trans k3) r3
theorem Ev.and {e₁ e₂ : Expr} {rest : List Expr} {pos : Pos} (h : Ev C sc n ρ e₁ fun p => Truth C p fun b => (b = false → φ p) ∧ (b = true → Ev C sc n ρ (.BoolOp .And (e₂ :: rest) pos) φ)) : Ev C sc n ρ (.BoolOp .And (e₁ :: e₂ :: rest) pos) φ := by
  intro env A s Q E hs hp hr ho hn k
  refine BoolOp_and (h env A s _ E hs hp hr ho hn fun h1 t1 v p hq k1 r1 => ?_)
  refine hq A _ _ E v (ho.keep k1) r1 fun h2 t2 b hb k2 => ?_
  cases b with
  | false => rw [if_neg (by decide)]; exact k h2 t2 v p (hb.1 rfl) (k1.trans k2) (r1.keep k2)
  | true => simp only [if_true]; exact hb.2 rfl env A { s with heap := h2, toks := t2 } Q E hs hp hr ((ho.keep k1).keep k2) ((hn.keep k1).keep k2) fun h3 t3 v p hp k3 r3 => k h3 t3 v p hp ((k1.trans k2).trans k3) r3

/-- several expressions, left to right -/
def Evs (C : Cx) (sc : Scope) (n : Nat) (ρ : Loc) (es : List Expr) (φ : List PV → Prop) : Prop :=
  ∀ (env : Env) (A : Around) (s : Shared) (Q : List Value → Shared → Prop) (E : Value → Shared → Prop) (pos : Pos), env.scope = sc → Plain env → Room n A → Ok C s.heap → Names env s.heap ρ →
    (∀ h' tk' vs ps, φ ps → Keep s.heap h' → Reps h' vs ps → Q vs { s with heap := h', toks := tk' }) → wpAny C.M A (spliced (backTo pos (starEach es env))) Q E s
theorem Evs.nil {φ : List PV → Prop} (h : φ []) : Evs C sc n ρ [] φ :=
  fun env A s Q E pos hs hp hr ho hn k => spliced_nil (k s.heap s.toks [] [] h (.refl _) .nil)
theorem Evs.cons {e : Expr} {es : List Expr} {φ : List PV → Prop} (h : Ev C sc n ρ e fun p => Evs C sc n ρ es fun ps => φ (p :: ps))
    (he : ∀ env, starEach (e :: es) env = (false, eval e env) :: starEach es env := by intro _; rfl) : Evs C sc n ρ (e :: es) φ := by
  intro env A s Q E pos hs hp hr ho hn k
  rw [he]
  show wpAny C.M A (spliced ((false, eval e env) :: backTo pos (starEach es env))) Q E s
  refine spliced_cons (h env A s _ E hs hp hr ho hn fun h1 t1 v p hq k1 r1 => ?_)
  refine hq env A _ _ E pos hs hp hr (ho.keep k1) (hn.keep k1) fun h2 t2 vs ps hq2 k2 r2 => ?_
  exact k h2 t2 (v :: vs) (p :: ps) hq2 (k1.trans k2) (.cons (r1.keep k2) r2)

theorem Reps.length {h : Heap} : ∀ {vs : List Value} {ps : List PV}, Reps h vs ps → vs.length = ps.length
  | _, _, .nil => rfl
  | _, _, .cons _ r => congrArg (· + 1) r.length

theorem Ev.tuple {es : List Expr} {k : Nat} {pos : Pos} (h : Evs C sc n ρ es fun ps => φ (.tup ps) ∧ ps.length ≤ sizeLine) : Ev C sc n ρ (.Tuple es k pos) φ := by
  intro env A s Q E hs hp hr ho hn q
  refine Tuple_ (h env A s _ E pos hs hp hr ho hn fun h1 t1 vs ps hq k1 r1 => ?_)
  refine wpAny_newObj_type ?_ (by show vs.toArray.size ≤ sizeLine; rw [List.size_toArray, r1.length]; exact hq.2)
  exact q _ _ _ _ hq.1 (k1.trans (.push _ _)) (.tup (IsTup.new h1 vs.toArray) (r1.keep (.push _ _)))
theorem isList_new (h : Heap) (items : Array Value) : (h.push { cls := .type "list", data := .seq items }).IsList h.objs.size items := ⟨_, Heap.get?_push_size _ rfl, rfl, _, rfl⟩
theorem Ev.listd {es : List Expr} {pos : Pos} (h : Evs C sc n ρ es fun ps => φ (.list ps) ∧ ps.length ≤ sizeLine) : Ev C sc n ρ (.List es pos) φ := by
  intro env A s Q E hs hp hr ho hn q
  refine List_ (h env A s _ E pos hs hp hr ho hn fun h1 t1 vs ps hq k1 r1 => ?_)
  refine wpAny_newObj_type ?_ (by show vs.toArray.size ≤ sizeLine; rw [List.size_toArray, r1.length]; exact hq.2)
  exact q _ _ _ _ hq.1 (k1.trans (.push _ _)) (.list (isList_new h1 vs.toArray) (r1.keep (.push _ _)))

/-- a def of the text's top, called with ps -/
def CallOK (C : Cx) (n : Nat) (x : String) (ps : List PV) (φ : PV → Prop) : Prop :=
  ∀ (f : Addr), nsIn C.K mainGlobals (Str.ofString x) = some (some (.ref f)) → ∀ (A : Around) (s : Shared) (Q : Value → Shared → Prop) (E : Value → Shared → Prop) (vs : List Value), Room n A → Ok C s.heap → Reps s.heap vs ps →
    (∀ h' tk' v p, φ p → Keep s.heap h' → Rep h' v p → Q v { s with heap := h', toks := tk' }) → wpAny C.M A (call (.ref f) vs) Q E s
theorem CallOK.mono {x : String} {ps : List PV} {ψ : PV → Prop} (h : CallOK C n x ps φ) (hi : ∀ p, φ p → ψ p) : CallOK C n x ps ψ :=
  fun f hf A s Q E vs hr ho r k => h f hf A s Q E vs hr ho r fun h' tk' v p hp => k h' tk' v p (hi p hp)
theorem CallOK.room {x : String} {ps : List PV} {k : Nat} (h : CallOK C k x ps φ) (hk : k ≤ n) : CallOK C n x ps φ :=
  fun f hf A s Q E vs hr ho r q => h f hf A s Q E vs (hr.mono hk) ho r q

def IsDef (C : Cx) (x : String) : Prop := ∃ f, nsIn C.K mainGlobals (Str.ofString x) = some (some (.ref f)) ∧ keepIn C.K (.ref f) = true

theorem Ev.call {x : String} {e : Expr} {es : List Expr} {p1 pos : Pos} (hd : IsDef C x) (hx : sc.names.lookup (Str.ofString x) = some .globalImplicit)
    (h : Evs C sc n ρ (e :: es) fun ps => CallOK C n x ps φ)
    (hn : (Str.ofString x == ("__debug__" : Str)) = false := by decide)
    (he : ∀ env, starEach (e :: es) env = (false, eval e env) :: starEach es env := by intro _; rfl) (hpl : ∀ pos env, (backTo pos (starEach es env)).any (·.1) = false := by intro _ _; rfl) :
    Ev C sc n ρ (.Call (.Name (Str.ofString x) p1) (e :: es) [] pos) φ := by
  intro env A s Q E hs hp hr ho hnm k
  obtain ⟨f, hf, hk⟩ := hd
  refine wpAny_Call_Name_kw ?_
  subst hs
  refine Name_function_global hp.k hx (loadGlobal_global (mg := C.mg) (hp.g ▸ ho.T.g) (mg_of ho.X ho.T.g hf) ?_) hn
  show wpAny C.M A (callWith pos (.ref f) [] (backTo pos (starEach (e :: es) env)) []) Q E s
  refine callWith_K ho.X hk ?_ (he env) (hpl pos env)
  refine h env A s _ E pos rfl hp hr ho hnm fun h1 t1 vs ps hq k1 r1 => ⟨(ho.keep k1).X, ?_⟩
  exact hq f hf A _ _ E vs hr (ho.keep k1) r1 fun h2 t2 v p hq2 k2 r2 => k h2 t2 v p hq2 (k1.trans k2) r2
end
abbrev PV.nums (l : List Int) : PV := .tup (l.map .int)
section
variable {C : Cx} {φ : PV → Prop} {a b : Int}

theorem s_add (h : φ (.int (a + b))) : Step2 C (binaryOp .Add) (.int a) (.int b) φ := by
  intro A s Q E v u ho hh hu rv ru k; cases rv; cases ru
  exact PyProof.Rows.add_int (k _ _ _ _ h (.refl _) (.int _ _))
theorem s_sub (h : φ (.int (a - b))) : Step2 C (binaryOp .Sub) (.int a) (.int b) φ := by
  intro A s Q E v u ho hh hu rv ru k; cases rv; cases ru
  exact PyProof.Rows.sub_int (k _ _ _ _ h (.refl _) (.int _ _))
theorem s_mul (h : φ (.int (a * b))) (hm : Builtin.Int.intBits a + Builtin.Int.intBits b ≤ 134217728) : Step2 C (binaryOp .Mult) (.int a) (.int b) φ := by
  intro A s Q E v u ho hh hu rv ru k; cases rv; cases ru
  exact PySem.AutoIntOps.mul_0 (k _ _ _ _ h (.refl _) (.int _ _)) (IntMulOk.of_le (Nat.le_refl _) (Nat.le_refl _) hm)
theorem s_mod (hb : b ≠ 0) (h : φ (.int (a.fmod b))) : Step2 C (binaryOp .Mod) (.int a) (.int b) φ := by
  intro A s Q E v u ho hh hu rv ru k; cases rv; cases ru
  exact PyProof.Rows.mod_int hb (k _ _ _ _ h (.refl _) (.int _ _))
theorem s_div (hb : b ≠ 0) (hs : b.natAbs < 1073741824) (h : φ (.int (a.fdiv b))) : Step2 C (binaryOp .FloorDiv) (.int a) (.int b) φ := by
  intro A s Q E v u ho hh hu rv ru k; cases rv; cases ru
  exact PySem.AutoIntOps.floordiv_1 (by simpa using hb) (by rw [PyProof.noPylong_small hs]; decide) (k _ _ _ _ h (.refl _) (.int _ _))
theorem s_shl (hn : 0 ≤ b) (hs : (Builtin.Int.intBits a : Int) + b ≤ 134217728) (h : φ (.int (a * 2 ^ b.toNat))) : Step2 C (binaryOp .LShift) (.int a) (.int b) φ := by
  intro A s Q E v u ho hh hu rv ru k; cases rv; cases ru
  exact PyProof.Rows.lshift_int hn (by simpa using hs) (k _ _ _ _ h (.refl _) (.int _ _))
theorem s_shr (hn : 0 ≤ b) (h : φ (.int (a.fdiv (2 ^ b.toNat)))) : Step2 C (binaryOp .RShift) (.int a) (.int b) φ := by
  intro A s Q E v u ho hh hu rv ru k; cases rv; cases ru
  exact PyProof.Rows.rshift_int hn (k _ _ _ _ h (.refl _) (.int _ _))
theorem s_and (h : φ (.int (Builtin.bitAnd a b))) : Step2 C (binaryOp .BitAnd) (.int a) (.int b) φ := by
  intro A s Q E v u ho hh hu rv ru k; cases rv; cases ru
  exact PyProof.Rows.and_int (k _ _ _ _ h (.refl _) (.int _ _))
theorem s_xor (h : φ (.int (Builtin.bitXor a b))) : Step2 C (binaryOp .BitXor) (.int a) (.int b) φ := by
  intro A s Q E v u ho hh hu rv ru k; cases rv; cases ru
  exact PyProof.Rows.xor_int (k _ _ _ _ h (.refl _) (.int _ _))
theorem i_add (h : φ (.int (a + b))) : Step2 C (inplaceOp .Add) (.int a) (.int b) φ := by
  intro A s Q E v u ho hh hu rv ru k; cases rv; cases ru
  exact PyProof.Rows.iadd_int (k _ _ _ _ h (.refl _) (.int _ _))
theorem i_sub (h : φ (.int (a - b))) : Step2 C (inplaceOp .Sub) (.int a) (.int b) φ := by
  intro A s Q E v u ho hh hu rv ru k; cases rv; cases ru
  exact PyProof.Rows.isub_int (k _ _ _ _ h (.refl _) (.int _ _))
theorem i_mul (h : φ (.int (a * b))) (hm : Builtin.Int.intBits a + Builtin.Int.intBits b ≤ 134217728) : Step2 C (inplaceOp .Mult) (.int a) (.int b) φ := by
  intro A s Q E v u ho hh hu rv ru k; cases rv; cases ru
  exact PySem.AutoIntOps.imul_0 (k _ _ _ _ h (.refl _) (.int _ _)) (IntMulOk.of_le (Nat.le_refl _) (Nat.le_refl _) hm)
theorem i_shl (hn : 0 ≤ b) (hs : (Builtin.Int.intBits a : Int) + b ≤ 134217728) (h : φ (.int (a * 2 ^ b.toNat))) : Step2 C (inplaceOp .LShift) (.int a) (.int b) φ := by
  intro A s Q E v u ho hh hu rv ru k; cases rv; cases ru
  exact PyProof.Rows.ilshift_int hn (by simpa using hs) (k _ _ _ _ h (.refl _) (.int _ _))
theorem i_shr (hn : 0 ≤ b) (h : φ (.int (a.fdiv (2 ^ b.toNat)))) : Step2 C (inplaceOp .RShift) (.int a) (.int b) φ := by
  intro A s Q E v u ho hh hu rv ru k; cases rv; cases ru
  exact PyProof.Rows.irshift_int hn (k _ _ _ _ h (.refl _) (.int _ _))
theorem i_xor (h : φ (.int (Builtin.bitXor a b))) : Step2 C (inplaceOp .BitXor) (.int a) (.int b) φ := by
  intro A s Q E v u ho hh hu rv ru k; cases rv; cases ru
  exact PyProof.Rows.ixor_int (k _ _ _ _ h (.refl _) (.int _ _))
/-- (-1) ** n, n a sign -/
theorem s_pow_neg1 (hb : b = 0 ∨ b = 1) (h : φ (.int (if b = 0 then 1 else -1))) : Step2 C (binaryOp .Pow) (.int (-1)) (.int b) φ := by
  intro A s Q E v u ho hh hu rv ru k; cases rv; cases ru
  rcases hb with rfl | rfl
  · exact PySem.AutoIntOps.pow_0 (by decide) (by decide) (k _ _ _ _ h (.refl _) (.int _ _))
  · exact PySem.AutoIntOps.pow_2 (by decide) (by decide) (by decide) (by decide) (k _ _ _ _ h (.refl _) (.int _ _))
/-- 2 ** n -/
theorem s_pow2 (hb : 0 ≤ b) (hs : b ≤ 1000000) (h : φ (.int (2 ^ b.toNat))) : Step2 C (binaryOp .Pow) (.int 2) (.int b) φ := by
  intro A s Q E v u ho hh hu rv ru k; cases rv; cases ru
  by_cases h0 : b = 0
  · subst h0
    exact PySem.AutoIntOps.pow_0 (by decide) (by decide) (k _ _ _ _ h (.refl _) (.int _ _))
  · refine PySem.AutoIntOps.pow_4 hb (by simpa using h0) (by decide) (by decide) ?_ (k _ _ _ _ h (.refl _) (.int _ _))
    have e : Builtin.Int.intBits 2 = 2 := by decide +kernel
    rw [e]
    unfold Builtin.Int.intTooBig bitsLine
    simp only [decide_eq_true_eq]
    omega

theorem c_eq (h : φ (.bool (decide (a = b)))) : Step2 C (compareOp .Eq) (.int a) (.int b) φ := by
  intro A s Q E v u ho hh hu rv ru k; cases rv; cases ru
  exact PyProof.Rows.eq_int (k s.heap s.toks _ _ h (.refl _) (by rw [show (a == b) = decide (a = b) from rfl]; exact .bool _))
theorem c_ne (h : φ (.bool (!decide (a = b)))) : Step2 C (compareOp .NotEq) (.int a) (.int b) φ := by
  intro A s Q E v u ho hh hu rv ru k; cases rv; cases ru
  exact PyProof.Rows.ne_int (k s.heap s.toks _ _ h (.refl _) (by rw [show (a != b) = !decide (a = b) from rfl]; exact .bool _))
theorem c_lt (h : φ (.bool (decide (a < b)))) : Step2 C (compareOp .Lt) (.int a) (.int b) φ := by
  intro A s Q E v u ho hh hu rv ru k; cases rv; cases ru
  exact PyProof.Rows.lt_int (k s.heap s.toks _ _ h (.refl _) (.bool _))
theorem c_le (h : φ (.bool (decide (a ≤ b)))) : Step2 C (compareOp .LtE) (.int a) (.int b) φ := by
  intro A s Q E v u ho hh hu rv ru k; cases rv; cases ru
  exact PyProof.Rows.le_int (k s.heap s.toks _ _ h (.refl _) (.bool _))
theorem c_gt (h : φ (.bool (decide (b < a)))) : Step2 C (compareOp .Gt) (.int a) (.int b) φ := by
  intro A s Q E v u ho hh hu rv ru k; cases rv; cases ru
  exact PyProof.Rows.gt_int (k s.heap s.toks _ _ h (.refl _) (.bool _))
theorem c_ge (h : φ (.bool (decide (b ≤ a)))) : Step2 C (compareOp .GtE) (.int a) (.int b) φ := by
  intro A s Q E v u ho hh hu rv ru k; cases rv; cases ru
  exact PyProof.Rows.ge_int (k s.heap s.toks _ _ h (.refl _) (.bool _))
theorem c_eqs {x y : Str} (h : φ (.bool (decide (x = y)))) : Step2 C (compareOp .Eq) (.str x) (.str y) φ := by
  intro A s Q E v u ho hh hu rv ru k; cases rv; cases ru
  exact PyProof.Rows.eq_str (k s.heap s.toks _ _ h (.refl _) (by rw [show (x == y) = decide (x = y) from rfl]; exact .bool _))

theorem reads_ints {h : Heap} (l : List Int) : ∀ {vs : List Value}, Reps h vs (l.map .int) → ReadsAll h vs (l.map .int) [] := by
  induction l with
  | nil => intro vs r; cases r; exact .nil
  | cons a l ih =>
    intro vs r
    cases r with
    | cons r rs => cases r; exact ReadsAll.cons (.int _ _) (ih rs)
theorem reads_nums {h : Heap} {v : Value} {l : List Int} (r : Rep h v (.nums l)) : Reads h v (.tuple (l.map .int)) [] := by
  cases r with
  | tup x rs =>
    obtain ⟨o, ho, hc, n, hd⟩ := x
    exact .tuple ho hc hd (reads_ints l rs)
theorem shaped_nums (l : List Int) : SeqAt.shaped (.tuple (l.map .int)) = true := by
  unfold SeqAt.shaped
  have e1 : PyData.canLay0 (.tuple (l.map .int)) = true := by
    unfold PyData.canLay0
    exact ke_canLayAll0 _
  have e2 : PyData.depth (.tuple (l.map .int)) ≤ 64 := by
    unfold PyData.depth
    have := ke_depthAll l
    omega
  rw [e1, decide_eq_true e2]; rfl
theorem c_eqt {l m : List Int} (h : φ (.bool (decide (l = m)))) : Step2 C (compareOp .Eq) (.nums l) (.nums m) φ := by
  intro A s Q E v u ho hh hu rv ru k
  refine eq_dataH (reads_nums rv) (reads_nums ru) (shaped_nums _) (shaped_nums _) hu ?_
  rw [PyData.eqv, ked_eqvAll]
  exact k s.heap s.toks _ _ h (.refl _) (.bool _)
theorem c_net {l m : List Int} (h : φ (.bool (!decide (l = m)))) : Step2 C (compareOp .NotEq) (.nums l) (.nums m) φ := by
  intro A s Q E v u ho hh hu rv ru k
  refine ne_dataH (reads_nums rv) (reads_nums ru) (shaped_nums _) (shaped_nums _) hu ?_
  rw [PyData.eqv, ked_eqvAll]
  exact k s.heap s.toks _ _ h (.refl _) (.bool _)
end
structure St (C : Cx) (env : Env) (h₀ h : Heap) (ρ : Loc) : Prop where
  fr : ∃ m, Fr h₀ env.locals h m
  ok : Ok C h₀
  names : Names env h ρ
theorem St.keep₀ {C : Cx} {env : Env} {h₀ h : Heap} {ρ : Loc} (x : St C env h₀ h ρ) : Keep h₀ h := let ⟨_, F⟩ := x.fr; F.keep
theorem St.okh {C : Cx} {env : Env} {h₀ h : Heap} {ρ : Loc} (x : St C env h₀ h ρ) : Ok C h := x.ok.keep x.keep₀
theorem St.keep {C : Cx} {env : Env} {h₀ h h' : Heap} {ρ : Loc} (x : St C env h₀ h ρ) (k : Keep h h') : St C env h₀ h' ρ :=
  ⟨let ⟨m, F⟩ := x.fr; ⟨m, F.ns.keeps k, fun b o e => k b o (F.keep b o e), F.above⟩, x.ok, x.names.keep k⟩
/-- only the frame's own names turned -/
theorem Names.store {env : Env} {h h' : Heap} {ρ : Loc} {x : String} {v : Value} {p : PV} {m : Str → Option Value} (n : Names env h ρ) (hk : env.kindOf (Str.ofString x) = some .local) (hm : h.Ns env.locals m)
    (hn : h'.Ns env.locals (fun y => if y = Str.ofString x then some v else m y)) (hs : Heap.SameBut env.locals h h') (hd : (Str.ofString x == Str.ofString "__debug__") = false) (r : Rep h v p) : Names env h' ((x, p) :: ρ) := by
  have sk : SeqKeep h h' := SeqKeep.extBut hm hs.extBut
  intro y q hq
  unfold look at hq
  rw [List.lookup_cons] at hq
  by_cases e : y = x
  · subst e
    simp only [beq_self_eq_true] at hq
    cases hq
    exact ⟨hd, v, .loc _ hk hn (by simp), r.sk sk⟩
  · have hb : (y == x) = false := by simpa using e
    rw [hb] at hq
    obtain ⟨hd', u, hv, hr⟩ := n y q hq
    refine ⟨hd', u, ?_, hr.sk sk⟩
    cases hv with
    | loc m₂ a b c =>
      refine .loc _ a hn ?_
      have ne : Str.ofString y ≠ Str.ofString x := fun q => e (ofString_inj q)
      simp only [ne, if_false]
      rw [hm.agree b]; exact c
    | cell c a b d =>
      refine .cell c a b ?_
      obtain ⟨o, ho, hdat⟩ := d
      refine ⟨o, hs.extBut c o ?_ ho, hdat⟩
      rintro rfl
      obtain ⟨o', es, ep, ho', hd'', _⟩ := hm
      rw [ho] at ho'; cases ho'; rw [hdat] at hd''; cases hd''

/-- all but the frame's names and cells stands -/
def KeepF (env : Env) (h h' : Heap) : Prop := ∀ b o, b ≠ env.locals → (∀ v, o.data ≠ .cell v) → h.get? b = some o → h'.get? b = some o
theorem KeepF.refl (env : Env) (h : Heap) : KeepF env h h := fun _ _ _ _ e => e
theorem KeepF.trans {env : Env} {a b c : Heap} (x : KeepF env a b) (y : KeepF env b c) : KeepF env a c := fun i o h1 h2 e => y i o h1 h2 (x i o h1 h2 e)
theorem Keep.f {env : Env} {a b : Heap} (x : Keep a b) : KeepF env a b := fun i o _ _ e => x i o e
theorem KeepF.same {env : Env} {a b : Heap} (x : Heap.SameBut env.locals a b) : KeepF env a b := fun i o h _ e => x.extBut i o h e

inductive Out where
  | next (ρ : Loc)
  | ret (p : PV)

def Ex (C : Cx) (sc : Scope) (n : Nat) (ρ : Loc) (ss : List Stmt) (Φ : Out → Prop) : Prop :=
  ∀ (env : Env) (A : Around) (h₀ : Heap) (s : Shared) (Q : Flow → Shared → Prop) (E : Value → Shared → Prop), env.scope = sc → Plain env → Room n A → St C env h₀ s.heap ρ →
    (∀ h' tk' ρ', Φ (.next ρ') → St C env h₀ h' ρ' → KeepF env s.heap h' → Q .next { s with heap := h', toks := tk' }) →
    (∀ h' tk' v p, Φ (.ret p) → Keep h₀ h' → Rep h' v p → Q (.ret v) { s with heap := h', toks := tk' }) → wpAny C.M A (execs ss env) Q E s
def Ex1 (C : Cx) (sc : Scope) (n : Nat) (ρ : Loc) (st : Stmt) (Φ : Out → Prop) : Prop :=
  ∀ (env : Env) (A : Around) (h₀ : Heap) (s : Shared) (Q : Flow → Shared → Prop) (E : Value → Shared → Prop), env.scope = sc → Plain env → Room n A → St C env h₀ s.heap ρ →
    (∀ h' tk' ρ', Φ (.next ρ') → St C env h₀ h' ρ' → KeepF env s.heap h' → Q .next { s with heap := h', toks := tk' }) →
    (∀ h' tk' v p, Φ (.ret p) → Keep h₀ h' → Rep h' v p → Q (.ret v) { s with heap := h', toks := tk' }) → wpAny C.M A (exec st env) Q E s

section
variable {C : Cx} {sc : Scope} {n : Nat} {ρ : Loc} {Φ : Out → Prop}
theorem Ex.mono {ss : List Stmt} {Ψ : Out → Prop} (h : Ex C sc n ρ ss Φ) (hi : ∀ o, Φ o → Ψ o) : Ex C sc n ρ ss Ψ :=
  fun env A h₀ s Q E h1 h2 h3 h4 k1 k2 => h env A h₀ s Q E h1 h2 h3 h4 (fun h' tk' ρ' hp a b => k1 h' tk' ρ' (hi _ hp) a b) fun h' tk' v p hp => k2 h' tk' v p (hi _ hp)
theorem Ex.nil (h : Φ (.next ρ)) : Ex C sc n ρ [] Φ :=
  fun env A h₀ s Q E hs hp hr hst k1 k2 => wpAny_execs_nil (k1 s.heap s.toks ρ h hst (.refl _ _))
theorem Ex.cons {st : Stmt} {ss : List Stmt} (h : Ex1 C sc n ρ st fun o => (∀ ρ', o = .next ρ' → Ex C sc n ρ' ss Φ) ∧ (∀ p, o = .ret p → Φ (.ret p))) : Ex C sc n ρ (st :: ss) Φ := by
  intro env A h₀ s Q E hs hp hr hst k1 k2
  refine wpAny_execs_cons (h env A h₀ s _ E hs hp hr hst (fun h' tk' ρ' hq hst' kf => ?_) fun h' tk' v p hq hk hrep => ?_)
  · exact hq.1 ρ' rfl env A h₀ { s with heap := h', toks := tk' } Q E hs hp hr hst' (fun h2 t2 ρ2 a b c => k1 h2 t2 ρ2 a b (kf.trans c)) fun h2 t2 v p a b c => k2 h2 t2 v p a b c
  · exact k2 h' tk' v p (hq.2 p rfl) hk hrep

theorem Ex1.ret {e : Expr} {pos : Pos} (h : Ev C sc n ρ e fun p => Φ (.ret p)) : Ex1 C sc n ρ (.Return (some e) pos) Φ := by
  intro env A h₀ s Q E hs hp hr hst k1 k2
  refine wpAny_Return_some (h env A s _ E hs hp hr hst.okh hst.names fun h1 t1 v p hq kk rr => ?_)
  exact k2 h1 t1 v p hq (hst.keep₀.trans kk) rr
theorem Ex1.ite {test : Expr} {body orelse : List Stmt} {pos : Pos} (h : Ts C sc n ρ test fun b => (b = true → Ex C sc n ρ body Φ) ∧ (b = false → Ex C sc n ρ orelse Φ)) : Ex1 C sc n ρ (.If test body orelse pos) Φ := by
  intro env A h₀ s Q E hs hp hr hst k1 k2
  refine wpAny_If (h env A s _ E hs hp hr hst.okh hst.names fun h1 t1 b hb kk => ?_)
  cases b with
  | true => simp only [if_true]; exact hb.1 rfl env A h₀ { s with heap := h1, toks := t1 } Q E hs hp hr (hst.keep kk) (fun h2 t2 ρ2 a b c => k1 h2 t2 ρ2 a b (kk.f.trans c)) fun h2 t2 v p a b c => k2 h2 t2 v p a b c
  | false => rw [if_neg (by decide)]; exact hb.2 rfl env A h₀ { s with heap := h1, toks := t1 } Q E hs hp hr (hst.keep kk) (fun h2 t2 ρ2 a b c => k1 h2 t2 ρ2 a b (kk.f.trans c)) fun h2 t2 v p a b c => k2 h2 t2 v p a b c
theorem Ex1.assert {test : Expr} {msg : Option Expr} {pos : Pos} (h : Ts C sc n ρ test fun b => b = true ∧ Φ (.next ρ)) : Ex1 C sc n ρ (.Assert test msg pos) Φ := by
  intro env A h₀ s Q E hs hp hr hst k1 k2
  refine wpAny_Assert_holds (h env A s _ E hs hp hr hst.okh hst.names fun h1 t1 b hb kk => ⟨hb.1, ?_⟩)
  exact k1 h1 t1 ρ hb.2 (hst.keep kk) kk.f

theorem notClassModule {env : Env} (hp : Plain env) : (env.scope.kind == .class || (env.scope.kind == .module && env.locals != env.globals)) = false := by
  rw [hp.k]; rfl
theorem store_ {env : Env} {A : Around} {h₀ : Heap} {s : Shared} {Q : Unit → Shared → Prop} {E : Value → Shared → Prop} {x : String} {v : Value} {p : PV} (hs : env.scope = sc) (hp : Plain env) (hst : St C env h₀ s.heap ρ)
    (hk : sc.names.lookup (Str.ofString x) = some .local) (hd : (Str.ofString x == Str.ofString "__debug__") = false) (r : Rep s.heap v p)
    (k : ∀ h' tk', St C env h₀ h' ((x, p) :: ρ) → SeqKeep s.heap h' → KeepF env s.heap h' → Q () { s with heap := h', toks := tk' }) : wpAny C.M A (storeName env (Str.ofString x) v) Q E s := by
  obtain ⟨m, F⟩ := hst.fr
  subst hs
  refine wpAny_storeName_local hk F.ns (fun h' hn hsb => k h' _ ⟨⟨_, F.set hn hsb⟩, hst.ok, ?_⟩ (SeqKeep.extBut F.ns hsb.extBut) (.same hsb)) (notClassModule hp)
  exact hst.names.store hk F.ns hn hsb hd r

theorem Ex1.assign {x : String} {pos' pos : Pos} {value : Expr} (h : Ev C sc n ρ value fun p => Φ (.next ((x, p) :: ρ))) (hk : sc.names.lookup (Str.ofString x) = some .local := by rfl)
    (hsw : ∀ env : Env, swapsWith value (some (.Name (Str.ofString x) pos')) pos.line env = pure false := by intro _; rfl) (hd : (Str.ofString x == Str.ofString "__debug__") = false := by decide) :
    Ex1 C sc n ρ (.Assign [.Name (Str.ofString x) pos'] value pos) Φ := by
  intro env A h₀ s Q E hs hp hr hst k1 k2
  refine wpAny_Assign_Name (h env A s _ E hs hp hr hst.okh hst.names fun h1 t1 v p hq kk rr => ?_) (hsw env)
  exact store_ hs hp (hst.keep kk) hk hd rr fun h2 t2 hst2 _ kf => k1 h2 t2 _ hq hst2 (kk.f.trans kf)

theorem Ex1.aug {x : String} {pos' pos : Pos} {op : Operator} {value : Expr} {p0 : PV} (hx : look ρ x = some p0) (h : Ev C sc n ρ value fun q => Step2 C (inplaceOp op) p0 q fun p => Φ (.next ((x, p) :: ρ)))
    (hk : sc.names.lookup (Str.ofString x) = some .local := by rfl) (hd : (Str.ofString x == Str.ofString "__debug__") = false := by decide) :
    Ex1 C sc n ρ (.AugAssign (.Name (Str.ofString x) pos') op value pos) Φ := by
  intro env A h₀ s Q E hs hp hr hst k1 k2
  obtain ⟨_, v0, hv0, hr0⟩ := hst.names x p0 hx
  have hk' : env.kindOf (Str.ofString x) = some .local := by rw [← hs] at hk; exact hk
  refine wpAny_AugAssign_Name ?_
  cases hv0 with
  | cell c a b d => rw [hk'] at a; cases a
  | loc m a b c =>
    refine wpAny_loadName_local hp.k a b c (h env A s _ E hs hp hr hst.okh hst.names fun h1 t1 u q hq kk rr => ?_)
    refine hq A _ _ E v0 u (hst.keep kk).okh hr.hh (by have := hr.u; omega) (hr0.keep kk) rr fun h2 t2 w p hp2 k2' r2 => ?_
    exact store_ hs hp ((hst.keep kk).keep k2') hk hd r2 fun h3 t3 hst3 _ kf => k1 h3 t3 _ hp2 hst3 ((kk.trans k2').f.trans kf)

/-- names stored one after the other -/
def putAll (ρ : Loc) : List String → List PV → Loc
  | x :: xs, p :: ps => putAll ((x, p) :: ρ) xs ps
  | _, _ => ρ
theorem storeEach {env : Env} {A : Around} {h₀ : Heap} {E : Value → Shared → Prop} (hs : env.scope = sc) (hp : Plain env) : ∀ (xs : List String) (ts : List (Value → Sem Unit)) (vs : List Value) (ps : List PV) (ρ : Loc) (s : Shared) (Q : Unit → Shared → Prop),
    (∀ t ∈ xs.zip ts, ∀ (v : Value) (s : Shared) (Q : Unit → Shared → Prop), wpAny C.M A (storeName env (Str.ofString t.1) v) Q E s → wpAny C.M A (t.2 v) Q E s) → xs.length = ts.length → vs.length = ps.length → ps.length = xs.length →
    (∀ x ∈ xs, sc.names.lookup (Str.ofString x) = some .local ∧ (Str.ofString x == Str.ofString "__debug__") = false) → St C env h₀ s.heap ρ → Reps s.heap vs ps →
    (∀ h' tk', St C env h₀ h' (putAll ρ xs ps) → KeepF env s.heap h' → Q () { s with heap := h', toks := tk' }) → wpAny C.M A (assignInOrder ts vs) Q E s
  | [], [], [], [], ρ, s, Q, _, _, _, _, _, hst, _, k => wpAny_pure (k s.heap s.toks hst (.refl _ _))
  | x :: xs, t :: ts, v :: vs, p :: ps, ρ, s, Q, ht, h1, h2, h3, hx, hst, hrep, k => by
    cases hrep with
    | cons r rs =>
      show wpAny C.M A (holding vs (t v) >>= fun _ => assignInOrder ts vs) Q E s
      refine wpAny_bind (wpAny_holding (ht (x, t) (.head _) v s _ ?_))
      refine store_ hs hp hst (hx x (.head _)).1 (hx x (.head _)).2 r fun h' tk' hst' sk kf => ?_
      exact storeEach hs hp xs ts vs ps _ { s with heap := h', toks := tk' } Q (fun t' h' => ht t' (.tail _ h')) (by simpa using h1) (by simpa using h2) (by simpa using h3) (fun y hy => hx y (.tail _ hy)) hst' (rs.sk sk) fun h2 t2 hst2 kf2 => k h2 t2 hst2 (kf.trans kf2)
  | [], _ :: _, _, _, _, _, _, _, h, _, _, _, _, _, _ => by simp at h
  | _ :: _, [], _, _, _, _, _, _, h, _, _, _, _, _, _ => by simp at h
  | [], [], _ :: _, [], _, _, _, _, _, h, _, _, _, _, _ => by simp at h
  | [], [], _, _ :: _, _, _, _, _, _, _, h, _, _, _, _ => by simp at h
  | _ :: _, _ :: _, [], _ :: _, _, _, _, _, _, h, _, _, _, _, _ => by simp at h
  | _ :: _, _ :: _, _, [], _, _, _, _, _, _, h, _, _, _, _ => by simp at h
end
inductive NamesOf : List Expr → List String → Prop
  | nil : NamesOf [] []
  | cons {x : String} {pos : Pos} {es : List Expr} {xs : List String} : NamesOf es xs → NamesOf (.Name (Str.ofString x) pos :: es) (x :: xs)

theorem NamesOf.len {env : Env} {es : List Expr} {xs : List String} (h : NamesOf es xs) : (assignEach es env).length = xs.length := by
  induction h with
  | nil => rfl
  | cons _ ih => simp only [assignEach, List.length_cons, ih]
theorem NamesOf.star {env : Env} {es : List Expr} {xs : List String} (h : NamesOf es xs) : (assignEach es env).findIdx? (·.1) = none := by
  induction h with
  | nil => rfl
  | cons _ ih => simp only [assignEach, List.findIdx?_cons, ih]; rfl
theorem NamesOf.does {M : Model} {A : Around} {E : Value → Shared → Prop} {env : Env} {es : List Expr} {xs : List String} (h : NamesOf es xs) :
    ∀ t ∈ xs.zip ((assignEach es env).map (·.2)), ∀ (v : Value) (s : Shared) (Q : Unit → Shared → Prop), wpAny M A (storeName env (Str.ofString t.1) v) Q E s → wpAny M A (t.2 v) Q E s := by
  induction h with
  | nil => intro t ht; cases ht
  | cons _ ih =>
    intro t ht
    simp only [assignEach, List.map_cons, List.zip_cons_cons, List.mem_cons] at ht
    rcases ht with rfl | ht
    · intro v s Q hq
      exact PyProof.Rows.assign_Name hq
    · exact ih t ht

theorem keep_of_ext {h h' : Heap} (x : Heap.ExtBut h.objs.size h h') : Keep h h' := fun b o e => x b o (Nat.ne_of_lt (Heap.lt_size e)) e

section
variable {C : Cx} {sc : Scope} {n : Nat} {ρ : Loc} {Φ : Out → Prop}

theorem unpack_ {A : Around} {s : Shared} {E : Value → Shared → Prop} {Q : List Value → Shared → Prop} {v : Value} {p : PV} {ps : List PV} {k : Nat} (hh : A.handled = none) (hp : p = .tup ps ∨ p = .list ps) (hl : ps.length = k)
    (r : Rep s.heap v p) (hQ : ∀ h' vs, Keep s.heap h' → Reps h' vs ps → Q vs { s with heap := h' }) : wpAny C.M A (unpackItems v k none) Q E s := by
  subst hl
  rcases hp with rfl | rfl
  · cases r with
    | tup x rs =>
      rename_i a0 vs0
      have e : ps.length = vs0.toArray.size := by rw [List.size_toArray]; exact rs.length.symm
      rw [e]
      refine unpackItems_tuple hh x fun h' he => ?_
      have k := keep_of_ext he
      exact hQ h' _ k (rs.keep k)
  · cases r with
    | list x rs =>
      rename_i a0 vs0
      have e : ps.length = vs0.toArray.size := by rw [List.size_toArray]; exact rs.length.symm
      rw [e]
      refine kun_itemsOf hh x fun h' he => ?_
      have k := keep_of_ext he
      exact hQ h' _ k (rs.keep k)

theorem Ex1.unpack {elts : List Expr} {xs : List String} {k : Nat} {tpos pos : Pos} {value : Expr} (hx : NamesOf elts xs)
    (h : Ev C sc n ρ value fun p => ∃ ps, (p = .tup ps ∨ p = .list ps) ∧ ps.length = xs.length ∧ Φ (.next (putAll ρ xs ps)))
    (hl : ∀ x ∈ xs, sc.names.lookup (Str.ofString x) = some .local ∧ (Str.ofString x == Str.ofString "__debug__") = false)
    (hs : ∀ env : Env, swapsWithSole [.Tuple elts k tpos] value pos.line env = pure false)
    (hw : ∀ env : Env, env.scope = sc → swappedStores [.Tuple elts k tpos] value env = pure none) : Ex1 C sc n ρ (.Assign [.Tuple elts k tpos] value pos) Φ := by
  intro env A h₀ s Q E hsc hp hr hst k1 k2
  refine Assign_Tuple (h env A s _ E hsc hp hr hst.okh hst.names fun h1 t1 v p hq kk rr => ?_) (hs env) (hw env hsc)
  obtain ⟨ps, hps, hlen, hΦ⟩ := hq
  rw [assign_Tuple]
  refine wpAny_bind (wpAny_standAt ?_)
  unfold PySem.unpack
  rw [hx.len, hx.star]
  refine wpAny_bind (wpAny_holding (unpack_ hr.hh hps hlen rr fun h2 vs kk2 rs => ?_))
  refine storeEach hsc hp xs _ vs ps ρ { s with heap := h2, toks := t1 } _ hx.does ?_ rs.length hlen hl ((hst.keep kk).keep kk2) rs fun h3 t3 hst3 kf => k1 h3 t3 _ hΦ hst3 ((kk.trans kk2).f.trans kf)
  rw [List.length_map, hx.len]

theorem names_does {M : Model} {A : Around} {E : Value → Shared → Prop} {env : Env} : ∀ {xs : List String},
    ∀ t ∈ xs.zip (xs.map fun x => bindName env (Str.ofString x)), ∀ (v : Value) (s : Shared) (Q : Unit → Shared → Prop), wpAny M A (storeName env (Str.ofString t.1) v) Q E s → wpAny M A (t.2 v) Q E s
  | [], _, h => by cases h
  | x :: xs, t, h => by
    simp only [List.map_cons, List.zip_cons_cons, List.mem_cons] at h
    rcases h with rfl | h
    · intro v s Q hq; exact wpAny_bindName hq
    · exact names_does t h
theorem Reps.reverse {h : Heap} : ∀ {vs : List Value} {ps : List PV}, Reps h vs ps → Reps h vs.reverse ps.reverse := by
  have app : ∀ {a : List Value} {b : List PV} {c : List Value} {d : List PV}, Reps h a b → Reps h c d → Reps h (a ++ c) (b ++ d) := by
    intro a
    induction a with
    | nil => intro b c d h1 h2; cases h1; exact h2
    | cons x a ih => intro b c d h1 h2; cases h1 with | cons r rs => exact .cons r (ih rs h2)
  intro vs
  induction vs with
  | nil => intro ps h1; cases h1; exact .nil
  | cons x a ih => intro ps h1; cases h1 with | cons r rs => rw [List.reverse_cons, List.reverse_cons]; exact app (ih rs) (.cons r .nil)

theorem Ex1.swap {elts : List Expr} {xs : List String} {k : Nat} {tpos pos : Pos} {value : Expr}
    (h : Ev C sc n ρ value fun p => ∃ ps, (p = .tup ps ∨ p = .list ps) ∧ ps.length = xs.length ∧ Φ (.next (putAll ρ xs.reverse ps.reverse)))
    (hl : ∀ x ∈ xs, sc.names.lookup (Str.ofString x) = some .local ∧ (Str.ofString x == Str.ofString "__debug__") = false)
    (hs : ∀ env : Env, swapsWithSole [.Tuple elts k tpos] value pos.line env = pure false)
    (hw : ∀ env : Env, env.scope = sc → swappedStores [.Tuple elts k tpos] value env = pure (some (xs.map Str.ofString))) : Ex1 C sc n ρ (.Assign [.Tuple elts k tpos] value pos) Φ := by
  intro env A h₀ s Q E hsc hp hr hst k1 k2
  refine Assign_Tuple_swapped (h env A s _ E hsc hp hr hst.okh hst.names fun h1 t1 v p hq kk rr => ?_) (hs env) (hw env hsc)
  obtain ⟨ps, hps, hlen, hΦ⟩ := hq
  rw [List.length_map]
  refine unpack_ hr.hh hps hlen rr fun h2 vs kk2 rs => ?_
  rw [← List.map_reverse, List.map_map]
  refine storeEach hsc hp xs.reverse _ vs.reverse ps.reverse ρ { s with heap := h2, toks := t1 } _ names_does ?_ ?_ ?_ (fun x hx => hl x (List.mem_reverse.mp hx)) ((hst.keep kk).keep kk2) rs.reverse fun h3 t3 hst3 kf => k1 h3 t3 _ hΦ hst3 ((kk.trans kk2).f.trans kf)
  · rw [List.length_map]
  · rw [List.length_reverse, List.length_reverse, rs.length]
  · rw [List.length_reverse, List.length_reverse, hlen]

theorem Ex1.while {test : Expr} {body : List Stmt} {pos : Pos} (I : Nat → Loc → Prop) (k : Nat) (hI : I k ρ)
    (turn : ∀ k ρ, I k ρ → Ts C sc n ρ test fun b => (b = true → Ex C sc n ρ body fun o => (∀ ρ', o = .next ρ' → ∃ j, j < k ∧ I j ρ') ∧ (∀ p, o = .ret p → Φ (.ret p))) ∧ (b = false → Φ (.next ρ))) : Ex1 C sc n ρ (.While test body [] pos) Φ := by
  intro env A h₀ s Q E hsc hp hr hst k1 k2
  refine wpAny_While (codeAny_whileLoop (fun j s' => ∃ h' tk ρ', s' = { s with heap := h', toks := tk } ∧ I j ρ' ∧ St C env h₀ h' ρ' ∧ KeepF env s.heap h') ?_ k ⟨s.heap, s.toks, ρ, rfl, hI, hst, .refl _ _⟩)
  rintro j s' ⟨h', tk, ρ', rfl, hj, hst', kf⟩
  refine turn j ρ' hj env A _ _ _ hsc hp hr hst'.okh hst'.names fun h1 t1 b hb kk => ?_
  cases b with
  | true =>
    simp only [if_true]
    refine hb.1 rfl env A h₀ _ _ _ hsc hp hr (hst'.keep kk) (fun h2 t2 ρ2 hq hst2 kf2 => ?_) fun h2 t2 v p hq kq rq => ?_
    · obtain ⟨i, hi, hI'⟩ := hq.1 _ rfl
      exact ⟨i, hi, h2, t2, ρ2, rfl, hI', hst2, (kf.trans kk.f).trans kf2⟩
    · exact k2 h2 t2 v p (hq.2 _ rfl) kq rq
  | false =>
    rw [if_neg (by decide)]
    exact wpAny_execs_nil (k1 h1 t1 ρ' (hb.2 rfl) (hst'.keep kk) (kf.trans kk.f))
end
section
variable {C : Cx} {sc : Scope} {n : Nat} {ρ : Loc} {φ : PV → Prop} {Φ : Out → Prop}

/-! subscripts -/
theorem Reps.get {h : Heap} : ∀ {vs : List Value} {ps : List PV} {j : Nat} {p : PV}, Reps h vs ps → ps[j]? = some p → ∃ v, vs[j]? = some v ∧ Rep h v p
  | _ :: _, _ :: _, 0, _, .cons r _, e => by simp at e; subst e; exact ⟨_, by simp, r⟩
  | _ :: _, _ :: _, j + 1, _, .cons _ rs, e => by
    simp only [List.getElem?_cons_succ] at e ⊢
    exact Reps.get rs e
  | [], _, _, _, .nil, e => by simp at e

/-- t[k], a tuple at a written place -/
theorem Ev.item {value : Expr} {k : Nat} {kk : Nat} {p1 pos : Pos} (h : Ev C sc n ρ value fun p => ∃ l q, p = .tup l ∧ l[k]? = some q ∧ φ q) (hk : k < 100) :
    Ev C sc n ρ (.Subscript value (.Constant (.int (k : Nat)) kk p1) pos) φ := by
  intro env A s Q E hs hp hr ho hn q
  refine Subscript_ (h env A s _ E hs hp hr ho hn fun h1 t1 v p hq k1 r1 => ?_)
  refine wpAny_Constant_int ?_
  obtain ⟨l, x, rfl, hx, hφ⟩ := hq
  cases r1 with
  | tup ht rs =>
    rename_i a0 vs0
    obtain ⟨u, hu, hru⟩ := rs.get hx
    have hlt : k < vs0.length := by
      rcases Nat.lt_or_ge k vs0.length with h | h
      · exact h
      · rw [List.getElem?_eq_none h] at hu; cases hu
    refine item_tupleT (j := k) (s := { s with heap := h1, toks := t1 + 1 }) ht (by omega) (by omega) ?_ hu (q h1 _ u x hφ k1 hru)
    unfold seqIndex?
    have c0 : ¬ ((k : Nat) : Int) < 0 := by omega
    simp only [c0, if_false]
    first
      | (rw [if_pos (by omega)]; simp; done)
      | (simp [hlt]; try omega)

/-- xs[i], a list at a place within it -/
theorem Ev.index {value slice : Expr} {pos : Pos} (h : Ev C sc n ρ value fun p => Ev C sc n ρ slice fun i => ∃ (l : List PV) (k : Int) (q : PV), p = .list l ∧ i = .int k ∧ 0 ≤ k ∧ k < 2 ^ 60 ∧ l[k.toNat]? = some q ∧ φ q)
    (hsub : ∀ (l : Addr) (k : Int) (u : Tok), subscripted slice false (.ref l) (.int k u) = operate [.ref l, .int k u] (getItem (.ref l) (.int k u)) := by intro _ _ _; with_unfolding_all rfl) : Ev C sc n ρ (.Subscript value slice pos) φ := by
  intro env A s Q E hs hp hr ho hn q
  refine Subscript_ (h env A s _ E hs hp hr ho hn fun h1 t1 v p hq k1 r1 => ?_)
  refine hq env A _ _ E hs hp hr (ho.keep k1) (hn.keep k1) fun h2 t2 u i hq2 k2 r2 => ?_
  obtain ⟨l, k, x, rfl, rfl, h0, hk, hx, hφ⟩ := hq2
  cases r2
  cases r1 with
  | list ht rs =>
    have rs' := rs.keep k2
    obtain ⟨y, hu, hru⟩ := rs'.get hx
    have ht' := IsList.sk ht k2.seq
    exact tail_any (s := { s with heap := h2, toks := t2 }) ht'.typeIs slot_list_getitem.lookup (wpAny_getItem_list ht' h0 (by omega) (by simpa using hu) (q h2 _ y x hφ (k1.trans k2) hru)) (hsub _ _ _)

/-- table[rnd], a dict of the top with str keys -/
def TabAt (C : Cx) (a : Addr) (x : Str) (p : PV) : Prop :=
  ∃ es k, C.K.lookup a = some ⟨.type "dict", none, .dict es k, #[]⟩ ∧ KeysLit C.w.params es.toList ∧ ∃ v, nsIn C.K a x = some (some v) ∧ ∀ h, C.K.In h → Rep h v p
theorem Ev.table {value slice : Expr} {pos : Pos} (h : Ev C sc n ρ value fun p => Ev C sc n ρ slice fun i => ∃ a x q, p = .val (.ref a) ∧ i = .str x ∧ TabAt C a x q ∧ φ q)
    (hsub : ∀ (l : Addr) (k : Str) (u : Tok), subscripted slice false (.ref l) (.str k u) = operate [.ref l, .str k u] (getItem (.ref l) (.str k u)) := by intro _ _ _; with_unfolding_all rfl) : Ev C sc n ρ (.Subscript value slice pos) φ := by
  intro env A s Q E hs hp hr ho hn q
  refine Subscript_ (h env A s _ E hs hp hr ho hn fun h1 t1 v p hq k1 r1 => ?_)
  refine hq env A _ _ E hs hp hr (ho.keep k1) (hn.keep k1) fun h2 t2 u i hq2 k2 r2 => ?_
  obtain ⟨a, x, r, rfl, rfl, ⟨es, k, hl, hkey, y, e, hrep⟩, hφ⟩ := hq2
  cases r2
  cases r1 with
  | val =>
    have ok2 := (ho.keep k1).keep k2
    have hm := mapOf_K (prog := C.prog) ok2.X hl hkey
    exact tail_any (s := { s with heap := h2, toks := t2 }) hm.typeIs slot_dict_getitem.lookup (wpAny_getItem_of (strKind_is C.prog C.w x _) hm (find_K hl e) (q h2 _ y r hφ (k1.trans k2) (hrep _ ok2.X))) (hsub _ _ _)

/-- e.bit_length() -/
theorem Ev.bits {o : Expr} {p1 pos : Pos} {pl : Env → Sem Bool} (h : Ev C sc n ρ o fun p => ∃ i, p = .int i ∧ φ (.int (Builtin.Int.intBits i)))
    (hc : ∀ env, eval (.Call (.Attribute o (Str.ofString "bit_length") p1) [] [] pos) env = (do
      let ov ← eval o env
      standAt p1.atName
      let (f, first) ← holding [ov] (getMethod ov (Str.ofString "bit_length") (pl env))
      callWith pos f first (backTo pos (starEach [] env)) (backToKw pos (keywordEach [] env))) := by intro _; rfl) :
    Ev C sc n ρ (.Call (.Attribute o (Str.ofString "bit_length") p1) [] [] pos) φ := by
  intro env A s Q E hs hp hr ho hn k
  refine methodCall_KW (h env A s _ E hs hp hr ho hn fun h1 t1 v p hq k1 r1 => ?_) (hc env)
  obtain ⟨i, rfl, hφ⟩ := hq
  cases r1
  refine getMethod_int_bit_length ?_
  refine callWith_method0 ?_
  exact PyProof.Rows.call_int_bit_length (k _ _ _ _ hφ k1 (.int _ _))

theorem reps1 {h : Heap} {vs : List Value} {p : PV} (r : Reps h vs [p]) : ∃ v, vs = [v] ∧ Rep h v p := by
  cases r with
  | cons a b => cases b; exact ⟨_, rfl, a⟩
theorem reps2 {h : Heap} {vs : List Value} {p q : PV} (r : Reps h vs [p, q]) : ∃ v u, vs = [v, u] ∧ Rep h v p ∧ Rep h u q := by
  cases r with
  | cons a b => obtain ⟨u, rfl, hu⟩ := reps1 b; exact ⟨_, _, rfl, a, hu⟩
/-! built-in names -/
def BuiltOK (C : Cx) (f : Value) (ps : List PV) (φ : PV → Prop) : Prop :=
  ∀ (A : Around) (s : Shared) (Q : Value → Shared → Prop) (E : Value → Shared → Prop) (vs : List Value), A.handled = none → A.units + 64 < cLine → Ok C s.heap → Reps s.heap vs ps →
    (∀ h' tk' v p, φ p → Keep s.heap h' → Rep h' v p → Q v { s with heap := h', toks := tk' }) → wpAny C.M A (call f vs) Q E s

theorem bname {x : Str} {pos : Pos} {v : Value} {env : Env} {A : Around} {s : Shared} {Q : Value → Shared → Prop} {E : Value → Shared → Prop} (hs : env.scope = sc) (hp : Plain env) (ho : Ok C s.heap)
    (hx : sc.names.lookup x = some .globalImplicit) (hk : nsIn C.K mainGlobals x = some none) (hv : bootBuiltins x = some v) (hn : x ≠ "__name__") (hd : (x == ("__debug__" : Str)) = false) (h : Q v s) : wpAny C.M A (eval (.Name x pos) env) Q E s := by
  subst hs
  exact Name_function_global hp.k hx (loadGlobal_builtin (mg := C.mg) (mb := C.mb) (hp.g ▸ ho.T.g) (mg_none_of ho.X ho.T.g hk) (hp.b ▸ ho.T.b) ((ho.T.builtins x hn).trans hv) h) hd
theorem Ev.bval {x : Str} {pos : Pos} {v : Value} (hx : sc.names.lookup x = some .globalImplicit) (hk : nsIn C.K mainGlobals x = some none) (hv : bootBuiltins x = some v) (h : φ (.val v)) (hn : x ≠ "__name__" := by decide)
    (hd : (x == ("__debug__" : Str)) = false := by decide) : Ev C sc n ρ (.Name x pos) φ :=
  fun env A s Q E hs hp hr ho hnm k => bname hs hp ho hx hk hv hn hd (k s.heap s.toks v _ h (.refl _) (.val v))

theorem Ev.bcall {x : Str} {id : String} {e : Expr} {es : List Expr} {p1 pos : Pos} (hx : sc.names.lookup x = some .globalImplicit) (hk : nsIn C.K mainGlobals x = some none) (hv : bootBuiltins x = some (.builtin id))
    (h : Evs C sc n ρ (e :: es) fun ps => BuiltOK C (.builtin id) ps φ) (hn : x ≠ "__name__" := by decide) (hd : (x == ("__debug__" : Str)) = false := by decide)
    (he : ∀ env, starEach (e :: es) env = (false, eval e env) :: starEach es env := by intro _; rfl) (hpl : ∀ pos env, (backTo pos (starEach es env)).any (·.1) = false := by intro _ _; rfl) :
    Ev C sc n ρ (.Call (.Name x p1) (e :: es) [] pos) φ := by
  intro env A s Q E hs hp hr ho hnm k
  refine wpAny_Call_Name_kw (bname hs hp ho hx hk hv hn hd ?_)
  show wpAny C.M A (callWith pos (.builtin id) [] (backTo pos (starEach (e :: es) env)) []) Q E s
  have hs2 := h env A s (fun vs s₁ => wpAny C.M A (PySem.call (.builtin id) ([] ++ vs) []) Q E s₁) E pos hs hp hr ho hnm fun h1 t1 vs ps hq k1 r1 =>
    hq A { s with heap := h1, toks := t1 } _ E vs hr.hh (by have := hr.u; omega) (ho.keep k1) r1 fun h2 t2 v p hq2 k2 r2 => k h2 t2 v p hq2 (k1.trans k2) r2
  rw [he] at hs2 ⊢
  refine callWith_builtin (by show ((false || (backTo pos (starEach es env)).any (·.1))) = false; rw [hpl]; rfl) (evalArgs_plain ?_)
  exact hs2
theorem Ev.tcall {x : Str} {T : String} {e : Expr} {es : List Expr} {p1 pos : Pos} (hx : sc.names.lookup x = some .globalImplicit) (hk : nsIn C.K mainGlobals x = some none) (hv : bootBuiltins x = some (.type T))
    (h : Evs C sc n ρ (e :: es) fun ps => BuiltOK C (.type T) ps φ) (hn : x ≠ "__name__" := by decide) (hd : (x == ("__debug__" : Str)) = false := by decide)
    (he : ∀ env, starEach (e :: es) env = (false, eval e env) :: starEach es env := by intro _; rfl) (hpl : ∀ pos env, (backTo pos (starEach es env)).any (·.1) = false := by intro _ _; rfl) :
    Ev C sc n ρ (.Call (.Name x p1) (e :: es) [] pos) φ := by
  intro env A s Q E hs hp hr ho hnm k
  refine wpAny_Call_Name_kw (bname hs hp ho hx hk hv hn hd ?_)
  show wpAny C.M A (callWith pos (.type T) [] (backTo pos (starEach (e :: es) env)) []) Q E s
  have hs2 := h env A s (fun vs s₁ => wpAny C.M A (PySem.call (.type T) ([] ++ vs) []) Q E s₁) E pos hs hp hr ho hnm fun h1 t1 vs ps hq k1 r1 =>
    hq A { s with heap := h1, toks := t1 } _ E vs hr.hh (by have := hr.u; omega) (ho.keep k1) r1 fun h2 t2 v p hq2 k2 r2 => k h2 t2 v p hq2 (k1.trans k2) r2
  rw [he] at hs2 ⊢
  refine PyProof.Rows.callWith_type (by show ((false || (backTo pos (starEach es env)).any (·.1))) = false; rw [hpl]; rfl) (evalArgs_plain ?_)
  exact hs2

theorem b_min2 {a b : Int} (h : φ (.int (if b < a then b else a))) : BuiltOK C (.builtin "min") [.int a, .int b] φ := by
  intro A s Q E vs hh hu ho r k
  obtain ⟨v, u, rfl, r1, r2⟩ := reps2 r; cases r1; cases r2
  refine min_two_ints hh fun h' tk kk => ?_
  split
  · rename_i hc; rw [if_pos hc] at h; exact k _ _ _ _ h kk (.int _ _)
  · rename_i hc; rw [if_neg hc] at h; exact k _ _ _ _ h kk (.int _ _)
theorem b_divmod {a b : Int} (hb : b ≠ 0) (hs : b.natAbs < 2 ^ 8000) (h : φ (.tup [.int (a.fdiv b), .int (a.fmod b)])) : BuiltOK C (.builtin "divmod") [.int a, .int b] φ := by
  intro A s Q E vs hh hu ho r k
  obtain ⟨v, u, rfl, r1, r2⟩ := reps2 r; cases r1; cases r2
  refine PyProof.Rows.divmod_int hb (k _ _ _ _ h (.push _ _) (.tup (vs := [.int (a.fdiv b) s.toks, .int (a.fmod b) (s.toks + 1)]) (IsTup.new _ _) (.cons (.int _ _) (.cons (.int _ _) .nil)))) (.inl (PyProof.noPylong_of_log2 ?_))
  have h30 : b.natAbs.log2 < 8000 := (Nat.log2_lt (by omega)).mpr hs
  omega
theorem b_isint {a : Int} (h : φ (.bool true)) : BuiltOK C (.builtin "isinstance") [.int a, .val (.type "int")] φ := by
  intro A s Q E vs hh hu ho r k
  obtain ⟨v, u, rfl, r1, r2⟩ := reps2 r; cases r1; cases r2
  exact IsiPair.int_int (k s.heap s.toks _ _ h (.refl _) (.bool _))
theorem b_int {a : Int} (h : φ (.int a)) : BuiltOK C (.type "int") [.int a] φ := by
  intro A s Q E vs hh hu ho r k
  obtain ⟨v, rfl, r1⟩ := reps1 r; cases r1
  exact PySem.call_int_int (k s.heap s.toks _ _ h (.refl _) (.int _ _))
end
/-- a def of the text's top, as the written heap has it -/
def Dfl (C : Cx) (dV : Value) (dfl : List PV) : Prop :=
  (dfl = [] ∧ dV = .none) ∨ dfl ≠ [] ∧ ∃ T o vs n, dV = .ref T ∧ C.K.lookup T = some o ∧ o.data = .seq (List.toArray vs) n ∧ ∀ h, C.K.In h → Reps h vs dfl
def DefAt (C : Cx) (x : String) (params : Arguments) (body : List Stmt) (scope : Scope) (dfl : List PV) : Prop :=
  ∃ f oc od osl dV kV doc pm an cdv ct, nsIn C.K mainGlobals (Str.ofString x) = some (some (.ref f)) ∧
    C.K.lookup f = some ⟨oc, od, .func (fnOf (Str.ofString x) (Str.ofString x) params body scope dV kV doc pm an cdv ct), osl⟩ ∧ codeIn C.K cdv (Str.ofString x) = true ∧ Dfl C dV dfl
theorem DefAt.isDef {C : Cx} {x : String} {params : Arguments} {body : List Stmt} {scope : Scope} {dfl : List PV} (h : DefAt C x params body scope dfl) : IsDef C x := by
  obtain ⟨f, oc, od, osl, dV, kV, doc, pm, an, cdv, ct, h1, h2, _⟩ := h
  exact ⟨f, h1, by unfold keepIn; dsimp only; rw [h2]⟩

inductive BRep (h : Heap) : List (Str × Value) → Loc → Prop
  | nil : BRep h [] []
  | cons {x : String} {v : Value} {p : PV} {bs : List (Str × Value)} {ρ : Loc} : Rep h v p → BRep h bs ρ → BRep h ((Str.ofString x, v) :: bs) ((x, p) :: ρ)
theorem BRep.look {h : Heap} {bs : List (Str × Value)} {ρ : Loc} (b : BRep h bs ρ) : ∀ {x : String} {p : PV}, look ρ x = some p → ∃ v, bs.lookup (Str.ofString x) = some v ∧ Rep h v p := by
  induction b with
  | nil => intro x p e; simp [Mine.look] at e
  | @cons y v q bs ρ r b ih =>
    intro x p e
    unfold Mine.look at e
    rw [List.lookup_cons] at e
    by_cases c : x = y
    · subst c
      simp only [beq_self_eq_true] at e
      cases e
      exact ⟨v, by rw [List.lookup_cons]; simp, r⟩
    · have hb : (x == y) = false := by simpa using c
      rw [hb] at e
      obtain ⟨u, hu, hr⟩ := ih (x := x) (p := p) e
      refine ⟨u, ?_, hr⟩
      have hb2 : (Str.ofString x == Str.ofString y) = false := by simpa using fun q => c (ofString_inj q)
      rw [List.lookup_cons, hb2]; exact hu
theorem BRep.keep {h h' : Heap} (k : Keep h h') {bs : List (Str × Value)} {ρ : Loc} (b : BRep h bs ρ) : BRep h' bs ρ := by
  induction b with
  | nil => exact .nil
  | cons r _ ih => exact .cons (r.keep k) ih

/-- how the arguments ps (and the defaults dfl) come to the names ρ₀, latest first -/
def Binds (x : String) (params : Arguments) (body : List Stmt) (scope : Scope) (ps dfl : List PV) (ρ₀ : Loc) : Prop :=
  ∀ (dV kV doc pm : Value) (an : Option Addr) (cdv ct : Value) (s : Shared) (vs : List Value), Reps s.heap vs ps →
    ((dfl = [] ∧ dV = .none) ∨ dfl ≠ [] ∧ ∃ T o ds n, dV = .ref T ∧ s.heap.get? T = some o ∧ o.data = .seq (List.toArray ds) n ∧ Reps s.heap ds dfl) →
    ∃ binds, BindsTo s (fnOf (Str.ofString x) (Str.ofString x) params body scope dV kV doc pm an cdv ct) ⟨vs, []⟩ binds ∧ BRep s.heap binds.reverse ρ₀

def namesOk (sc : Scope) (ρ : Loc) : Bool := ρ.all fun y => sc.names.lookup (Str.ofString y.1) == some .local && !(Str.ofString y.1 == Str.ofString "__debug__")

theorem brep_locs {sc : Scope} {h : Heap} {bs : List (Str × Value)} {ρ : Loc} (b : BRep h bs ρ) : namesOk sc ρ = true → ∀ y ∈ bs, sc.names.lookup y.1 = some .local := by
  induction b with
  | nil => intro _ y hy; cases hy
  | cons _ _ ih =>
    intro hn y hy
    simp only [namesOk, List.all_cons, Bool.and_eq_true, beq_iff_eq] at hn
    rcases List.mem_cons.mp hy with rfl | hy
    · exact hn.1.1
    · exact ih (by simpa [namesOk] using hn.2) y hy
theorem look_ok {sc : Scope} : ∀ {ρ : Loc} {x : String} {p : PV}, namesOk sc ρ = true → look ρ x = some p → sc.names.lookup (Str.ofString x) = some .local ∧ (Str.ofString x == Str.ofString "__debug__") = false
  | (y, q) :: ρ, x, p, hn, e => by
    simp only [namesOk, List.all_cons, Bool.and_eq_true, beq_iff_eq, Bool.not_eq_true'] at hn
    unfold look at e
    rw [List.lookup_cons] at e
    by_cases c : x = y
    · subst c; exact ⟨hn.1.1, hn.1.2⟩
    · have hb : (x == y) = false := by simpa using c
      rw [hb] at e
      exact look_ok (ρ := ρ) (by simpa [namesOk] using hn.2) e
  | [], _, _, _, e => by simp [look] at e

def toRet (φ : PV → Prop) : Out → Prop
  | .ret p => φ p
  | .next _ => φ .none

theorem callOK {C : Cx} {n : Nat} {x : String} {params : Arguments} {body : List Stmt} {scope : Scope} {ps dfl : List PV} {ρ₀ : Loc} {φ : PV → Prop} (hd : DefAt C x params body scope dfl) (hb : Binds x params body scope ps dfl ρ₀)
    (hn : namesOk scope ρ₀ = true) (hcell : ∀ x ∈ scope.names, x.2 ≠ .cell) (hco : scope.isCoroutine = false) (hgen : scope.isGenerator = false) (hk : scope.kind = .function)
    (h : Ex C scope n ρ₀ body (toRet φ)) : CallOK C (n + 1) x ps φ := by
  intro f' hf' A s Q E vs hr ho r k
  obtain ⟨f, oc, od, osl, dV, kV, doc, pm, an, cdv, ct, h1, h2, h3, h4⟩ := hd
  rw [h1] at hf'; cases hf'
  obtain ⟨binds, hbt, brep⟩ := hb dV kV doc pm an cdv ct s vs r (by
    rcases h4 with h4 | ⟨e0, T, o, ds, m, e1, e2, e3, e4⟩
    · exact .inl h4
    · exact .inr ⟨e0, T, o, ds, m, e1, ho.X _ _ e2, e3, e4 _ ho.X⟩)
  refine wpAny_call (codeAny_call_def (fd := fnOf (Str.ofString x) (Str.ofString x) params body scope dV kV doc pm an cdv ct) (body := body) (binds := binds) (by have := hr.d; omega) (ho.X _ _ h2) rfl ho.T.nolimit (codeRec_of ho.X h3) rfl hbt hcell
    (fun y hy => brep_locs brep hn y (List.mem_reverse.mpr hy)) (fun h₀ hns hk₀ => ?_) hco hgen hk)
  refine h _ (A.deeper _) s.heap { s with heap := h₀, toks := s.toks + binds.length } _ _ rfl ⟨rfl, rfl, hk⟩ (hr.deeper _) ⟨⟨_, ⟨hns, hk₀, Nat.le_refl _⟩⟩, ho, ?_⟩ (fun h' tk' ρ' hq hst _ => ?_) fun h' tk' v p hq kk rr => ?_
  · intro y p e
    obtain ⟨v, hv, hr'⟩ := (brep.keep hk₀).look e
    obtain ⟨l1, l2⟩ := look_ok hn e
    exact ⟨l2, v, .loc _ l1 hns hv, hr'⟩
  · exact k h' tk' .none .none hq hst.keep₀ .none
  · exact k h' tk' v p hq kk rr

/-- for x in xs, xs a list that stands -/
theorem Ex1.for {C : Cx} {sc : Scope} {n : Nat} {ρ : Loc} {Φ : Out → Prop} {x : String} {pos' pos : Pos} {iter : Expr} {body : List Stmt} (I : Nat → Loc → Prop)
    (h : Ev C sc n ρ iter fun p => ∃ l, p = .list l ∧ l.length ≤ 1000 ∧ I 0 ρ ∧ (∀ i q ρ, l[i]? = some q → I i ρ → Ex C sc n ((x, q) :: ρ) body fun o => (∀ ρ', o = .next ρ' → I (i + 1) ρ') ∧ (∀ p, o = .ret p → Φ (.ret p))) ∧ (∀ ρ, I l.length ρ → Φ (.next ρ)))
    (hk : sc.names.lookup (Str.ofString x) = some .local) (hd : (Str.ofString x == Str.ofString "__debug__") = false) (hs : ∀ env v, foldedSetIterable iter env v = pure v := by intro _ _; rfl) :
    Ex1 C sc n ρ (.For (.Name (Str.ofString x) pos') iter body [] pos) Φ := by
  intro env A h₀ s Q E hsc hp hr hst k1 k2
  refine wpAny_For (h env A s _ E hsc hp hr hst.okh hst.names fun h1 t1 v p hq kk rr => ?_) (hs env)
  obtain ⟨l, rfl, hlen, hI0, hturn, hend⟩ := hq
  cases rr with
  | list hl rs =>
    rename_i ax vs
    refine wpAny_pyIter_list hl ?_
    have hst1 := hst.keep kk
    have hlt : ax ≠ h1.objs.size := by obtain ⟨o, ho, _⟩ := hl; exact Nat.ne_of_lt (Heap.lt_size ho)
    have hLne : env.locals ≠ h1.objs.size := by obtain ⟨m, F⟩ := hst1.fr; exact Nat.ne_of_lt F.ns.lt
    have h0ne : h₀.objs.size ≤ h1.objs.size := by obtain ⟨m, F⟩ := hst1.fr; exact Nat.le_trans F.above (Nat.le_of_lt F.ns.lt)
    refine codeAny_forLoop_any (fun j s' => ∃ i h' tk ρ', s' = { s with heap := h', toks := tk } ∧ j = vs.length - i ∧ i ≤ vs.length ∧ I i ρ' ∧ St C env h₀ h' ρ' ∧ KeepF env h1 h' ∧ h'.IsListIter h1.objs.size ax i ∧ h'.IsList ax vs.toArray ∧ Reps h' vs l) ?_ vs.length
      ⟨0, _, t1, ρ, rfl, by omega, by omega, hI0, hst1.keep (.push _ _), (Keep.push _ _).f, ⟨_, Heap.get?_push_size _ rfl, rfl, rfl⟩, hl.push _, rs.keep (.push _ _)⟩
    rintro j s' ⟨i, h', tk, ρ', rfl, rfl, hi, hI, hst', kf, hit, hl', rs'⟩
    -- what the iterator's own turning leaves
    have iterKeep : ∀ h2, (∀ b o, b ≠ h1.objs.size → h'.get? b = some o → h2.get? b = some o) → St C env h₀ h2 ρ' ∧ Reps h2 vs l ∧ h2.IsList ax vs.toArray := by
      intro h2 kb
      obtain ⟨oi, hoi, hci, hdi⟩ := hit
      obtain ⟨m, F⟩ := hst'.fr
      have sk : SeqKeep h' h2 := fun b o its q e d => kb b o (by rintro rfl; rw [hoi] at e; cases e; rw [hdi] at d; cases d) e
      refine ⟨⟨⟨m, F.ns.at' (fun o e => kb _ o hLne e), fun b o e => kb b o (Nat.ne_of_lt (Nat.lt_of_lt_of_le (Heap.lt_size e) h0ne)) (F.keep b o e), F.above⟩, hst'.ok, fun y q e => ?_⟩, rs'.sk sk, IsList.sk hl' sk⟩
      obtain ⟨d, u, hv, hr'⟩ := hst'.names y q e
      refine ⟨d, u, ?_, hr'.sk sk⟩
      cases hv with
      | loc m₂ a b c => exact .loc m₂ a (b.at' fun o e => kb _ o hLne e) c
      | cell c a b dd =>
        obtain ⟨o, ho, hdat⟩ := dd
        exact .cell c a b ⟨o, kb _ o (by rintro rfl; rw [hoi] at ho; cases ho; rw [hdi] at hdat; cases hdat) ho, hdat⟩
    by_cases hlast : i < vs.length
    · refine wpAny_pyNext_list_item hit hl' (x := vs[i]) (by simp [hlast]) fun h2 hit2 hs2 => ?_
      obtain ⟨hst2, rs2, hl2⟩ := iterKeep h2 hs2.extBut
      show wpAny _ A (pure ()) _ _ _
      refine wpAny_pure ?_
      obtain ⟨q, hq⟩ : ∃ q, l[i]? = some q := ⟨l[i]'(by rw [← rs2.length]; exact hlast), List.getElem?_eq_getElem _⟩
      obtain ⟨u, hu, hru⟩ := rs2.get hq
      have hui : u = vs[i] := by rw [List.getElem?_eq_getElem hlast] at hu; exact (Option.some.inj hu).symm
      subst hui
      refine PyProof.Rows.assign_Name (store_ hsc hp hst2 hk hd hru fun h3 t3 hst3 sk3 kf3 => ?_)
      have kf1 : KeepF env h1 h2 := fun b o e1 e2 e3 => by
        have hb : b ≠ h1.objs.size := Nat.ne_of_lt (Heap.lt_size e3)
        exact hs2.extBut b o hb (kf b o e1 e2 e3)
      refine hturn i q ρ' hq hI env A h₀ { s with heap := h3, toks := t3 } _ _ hsc hp hr hst3 (fun h4 t4 ρ4 hq4 hst4 kf4 => ?_) fun h4 t4 v p hq4 kk4 rr4 => ?_
      · have itk : ∀ {a b : Heap}, KeepF env a b → a.IsListIter h1.objs.size ax (i + 1) → b.IsListIter h1.objs.size ax (i + 1) := fun kf' ⟨o, ho, hc, hd'⟩ => ⟨o, kf' _ o (Ne.symm hLne) (fun v e => by rw [hd'] at e; cases e) ho, hc, hd'⟩
        have lk : ∀ {a b : Heap}, KeepF env a b → a.Ns env.locals (fun _ => none) ∨ True → SeqKeep a b → a.IsList ax vs.toArray → b.IsList ax vs.toArray := fun _ _ sk x => IsList.sk x sk
        have sk34 : SeqKeep h3 h4 := by
          obtain ⟨m3, F3⟩ := hst3.fr
          intro b o its q' e d
          refine kf4 b o ?_ (fun v e' => by rw [d] at e'; cases e') e
          rintro rfl
          obtain ⟨o', es, ep, ho', hd', _⟩ := F3.ns
          rw [ho'] at e; cases e; rw [hd'] at d; cases d
        refine ⟨vs.length - (i + 1), by omega, i + 1, h4, t4, ρ4, rfl, rfl, by omega, hq4.1 _ rfl, hst4, (kf1.trans kf3).trans kf4, itk kf4 (itk kf3 hit2), IsList.sk (IsList.sk hl2 sk3) sk34, (rs2.sk sk3).sk sk34⟩
      · exact k2 h4 t4 v p (hq4.2 _ rfl) kk4 rr4
    · have hin : i = vs.length := by omega
      subst hin
      refine wpAny_pyNext_list_end hr.hh hit hl' (by simp) fun h2 he => ?_
      obtain ⟨hst2, _, _⟩ := iterKeep h2 he
      refine wpAny_execs_nil (k1 h2 tk ρ' (hend ρ' (by rw [← rs'.length]; exact hI)) hst2 ?_)
      intro b o e1 e2 e3
      exact he b o (Nat.ne_of_lt (Heap.lt_size (kk b o e3))) (kf b o e1 e2 (kk b o e3))
theorem lookup_isSome_of_mem {l : List (Str × Value)} {n : Str} (h : n ∈ l.map (·.1)) : (l.lookup n).isSome = true := by
  induction l with
  | nil => simp at h
  | cons a l ih =>
    obtain ⟨x, v⟩ := a
    rw [List.lookup_cons]
    by_cases c : n = x
    · subst c; simp
    · have hb : (n == x) = false := by simpa using c
      rw [hb]
      simp only [List.map_cons, List.mem_cons] at h
      rcases h with h | h
      · exact absurd h c
      · exact ih h
theorem lookup_none_of_not {l : List (Str × Value)} {n : Str} (h : n ∉ l.map (·.1)) : (l.lookup n) = none := by
  induction l with
  | nil => rfl
  | cons a l ih =>
    obtain ⟨x, v⟩ := a
    simp only [List.map_cons, List.mem_cons, not_or] at h
    have hb : (n == x) = false := by simpa using h.1
    rw [List.lookup_cons, hb]; exact ih h.2
abbrev putNew (S : List (Str × Value)) (x : Str × Value) : List (Str × Value) := if (S.lookup x.1).isNone = true then S ++ [(x.1, x.2)] else S
theorem forIn_put {M : Model} : ∀ (l S : List (Str × Value)), (forIn l S fun x __s => if (List.lookup x.fst __s).isNone = true then pure (ForInStep.yield (__s ++ [(x.fst, x.snd)])) else (pure (ForInStep.yield __s) : Sem _)) = pure (l.foldl putNew S)
  | [], S => by simp
  | x :: l, S => by
    rw [List.forIn_cons]
    by_cases c : (List.lookup x.fst S).isNone = true
    · rw [if_pos c]
      simp only [pure_bind]
      rw [forIn_put (M := M) l _]
      simp only [List.foldl_cons, putNew, if_pos c]
    · rw [if_neg c]
      simp only [pure_bind]
      rw [forIn_put (M := M) l _]
      simp only [List.foldl_cons, putNew, if_neg c]
theorem fold_known : ∀ (l S : List (Str × Value)), (∀ x ∈ l, x.1 ∈ S.map (·.1)) → l.foldl putNew S = S
  | [], S, _ => rfl
  | x :: l, S, h => by
    have h1 := lookup_isSome_of_mem (h x (.head _))
    rw [List.foldl_cons]
    have : putNew S x = S := by unfold putNew; rw [if_neg]; rw [Option.isNone_iff_eq_none]; intro e; rw [e] at h1; simp at h1
    rw [this]
    exact fold_known l S fun y hy => h y (.tail _ hy)
theorem fold_new : ∀ (l S : List (Str × Value)), ((S ++ l).map (·.1)).Nodup → l.foldl putNew S = S ++ l
  | [], S, _ => by simp
  | x :: l, S, h => by
    rw [List.foldl_cons]
    have hx : x.1 ∉ S.map (·.1) := by
      rw [List.map_append, List.nodup_append] at h
      intro hm
      exact h.2.2 _ hm _ (by simp) rfl
    have : putNew S x = S ++ [x] := by unfold putNew; rw [lookup_none_of_not hx]; simp
    rw [this, fold_new l (S ++ [x]) (by simpa using h)]
    simp
theorem filterMap_self : ∀ (l : List (Str × Value)), (l.map (·.1)).Nodup → (l.map (·.1)).filterMap (fun n => (l.lookup n).map (n, ·)) = l := by
  have gen : ∀ (l P : List (Str × Value)), ((P ++ l).map (·.1)).Nodup → (l.map (·.1)).filterMap (fun n => ((P ++ l).lookup n).map (n, ·)) = l := by
    intro l
    induction l with
    | nil => intro P _; rfl
    | cons a l ih =>
      intro P h
      obtain ⟨x, v⟩ := a
      have hx : x ∉ P.map (·.1) := by
        rw [List.map_append, List.nodup_append] at h
        intro hm
        exact h.2.2 _ hm _ (by simp) rfl
      have hl : (P ++ (x, v) :: l).lookup x = some v := by
        rw [List.lookup_append, lookup_none_of_not hx]; simp
      rw [List.map_cons, List.filterMap_cons]
      simp only [hl, Option.map_some]
      have e : P ++ (x, v) :: l = (P ++ [(x, v)]) ++ l := by simp
      rw [e]
      rw [ih (P ++ [(x, v)]) (by rw [← e]; exact h)]
  intro l h
  simpa using gen l [] (by simpa using h)
theorem map_fst_zip : ∀ (ns : List Str) (vs : List Value), ns.length ≤ vs.length → (ns.zip vs).map (·.1) = ns
  | [], _, _ => by simp
  | n :: ns, [], h => by simp at h
  | n :: ns, v :: vs, h => by simp only [List.zip_cons_cons, List.map_cons]; rw [map_fst_zip ns vs (by simpa using h)]

theorem bind_gen {s : Shared} {fd : FuncData} {args : List Arg} {kd : List (Option Expr)} {de : List Expr} {vs ds : List Value} {opt : Option (Array Value)}
    (hp : fd.params = { posonlyargs := [], args := args, vararg := none, kwonlyargs := [], kw_defaults := kd, kwarg := none, defaults := de })
    (hnd : (args.map (·.arg)).Nodup) (h1 : vs.length ≤ args.length) (h2 : ds.length ≤ args.length) (h3 : args.length ≤ vs.length + ds.length) (ho : (opt.getD #[]).toList = ds)
    (hd : ∀ (M : Model) (A : Around) (E : Value → Shared → Prop) (Q : Option (Array Value) → Shared → Prop), Q opt s → wpAny M A (seqItems? fd.defaults) Q E s) :
    BindsTo s fd ⟨vs, []⟩ ((args.map (·.arg)).zip (vs ++ ds.drop (vs.length + ds.length - args.length))) := by
  intro M A E Q hq
  unfold bindArgs
  simp only [hp, List.map_nil, List.nil_append, List.forIn_nil, pure_bind]
  refine wpAny_bind (hd _ _ _ _ ?_)
  simp only [ho]
  have hlen : (args.map (·.arg)).length = args.length := List.length_map _
  generalize hns : List.map (fun x : Arg => x.arg) args = ns at *
  rw [← hlen] at h1 h2 h3 hq
  have e1 : ¬ (decide (vs.length > ns.length) && (none : Option Arg).isNone) = true := by simp; omega
  rw [if_neg e1]
  have e2 : List.drop (ds.length - ns.length) ds = ds := by rw [show ds.length - ns.length = 0 by omega]; rfl
  rw [e2]
  -- the names that are given, the names that are not
  have hsplit : ns = ns.take vs.length ++ ns.drop vs.length := (List.take_append_drop _ _).symm
  have hl1 : (ns.take vs.length).length = vs.length := by rw [List.length_take]; omega
  have zsp : ∀ (N a b : List Str) (V c d : List Value), N = a ++ b → V = c ++ d → a.length = c.length → N.zip V = a.zip c ++ b.zip d := by
    rintro _ a b _ c d rfl rfl h; exact List.zip_append h
  have hz : ns.zip vs = (ns.take vs.length).zip vs := by
    rw [zsp ns _ _ vs vs [] hsplit (by simp) hl1]; simp
  have hkeys : (ns.zip vs).map (·.1) = ns.take vs.length := by rw [hz]; exact map_fst_zip _ _ (by omega)
  have e3 : ∀ n ∈ ns.take (ns.length - ds.length), (List.lookup n (ns.zip vs)).isNone = false := by
    intro n hn
    have : n ∈ ns.take vs.length := by
      have : ns.take (ns.length - ds.length) = (ns.take vs.length).take (ns.length - ds.length) := by rw [List.take_take, Nat.min_eq_left (by omega)]
      rw [this] at hn; exact List.mem_of_mem_take hn
    have h := lookup_isSome_of_mem (l := ns.zip vs) (n := n) (by rw [hkeys]; exact this)
    cases hq : List.lookup n (ns.zip vs) with
    | none => rw [hq] at h; simp at h
    | some _ => rfl
  have e4 : List.filter (fun n => (List.lookup n (ns.zip vs)).isNone) (ns.take (ns.length - ds.length)) = [] := by
    rw [List.filter_eq_nil_iff]
    intro n hn; rw [e3 n hn]; decide
  rw [e4]
  rw [if_neg (by decide)]
  rw [forIn_put (M := M)]
  simp only [pure_bind]
  rw [if_neg (by decide)]
  refine wpAny_pure ?_
  have e5 : ((ns.drop (ns.length - ds.length)).zip ds).foldl putNew (ns.zip vs) = ns.zip (vs ++ ds.drop (vs.length + ds.length - ns.length)) := by
    have hd1 : ns.drop (ns.length - ds.length) = (ns.take vs.length).drop (ns.length - ds.length) ++ ns.drop vs.length := by
      have : ∀ (N a b : List Str) (k : Nat), N = a ++ b → k ≤ a.length → N.drop k = a.drop k ++ b := by rintro _ a b k rfl h; exact List.drop_append_of_le_length h
      exact this ns _ _ _ hsplit (by omega)
    have hd2 : ds = ds.take (vs.length + ds.length - ns.length) ++ ds.drop (vs.length + ds.length - ns.length) := (List.take_append_drop _ _).symm
    have hl2 : ((ns.take vs.length).drop (ns.length - ds.length)).length = (ds.take (vs.length + ds.length - ns.length)).length := by
      rw [List.length_drop, hl1, List.length_take]; omega
    have hz2 : (ns.drop (ns.length - ds.length)).zip ds = ((ns.take vs.length).drop (ns.length - ds.length)).zip (ds.take (vs.length + ds.length - ns.length)) ++ (ns.drop vs.length).zip (ds.drop (vs.length + ds.length - ns.length)) := by
      exact zsp _ _ _ _ _ _ hd1 hd2 hl2
    have hA := fold_known (((ns.take vs.length).drop (ns.length - ds.length)).zip (ds.take (vs.length + ds.length - ns.length))) (ns.zip vs) (by
      intro x hx
      rw [hkeys]
      exact List.mem_of_mem_drop (List.of_mem_zip (a := x.1) (b := x.2) hx).1)
    rw [hz2, List.foldl_append, hA]
    · rw [fold_new]
      · rw [zsp ns _ _ _ vs (ds.drop (vs.length + ds.length - ns.length)) hsplit rfl hl1, ← hz]
      · rw [List.map_append, hkeys, map_fst_zip _ _ (by rw [List.length_drop, List.length_drop]; omega), ← hsplit]
        exact hnd
  rw [e5]
  have e6 := filterMap_self (ns.zip (vs ++ ds.drop (vs.length + ds.length - ns.length))) (by
    rw [map_fst_zip _ _ (by rw [List.length_append, List.length_drop]; omega)]; exact hnd)
  rw [map_fst_zip _ _ (by rw [List.length_append, List.length_drop]; omega)] at e6
  rw [List.append_nil, e6]
  exact hq

theorem BRep.append {h : Heap} {a b : List (Str × Value)} {ρ σ : Loc} (x : BRep h a ρ) (y : BRep h b σ) : BRep h (a ++ b) (ρ ++ σ) := by
  induction x with
  | nil => exact y
  | cons r _ ih => exact .cons r ih
theorem BRep.zip {h : Heap} : ∀ (xs : List String) {vs : List Value} {ps : List PV}, Reps h vs ps → xs.length = ps.length → BRep h ((xs.map Str.ofString).zip vs).reverse (xs.zip ps).reverse
  | [], _, _, r, e => by cases r with
    | nil => exact .nil
    | cons _ _ => simp at e
  | x :: xs, _, _, r, e => by
    cases r with
    | nil => simp at e
    | cons r rs =>
      rw [List.map_cons, List.zip_cons_cons, List.zip_cons_cons, List.reverse_cons, List.reverse_cons]
      exact (BRep.zip xs rs (by simpa using e)).append (.cons r .nil)
theorem Reps.append {h : Heap} {a : List Value} {b : List PV} {c : List Value} {d : List PV} (x : Reps h a b) (y : Reps h c d) : Reps h (a ++ c) (b ++ d) := by
  induction a generalizing b with
  | nil => cases x; exact y
  | cons v a ih => cases x with | cons r rs => exact .cons r (ih rs)
theorem Reps.drop {h : Heap} : ∀ (k : Nat) {a : List Value} {b : List PV}, Reps h a b → Reps h (a.drop k) (b.drop k)
  | 0, _, _, r => r
  | k + 1, _, _, r => by
    cases r with
    | nil => simpa using Reps.nil
    | cons _ rs => simpa using Reps.drop k rs

theorem callD {C : Cx} {n : Nat} {x : String} {params : Arguments} {body : List Stmt} {scope : Scope} {ps dfl : List PV} {ρ₀ : Loc} {φ : PV → Prop} (hd : DefAt C x params body scope dfl) (xs : List String) {args : List Arg} {kd : List (Option Expr)} {de : List Expr}
    (hp : params = { posonlyargs := [], args := args, vararg := none, kwonlyargs := [], kw_defaults := kd, kwarg := none, defaults := de }) (hxs : args.map (·.arg) = xs.map Str.ofString) (hnd : xs.Nodup)
    (h1 : ps.length.ble xs.length = true) (h2 : dfl.length.ble xs.length = true) (h3 : xs.length.ble (ps.length + dfl.length) = true) (hρ : ρ₀ = (xs.zip (ps ++ dfl.drop (ps.length + dfl.length - xs.length))).reverse)
    (hn : namesOk scope ρ₀ = true) (hcell : ∀ x ∈ scope.names, x.2 ≠ .cell) (hco : scope.isCoroutine = false) (hgen : scope.isGenerator = false) (hk : scope.kind = .function)
    (h : Ex C scope n ρ₀ body (toRet φ)) : CallOK C (n + 1) x ps φ := by
  refine callOK hd ?_ hn hcell hco hgen hk h
  have h1 := Nat.le_of_ble_eq_true h1
  have h2 := Nat.le_of_ble_eq_true h2
  have h3 := Nat.le_of_ble_eq_true h3
  intro dV kV doc pm an cdv ct s vs r hdv
  have hal : args.length = xs.length := by have := congrArg List.length hxs; simpa using this
  have hnd' : (args.map (·.arg)).Nodup := by
    rw [hxs, List.nodup_iff_pairwise_ne, List.pairwise_map]
    rw [List.nodup_iff_pairwise_ne] at hnd
    exact hnd.imp fun a b => a (ofString_inj b)
  have hvl := r.length
  obtain ⟨opt, ds, ho, hsq, rds⟩ : ∃ (opt : Option (Array Value)) (ds : List Value), (opt.getD #[]).toList = ds ∧
      (∀ (M : Model) (A : Around) (E : Value → Shared → Prop) (Q : Option (Array Value) → Shared → Prop), Q opt s → wpAny M A (seqItems? dV) Q E s) ∧ Reps s.heap ds dfl := by
    rcases hdv with ⟨rfl, rfl⟩ | ⟨_, T, o, ds, m, rfl, e2, e3, e4⟩
    · exact ⟨none, [], rfl, fun M A E Q hq => wpAny_pure hq, .nil⟩
    · exact ⟨some ds.toArray, ds, by simp, fun M A E Q hq => wpAny_seqItems e2 e3 hq, e4⟩
  have hdl := rds.length
  refine ⟨_, bind_gen (fd := fnOf (Str.ofString x) (Str.ofString x) params body scope dV kV doc pm an cdv ct) (args := args) (opt := opt) (ds := ds) hp hnd' (by omega) (by omega) (by omega) ho hsq, ?_⟩
  rw [hρ, hxs]
  have e : vs.length + ds.length - args.length = ps.length + dfl.length - xs.length := by omega
  rw [e]
  exact BRep.zip xs (r.append (rds.drop _)) (by rw [List.length_append, List.length_drop]; omega)
abbrev bits (x : Int) : Nat := Builtin.Int.intBits x

def tzN (n : Nat) : Nat := if h : n = 0 then 0 else if n % 2 = 0 then tzN (n / 2) + 1 else 0
termination_by n
decreasing_by omega

theorem tzN_odd {n : Nat} (h : n % 2 = 1) : tzN n = 0 := by
  unfold tzN
  rw [dif_neg (by omega), if_neg (by omega)]
theorem tzN_even {n : Nat} (h : n ≠ 0) : tzN (2 * n) = tzN n + 1 := by
  rw [tzN, dif_neg (by omega), if_pos (by omega), Nat.mul_div_cancel_left _ (by decide)]
theorem tzN_pow {n : Nat} (h : n ≠ 0) : ∀ k : Nat, tzN (n * 2 ^ k) = tzN n + k
  | 0 => by simp
  | k + 1 => by
    have h0 : n * 2 ^ k ≠ 0 := Nat.mul_ne_zero h (by have := Nat.two_pow_pos k; omega)
    rw [Nat.pow_succ, ← Nat.mul_assoc, Nat.mul_comm _ 2, tzN_even h0, tzN_pow h k]; omega
/-- n = odd * 2 ^ k -/
theorem split2 (n : Nat) (h : n ≠ 0) : ∃ m k, n = m * 2 ^ k ∧ m % 2 = 1 := by
  induction n using Nat.strongRecOn with
  | ind n ih =>
    by_cases h2 : n % 2 = 0
    · obtain ⟨m, k, e, ho⟩ := ih (n / 2) (by omega) (by omega)
      refine ⟨m, k + 1, ?_, ho⟩
      rw [Nat.pow_succ, ← Nat.mul_assoc, ← e]; omega
    · exact ⟨n, 0, by simp, by omega⟩
theorem tzN_split {m k : Nat} (h : m % 2 = 1) : tzN (m * 2 ^ k) = k := by rw [tzN_pow (by omega), tzN_odd h]; omega

def mk (a e : Int) : PV :=
  if a = 0 then .nums [0, 0, 0, 0] else .nums [if a < 0 then 1 else 0, ((a.natAbs / 2 ^ tzN a.natAbs : Nat) : Int), e + tzN a.natAbs, bits ((a.natAbs / 2 ^ tzN a.natAbs : Nat) : Int)]
theorem mk_zero (e : Int) : mk 0 e = .nums [0, 0, 0, 0] := by unfold mk; rw [if_pos rfl]
/-- the tuple of an odd mantissa -/
theorem mk_odd {sg : Int} {m : Nat} {ex : Int} {k : Nat} (hs : sg = 0 ∨ sg = 1) (hm : m % 2 = 1) : mk (if sg = 0 then ((m * 2 ^ k : Nat) : Int) else -((m * 2 ^ k : Nat) : Int)) ex = .nums [sg, (m : Int), ex + k, bits (m : Int)] := by
  have hp : 0 < m * 2 ^ k := Nat.mul_pos (by omega) (Nat.two_pow_pos k)
  have hd : m * 2 ^ k / 2 ^ k = m := Nat.mul_div_cancel _ (Nat.two_pow_pos k)
  rcases hs with rfl | rfl
  · rw [if_pos rfl]; unfold mk
    rw [if_neg (by omega), if_neg (by omega), Int.natAbs_natCast, tzN_split hm, hd]
  · rw [if_neg (by decide)]; unfold mk
    rw [if_neg (by omega), if_pos (by omega), Int.natAbs_neg, Int.natAbs_natCast, tzN_split hm, hd]

/-- what a tuple that is no zero looks like -/
theorem mk_raw (a e : Int) (ha : a ≠ 0) : ∃ (sg : Int) (m : Nat) (k : Nat), mk a e = .nums [sg, (m : Int), e + k, bits (m : Int)] ∧ m % 2 = 1 ∧ (sg = 0 ∧ 0 < a ∧ a = ((m * 2 ^ k : Nat) : Int) ∨ sg = 1 ∧ a < 0 ∧ a = -((m * 2 ^ k : Nat) : Int)) := by
  obtain ⟨m, k, e1, ho⟩ := split2 a.natAbs (by omega)
  rcases Int.lt_or_gt_of_ne ha with h | h
  · refine ⟨1, m, k, ?_, ho, .inr ⟨rfl, h, by omega⟩⟩
    rw [← mk_odd (.inr rfl) ho, if_neg (by decide), ← e1]
    congr 1; omega
  · refine ⟨0, m, k, ?_, ho, .inl ⟨rfl, h, by omega⟩⟩
    rw [← mk_odd (.inl rfl) ho, if_pos rfl, ← e1]
    congr 1; omega

theorem mk_shift (a e : Int) (k : Nat) : mk (a * 2 ^ k) e = mk a (e + k) := by
  by_cases ha : a = 0
  · subst ha; rw [Int.zero_mul, mk_zero, mk_zero]
  · obtain ⟨sg, m, j, h1, ho, h2⟩ := mk_raw a (e + k) ha
    rw [h1]
    have hs : sg = 0 ∨ sg = 1 := by rcases h2 with h | h <;> simp [h.1]
    have e2 : e + (k : Int) + (j : Int) = e + ((j + k : Nat) : Int) := by omega
    rw [e2, ← mk_odd hs ho]
    congr 1
    rcases h2 with ⟨rfl, _, h⟩ | ⟨rfl, _, h⟩
    · rw [if_pos rfl, h, Nat.pow_add, ← Nat.mul_assoc]; push_cast; rfl
    · rw [if_neg (by decide), h, Nat.pow_add, ← Nat.mul_assoc, Int.neg_mul]; push_cast; rfl
theorem mk_shift' (a e f : Int) (k : Nat) (h : f = e + k) : mk (a * 2 ^ k) e = mk a f := by rw [h, mk_shift]

/-! bit lengths -/
theorem bits_nat {n : Nat} (h : n ≠ 0) : bits (n : Int) = n.log2 + 1 := by
  unfold bits Builtin.Int.intBits
  have : ((n : Int) == 0) = false := by simpa using h
  rw [this]; simp
theorem bits_zero : bits 0 = 0 := by decide
theorem bits_le {x : Int} {k : Nat} : bits x ≤ k ↔ x.natAbs < 2 ^ k := intBits_le_iff
theorem bits_lt {n k : Nat} : k < bits (n : Int) ↔ 2 ^ k ≤ n := by
  have := @bits_le (n : Int) k
  rw [Int.natAbs_natCast] at this
  omega
theorem bits_eq {n k : Nat} (h1 : 2 ^ k ≤ n) (h2 : n < 2 ^ (k + 1)) : bits (n : Int) = k + 1 := by
  have a := bits_lt.mpr h1
  have b : bits (n : Int) ≤ k + 1 := bits_le.mpr (by simpa using h2)
  omega
theorem bits_mul_pow {n : Nat} (h : n ≠ 0) (k : Nat) : bits ((n * 2 ^ k : Nat) : Int) = bits (n : Int) + k := by
  have hb := bits_nat h
  have h1 : 2 ^ n.log2 ≤ n := Nat.log2_self_le h
  have h2 : n < 2 ^ (n.log2 + 1) := Nat.lt_log2_self
  rw [hb]
  have := @bits_eq (n * 2 ^ k) (n.log2 + k) (by rw [Nat.pow_add]; exact Nat.mul_le_mul_right _ h1) (by
    rw [show n.log2 + k + 1 = (n.log2 + 1) + k by omega, Nat.pow_add]; exact Nat.mul_lt_mul_of_pos_right h2 (Nat.two_pow_pos k))
  rw [this]; omega
theorem bits_neg (x : Int) : bits (-x) = bits x := by
  have a := @bits_le (-x) (bits x)
  have b := @bits_le x (bits (-x))
  rw [Int.natAbs_neg] at a
  have c := @bits_le x (bits x)
  have d := @bits_le (-x) (bits (-x))
  rw [Int.natAbs_neg] at d
  omega
theorem bits_natAbs (x : Int) : bits ((x.natAbs : Nat) : Int) = bits x := by
  rcases Int.natAbs_eq x with h | h
  · rw [← h]
  · conv => rhs; rw [h, bits_neg]

/-! the lowest bit -/
theorem and_pred (m k : Nat) (h : m % 2 = 1) : (m * 2 ^ k) &&& (m * 2 ^ k - 1) = m * 2 ^ k - 2 ^ k := by
  have h2 : ∀ a b : Nat, (2 * a) &&& (2 * b + 1) = 2 * (a &&& b) := fun a b => by
    apply Nat.eq_of_testBit_eq
    intro i
    cases i with
    | zero => simp [Nat.testBit_and]
    | succ i =>
      rw [Nat.testBit_and, Nat.testBit_succ, Nat.testBit_succ, Nat.testBit_succ, show 2 * a / 2 = a by omega, show (2 * b + 1) / 2 = b by omega, show 2 * (a &&& b) / 2 = a &&& b by omega, Nat.testBit_and]
  induction k with
  | zero =>
    simp only [Nat.pow_zero, Nat.mul_one]
    obtain ⟨q, rfl⟩ : ∃ q, m = 2 * q + 1 := ⟨m / 2, by omega⟩
    rw [Nat.add_sub_cancel, Nat.and_comm, h2, Nat.and_self]
  | succ k ih =>
    have hp : 0 < m * 2 ^ k := Nat.mul_pos (by omega) (Nat.two_pow_pos k)
    have hle : 2 ^ k ≤ m * 2 ^ k := Nat.le_mul_of_pos_left _ (by omega)
    rw [Nat.pow_succ, ← Nat.mul_assoc, Nat.mul_comm _ 2, Nat.mul_comm _ 2]
    obtain ⟨y, hy⟩ : ∃ y, m * 2 ^ k = y + 1 := ⟨m * 2 ^ k - 1, by omega⟩
    rw [show 2 * (m * 2 ^ k) - 1 = 2 * (m * 2 ^ k - 1) + 1 by omega, h2, ih]
    omega
theorem lowbit (m k : Nat) (h : m % 2 = 1) : Builtin.bitAnd ((m * 2 ^ k : Nat) : Int) (-((m * 2 ^ k : Nat) : Int)) = ((2 ^ k : Nat) : Int) := by
  have hp : 0 < m * 2 ^ k := Nat.mul_pos (by omega) (Nat.two_pow_pos k)
  have hle : 2 ^ k ≤ m * 2 ^ k := Nat.le_mul_of_pos_left _ (by omega)
  rw [PyProof.Rows.bitAnd_pn (by omega) (by omega)]
  have e : (Builtin.bitNot (-((m * 2 ^ k : Nat) : Int))).toNat = m * 2 ^ k - 1 := by
    unfold Builtin.bitNot; omega
  rw [e, Int.toNat_natCast, and_pred m k h]
  omega
theorem trail (n : Nat) (h : n ≠ 0) : ((bits (Builtin.bitAnd (n : Int) (-(n : Int))) : Nat) : Int) - 1 = tzN n := by
  obtain ⟨m, k, rfl, ho⟩ := split2 n h
  rw [lowbit m k ho, tzN_split ho]
  rw [bits_eq (k := k) (Nat.le_refl _) (by rw [Nat.pow_succ]; have := Nat.two_pow_pos k; omega)]
  omega
def sgn (sg : Int) (m : Nat) : Int := if sg = 0 then (m : Int) else -(m : Int)
theorem fdiv_nat (a k : Nat) : Int.fdiv (a : Int) (2 ^ k) = ((a / 2 ^ k : Nat) : Int) := by
  rw [Int.fdiv_eq_ediv_of_nonneg _ (by have := Nat.two_pow_pos k; have : (0:Int) ≤ ((2 ^ k : Nat) : Int) := by omega
                                       simpa using this)]
  push_cast; rfl
theorem and_one (x : Int) : Builtin.bitAnd x 1 = x % 2 := PyProof.Rows.bitAnd_m1 x
theorem and_two (t : Nat) : Builtin.bitAnd (t : Int) 2 = ((2 * (t / 2 % 2) : Nat) : Int) := by
  rw [PyProof.Rows.bitAnd_pp (by omega) (by decide)]
  congr 1
  rw [Int.toNat_natCast, show (2 : Int).toNat = 2 from rfl]
  apply Nat.eq_of_testBit_eq
  intro i
  rw [Nat.testBit_and]
  rcases i with _ | _ | i
  · simp
  · have e : Nat.testBit 2 1 = true := by decide
    rw [e, Bool.and_true, Nat.testBit_succ, Nat.testBit_succ, Nat.testBit_zero, Nat.testBit_zero, show 2 * (t / 2 % 2) / 2 = t / 2 % 2 by omega]
    congr 1; simp
  · have e : Nat.testBit 2 (i + 1 + 1) = false := by simp [Nat.testBit_succ]
    rw [e, Bool.and_false, Nat.testBit_succ, Nat.testBit_succ]
    have : 2 * (t / 2 % 2) / 2 / 2 = 0 := by omega
    rw [this, Nat.zero_testBit]
theorem and_mask (x k : Nat) : Builtin.bitAnd (x : Int) (1 * 2 ^ k - 1) = ((x % 2 ^ k : Nat) : Int) := by
  have hp := Nat.two_pow_pos k
  have e : (1 * 2 ^ k - 1 : Int) = ((2 ^ k - 1 : Nat) : Int) := by
    have : ((2 ^ k : Nat) : Int) = (2 : Int) ^ k := by push_cast; rfl
    omega
  rw [e, PyProof.Rows.bitAnd_pp (by omega) (by omega), Int.toNat_natCast, Int.toNat_natCast, Nat.and_two_pow_sub_one_eq_mod]

/-- half to even -/
def neN (m k : Nat) : Nat :=
  if m / 2 ^ (k - 1) % 2 = 1 ∧ (m / 2 ^ (k - 1) / 2 % 2 = 1 ∨ m % 2 ^ (k - 1) ≠ 0) then m / 2 ^ (k - 1) / 2 + 1 else m / 2 ^ (k - 1) / 2
/-- away from nought -/
def upN (m k : Nat) : Nat := (m + (2 ^ k - 1)) / 2 ^ k
theorem neg_fdiv (m k : Nat) : -(Int.fdiv (-(m : Int)) (2 ^ k)) = ((upN m k : Nat) : Int) := by
  have hp := Nat.two_pow_pos k
  have e : (2 : Int) ^ k = ((2 ^ k : Nat) : Int) := by push_cast; rfl
  unfold upN
  rw [e]
  generalize 2 ^ k = d at *
  rw [Int.fdiv_eq_ediv_of_nonneg _ (by omega)]
  have h1 := Nat.div_add_mod (m + (d - 1)) d
  have h2 := Nat.mod_lt (m + (d - 1)) hp
  generalize (m + (d - 1)) / d = q at *
  generalize (m + (d - 1)) % d = r at *
  have : (-(m : Int)) / (d : Int) = -(q : Int) := by
    have h3 : -(m : Int) = (d : Int) * (-(q : Int)) + ((d : Int) - 1 - r) := by
      have : (d : Int) * (q : Int) = ((d * q : Nat) : Int) := by push_cast; rfl
      rw [Int.mul_neg]; omega
    rw [h3, Int.add_comm, Int.add_mul_ediv_left _ _ (by omega), Int.ediv_eq_zero_of_lt (by omega) (by omega)]; omega
  omega
theorem mk_sgn {sg : Int} {m k : Nat} {ex : Int} (hs : sg = 0 ∨ sg = 1) (hm : m % 2 = 1) : mk (sgn sg (m * 2 ^ k)) ex = .nums [sg, (m : Int), ex + k, bits (m : Int)] := mk_odd hs hm
theorem bits_pow (b : Nat) : bits ((2 ^ b : Nat) : Int) = b + 1 := bits_eq (Nat.le_refl _) (by rw [Nat.pow_succ]; have := Nat.two_pow_pos b; omega)
theorem bits_div {m k : Nat} (h : k ≤ bits (m : Int)) : bits ((m / 2 ^ k : Nat) : Int) = bits (m : Int) - k := by
  by_cases h0 : m = 0
  · subst h0; rw [show ((0 : Nat) : Int) = 0 from rfl, bits_zero] at h; have : k = 0 := by omega
    subst this; simp [bits_zero]
  · by_cases hk : k = bits (m : Int)
    · have : m < 2 ^ k := by have := @bits_le (m : Int) k; rw [Int.natAbs_natCast] at this; exact this.mp (by omega)
      rw [Nat.div_eq_of_lt this, ← hk, Nat.sub_self]; exact bits_zero
    · obtain ⟨j, hj⟩ : ∃ j, bits (m : Int) = k + j + 1 := ⟨bits (m : Int) - k - 1, by omega⟩
      have h1 : 2 ^ (k + j) ≤ m := bits_lt.mp (by omega)
      have h2 : m < 2 ^ (k + j + 1) := by have := @bits_le (m : Int) (k + j + 1); rw [Int.natAbs_natCast] at this; exact this.mp (by omega)
      have hp := Nat.two_pow_pos k
      rw [bits_eq (k := j) ((Nat.le_div_iff_mul_le hp).mpr (by rw [← Nat.pow_add, Nat.add_comm]; exact h1)) ((Nat.div_lt_iff_lt_mul hp).mpr (by rw [← Nat.pow_add, show j + 1 + k = k + j + 1 by omega]; exact h2))]
      omega

theorem raw (a : Int) (ha : a ≠ 0) : ∃ (sg : Int) (m j : Nat), (sg = 0 ∨ sg = 1) ∧ m % 2 = 1 ∧ a = sgn sg (m * 2 ^ j) := by
  obtain ⟨m, k, e1, ho⟩ := split2 a.natAbs (by omega)
  rcases Int.lt_or_gt_of_ne ha with h | h
  · exact ⟨1, m, k, .inr rfl, ho, by unfold sgn; rw [if_neg (by decide)]; omega⟩
  · exact ⟨0, m, k, .inl rfl, ho, by unfold sgn; rw [if_pos rfl]; omega⟩
theorem sgn_neg {sg : Int} (hs : sg = 0 ∨ sg = 1) (m : Nat) : -(sgn sg m) = sgn (1 - sg) m := by
  rcases hs with rfl | rfl
  · unfold sgn; rw [if_pos rfl, if_neg (by decide)]
  · unfold sgn; rw [if_neg (by decide), if_pos (by decide), Int.neg_neg]
theorem sgn_abs {sg : Int} (m : Nat) : (((sgn sg m).natAbs : Nat) : Int) = sgn 0 m := by
  unfold sgn
  split <;> simp
theorem sgn0 (sg : Int) : sgn sg 0 = 0 := by unfold sgn; simp
theorem sgn_natAbs (sg : Int) (m : Nat) : (sgn sg m).natAbs = m := by unfold sgn; split <;> simp
theorem sgn_eq {sg : Int} (hs : sg = 0 ∨ sg = 1) (m : Nat) : sgn sg m = (if sg = 0 then 1 else -1) * (m : Int) := by
  unfold sgn; split <;> simp
theorem odd_pos {m : Nat} (h : m % 2 = 1) : m ≠ 0 := by omega
theorem odd_int {m : Nat} (h : m % 2 = 1) : ((m : Int) != 0) = true := by
  have : (m : Int) ≠ 0 := by omega
  simpa using this
def stOf (x : String) : Stmt := (PySem.Challenge.pw_aj5014_01.main.body.find? (isADef (Str.ofString x))).getD (.Pass default)
def DefSt (C : Cx) (x : String) (dfl : List PV) : Stmt → Prop
  | .FunctionDef _ params body _ _ _ scope _ _ _ => DefAt C x params body scope dfl
  | _ => False
theorem DefSt.isDef {C : Cx} {x : String} {dfl : List PV} {st : Stmt} (h : DefSt C x dfl st) : IsDef C x := by
  unfold DefSt at h
  split at h
  · exact DefAt.isDef h
  · exact h.elim
abbrev sn : Str := Str.ofString "n"
abbrev sf : Str := Str.ofString "f"
abbrev scc : Str := Str.ofString "c"
abbrev sd : Str := Str.ofString "d"
def GlobIs (C : Cx) (x : String) (p : PV) : Prop := ∃ v, nsIn C.K mainGlobals (Str.ofString x) = some (some v) ∧ ∀ h, C.K.In h → Rep h v p
def BuiltIs (C : Cx) (x : String) (v : Value) : Prop := nsIn C.K mainGlobals (Str.ofString x) = some none ∧ bootBuiltins (Str.ofString x) = some v
def gtab : List (String × PV) := [("round_nearest", .str sn), ("round_floor", .str sf), ("round_ceiling", .str scc), ("round_down", .str sd), ("round_fast", .str sd), ("MPZ_ONE", .int 1), ("MPZ_ZERO", .int 0),
  ("fzero", .nums [0, 0, 0, 0]), ("fone", .nums [0, 1, 0, 1]), ("fnone", .nums [1, 1, 0, 1]), ("fnan", .nums [0, 0, -123, -1]), ("finf", .nums [0, 0, -456, -2]), ("fninf", .nums [1, 0, -789, -3])]
def btab : List (String × Value) := [("min", .builtin "min"), ("divmod", .builtin "divmod"), ("isinstance", .builtin "isinstance"), ("int", .type "int"), ("range", .type "range"), ("len", .builtin "len")]
def dtab : List (String × List PV) := [("trailing", []), ("round_int", []), ("_normalize", []), ("normalize", []), ("from_man_exp", [.int 0, .str sd]), ("from_int", [.int 0, .str sd]), ("to_int", [.str sd]), ("mpf_round_int", []), ("mpf_floor", [.int 0, .str sd]), ("mpf_ceil", [.int 0, .str sd]),
  ("mpf_nint", [.int 0, .str sd]), ("mpf_frac", [.int 0, .str sd]), ("mpf_cmp", []), ("mpf_lt", []), ("mpf_le", []), ("mpf_pos", [.int 0, .str sd]), ("mpf_neg", [.int 0, .str sd]), ("mpf_abs", [.int 0, .str sd]), ("mpf_sign", []), ("mpf_add", [.int 0, .str sd, .int 0]), ("mpf_sub", [.int 0, .str sd]), ("mpf_sum", [.int 0, .str sd, .bool false]),
  ("mpf_mul", [.int 0, .str sd]), ("mpf_mul_int", [.str sd]), ("mpf_shift", []), ("mpf_div", [.str sd]), ("mpf_mod", [.str sd]), ("_law_mixed", []), ("_law_raw", []), ("_law_rest_right", []), ("_law_parts_right", []), ("_law_common_right", [])]

structure Facts (C : Cx) : Prop where
  glob : ∀ x p, gtab.lookup x = some p → GlobIs C x p
  built : ∀ x v, btab.lookup x = some v → BuiltIs C x v
  defs : ∀ x d, dtab.lookup x = some d → DefSt C x d (stOf x)
  sd : ∃ a, nsIn C.K mainGlobals (Str.ofString "shifts_down") = some (some (.ref a)) ∧ TabAt C a sf (.nums [1, 0]) ∧ TabAt C a scc (.nums [0, 1])

section
variable {C : Cx} {sc : Scope} {n : Nat} {ρ : Loc} {Φ : Out → Prop} {φ : PV → Prop} {ss : List Stmt} {p : PV}
theorem look_skip {ρ : Loc} {x y : String} {p q : PV} (hd : (x == y) = false) (h : look ρ x = some p) : look ((y, q) :: ρ) x = some p := by
  unfold look; rw [List.lookup_cons, hd]; exact h
theorem toRet_ret (h : φ p) : toRet φ (.ret p) := h
theorem len_ok {P : Prop} {l : List PV} (h : P) (hl : l.length ≤ sizeLine) : P ∧ l.length ≤ sizeLine := ⟨h, hl⟩
theorem k_t {P Q : Prop} (h : P) : (true = true → P) ∧ (true = false → Q) := ⟨fun _ => h, fun e => by cases e⟩
theorem k_f {P Q : Prop} (h : Q) : (false = true → P) ∧ (false = false → Q) := ⟨fun e => (by cases e), fun _ => h⟩
theorem k_t' {P Q : Prop} (h : Q) : (true = false → P) ∧ (true = true → Q) := ⟨fun e => (by cases e), fun _ => h⟩
theorem k_f' {P Q : Prop} (h : P) : (false = false → P) ∧ (false = true → Q) := ⟨fun _ => h, fun e => by cases e⟩
theorem k_nt {P Q : Prop} (h : Q) : ((!true) = true → P) ∧ ((!true) = false → Q) := ⟨fun e => (by cases e), fun _ => h⟩
theorem k_nf {P Q : Prop} (h : P) : ((!false) = true → P) ∧ ((!false) = false → Q) := ⟨fun _ => h, fun e => by cases e⟩
theorem bne_f {x : Int} (h : (x != 0) = false) : x = 0 := by simpa using h
theorem bne_t {x : Int} (h : (x != 0) = true) : x ≠ 0 := by simpa using h
theorem k_next {Ψ : Loc → Prop} {Θ : PV → Prop} (h : Ψ ρ) : (∀ ρ', Out.next ρ = .next ρ' → Ψ ρ') ∧ (∀ p, Out.next ρ = .ret p → Θ p) :=
  ⟨fun ρ' e => by cases e; exact h, fun p e => by cases e⟩
theorem k_ret {Ψ : Loc → Prop} {Θ : PV → Prop} (h : Θ p) : (∀ ρ', Out.ret p = .next ρ' → Ψ ρ') ∧ (∀ q, Out.ret p = .ret q → Θ q) :=
  ⟨fun ρ' e => (by cases e), fun q e => by cases e; exact h⟩
/-- a statement with what holds of the names behind it -/
theorem Ex.cut {st : Stmt} (Ψ : Loc → Prop) (h : Ex1 C sc n ρ st fun o => (∀ ρ', o = .next ρ' → Ψ ρ') ∧ (∀ p, o = .ret p → Φ (.ret p))) (ht : ∀ ρ', Ψ ρ' → Ex C sc n ρ' ss Φ) : Ex C sc n ρ (st :: ss) Φ := by
  refine Ex.cons ?_
  intro env A h₀ s Q E a b c d k1 k2
  exact h env A h₀ s Q E a b c d (fun h' tk' ρ' hp => k1 h' tk' ρ' ⟨fun ρ'' e => by cases e; exact ht _ (hp.1 _ rfl), fun p e => by cases e⟩) fun h' tk' v p hp => k2 h' tk' v p ⟨fun ρ'' e => (by cases e), fun q e => by cases e; exact hp.2 _ rfl⟩
theorem Ev.globF {x : String} {pos : Pos} (F : Facts C) (hp : gtab.lookup x = some p) (hx : sc.names.lookup (Str.ofString x) = some .globalImplicit) (h : φ p) (hd : (Str.ofString x == ("__debug__" : Str)) = false := by decide) : Ev C sc n ρ (.Name (Str.ofString x) pos) φ := by
  obtain ⟨v, h1, h2⟩ := F.glob x p hp
  exact Ev.glob hx h1 h2 h hd
theorem Ev.callF {x : String} {d : List PV} {e : Expr} {es : List Expr} {p1 pos : Pos} (F : Facts C) (hp : dtab.lookup x = some d) (hx : sc.names.lookup (Str.ofString x) = some .globalImplicit)
    (h : Evs C sc n ρ (e :: es) fun ps => CallOK C n x ps φ)
    (hn : (Str.ofString x == ("__debug__" : Str)) = false := by decide)
    (he : ∀ env, starEach (e :: es) env = (false, eval e env) :: starEach es env := by intro _; rfl) (hpl : ∀ pos env, (backTo pos (starEach es env)).any (·.1) = false := by intro _ _; rfl) :
    Ev C sc n ρ (.Call (.Name (Str.ofString x) p1) (e :: es) [] pos) φ := Ev.call (F.defs x d hp).isDef hx h hn he hpl
theorem Ev.bvalF {x : String} {pos : Pos} {v : Value} (F : Facts C) (hp : btab.lookup x = some v) (hx : sc.names.lookup (Str.ofString x) = some .globalImplicit) (h : φ (.val v)) (hn : Str.ofString x ≠ "__name__" := by decide)
    (hd : (Str.ofString x == ("__debug__" : Str)) = false := by decide) : Ev C sc n ρ (.Name (Str.ofString x) pos) φ := Ev.bval hx (F.built x v hp).1 (F.built x v hp).2 h hn hd
theorem Ev.bcallF {x : String} {id : String} {e : Expr} {es : List Expr} {p1 pos : Pos} (F : Facts C) (hp : btab.lookup x = some (.builtin id)) (hx : sc.names.lookup (Str.ofString x) = some .globalImplicit)
    (h : Evs C sc n ρ (e :: es) fun ps => BuiltOK C (.builtin id) ps φ) (hn : Str.ofString x ≠ "__name__" := by decide) (hd : (Str.ofString x == ("__debug__" : Str)) = false := by decide)
    (he : ∀ env, starEach (e :: es) env = (false, eval e env) :: starEach es env := by intro _; rfl) (hpl : ∀ pos env, (backTo pos (starEach es env)).any (·.1) = false := by intro _ _; rfl) :
    Ev C sc n ρ (.Call (.Name (Str.ofString x) p1) (e :: es) [] pos) φ := Ev.bcall hx (F.built x _ hp).1 (F.built x _ hp).2 h hn hd he hpl
theorem Ev.tcallF {x : String} {T : String} {e : Expr} {es : List Expr} {p1 pos : Pos} (F : Facts C) (hp : btab.lookup x = some (.type T)) (hx : sc.names.lookup (Str.ofString x) = some .globalImplicit)
    (h : Evs C sc n ρ (e :: es) fun ps => BuiltOK C (.type T) ps φ) (hn : Str.ofString x ≠ "__name__" := by decide) (hd : (Str.ofString x == ("__debug__" : Str)) = false := by decide)
    (he : ∀ env, starEach (e :: es) env = (false, eval e env) :: starEach es env := by intro _; rfl) (hpl : ∀ pos env, (backTo pos (starEach es env)).any (·.1) = false := by intro _ _; rfl) :
    Ev C sc n ρ (.Call (.Name (Str.ofString x) p1) (e :: es) [] pos) φ := Ev.tcall hx (F.built x _ hp).1 (F.built x _ hp).2 h hn hd he hpl
/-- t[e], a tuple at a reckoned place within it -/
theorem Ev.itemv {value slice : Expr} {pos : Pos} (h : Ev C sc n ρ value fun p => Ev C sc n ρ slice fun i => ∃ (l : List PV) (k : Nat) (q : PV), p = .tup l ∧ i = .int k ∧ l[k]? = some q ∧ k < 100 ∧ φ q)
    (hsub : ∀ (l : Addr) (k : Int) (u : Tok), subscripted slice false (.ref l) (.int k u) = operate [.ref l, .int k u] (getItem (.ref l) (.int k u)) := by intro _ _ _; with_unfolding_all rfl) : Ev C sc n ρ (.Subscript value slice pos) φ := by
  intro env A s Q E hs hp hr ho hn q
  refine Subscript_ (h env A s _ E hs hp hr ho hn fun h1 t1 v p hq k1 r1 => ?_)
  refine hq env A _ _ E hs hp hr (ho.keep k1) (hn.keep k1) fun h2 t2 u i hq2 k2 r2 => ?_
  obtain ⟨l, k, x, rfl, rfl, hx, hk, hφ⟩ := hq2
  cases r2
  cases r1 with
  | tup ht rs =>
    rename_i a0 vs0
    have rs' := rs.keep k2
    obtain ⟨y, hu, hru⟩ := rs'.get hx
    have hlt : k < vs0.length := by
      rcases Nat.lt_or_ge k vs0.length with h | h
      · exact h
      · rw [List.getElem?_eq_none h] at hu; cases hu
    refine item_tupleT (j := k) (s := { s with heap := h2, toks := t2 }) (IsTup.sk ht k2.seq) (by omega) (by omega) ?_ hu (q h2 _ y x hφ (k1.trans k2) hru) (hsub _ _ _)
    unfold seqIndex?
    have c0 : ¬ ((k : Nat) : Int) < 0 := by omega
    simp only [c0, if_false]
    simp [hlt]
end
-- one step
local macro_rules | `(tactic| walk_at "mine name") => `(tactic| first
  | refine Ev.name (by first | rfl | (repeat (first | assumption | refine look_skip (by decide) ?_))) ?_
  | refine Ev.globF (by assumption) (by rfl) (by rfl) ?_
  | refine Ev.bvalF (by assumption) (by rfl) (by rfl) ?_)
local macro_rules | `(tactic| walk_at "mine callx") => `(tactic| first
  | refine Ev.callF (by assumption) (by rfl) (by rfl) ?_
  | refine Ev.bcallF (by assumption) (by rfl) (by rfl) ?_
  | refine Ev.tcallF (by assumption) (by rfl) (by rfl) ?_)
local macro_rules | `(tactic| walk_at "mine ev") => `(tactic| first
  | ((with_reducible show Ev _ _ _ _ (Expr.Name _ _) _); walk_at "mine name")
  | ((with_reducible show Ev _ _ _ _ (Expr.Constant (Const.int _) _ _) _); refine Ev.cint ?_)
  | ((with_reducible show Ev _ _ _ _ (Expr.BinOp _ _ _ _) _); refine Ev.bin ?_)
  | ((with_reducible show Ev _ _ _ _ (Expr.Call (Expr.Name _ _) _ _ _) _); walk_at "mine callx")
  | ((with_reducible show Ev _ _ _ _ (Expr.UnaryOp UnaryOp.USub _ _) _); refine Ev.neg ?_)
  | ((with_reducible show Ev _ _ _ _ (Expr.Compare _ _ _ _) _); refine Ev.cmp ?_)
  | ((with_reducible show Ev _ _ _ _ (Expr.Tuple _ _ _) _); refine Ev.tuple ?_)
  | ((with_reducible show Ev _ _ _ _ (Expr.Call (Expr.Attribute _ _ _) _ _ _) _); refine Ev.bits ?_)
  | ((with_reducible show Ev _ _ _ _ (Expr.BoolOp _ [_] _) _); refine Ev.or_one ?_)
  | ((with_reducible show Ev _ _ _ _ (Expr.BoolOp BoolOp.Or _ _) _); refine Ev.or ?_)
  | ((with_reducible show Ev _ _ _ _ (Expr.BoolOp BoolOp.And _ _) _); refine Ev.and ?_)
  | ((with_reducible show Ev _ _ _ _ (Expr.Constant (Const.bool _) _ _) _); refine Ev.cbool ?_)
  | ((with_reducible show Ev _ _ _ _ (Expr.UnaryOp UnaryOp.Not _ _) _); refine Ev.not ?_)
  | ((with_reducible show Ev _ _ _ _ (Expr.IfExp _ _ _ _) _); refine Ev.ifexp ?_)
  | ((with_reducible show Ev _ _ _ _ (Expr.List _ _) _); refine Ev.listd ?_))
local macro_rules | `(tactic| walk_at "mine ts") => `(tactic| first
  | ((with_reducible show Ts _ _ _ _ (Expr.Compare _ _ _ _) _); refine Ts.cmp ?_)
  | ((with_reducible show Ts _ _ _ _ (Expr.UnaryOp UnaryOp.Not _ _) _); refine Ts.not ?_)
  | ((with_reducible show Ts _ _ _ _ (Expr.BoolOp BoolOp.And [] _) _); refine Ts.and_nil ?_)
  | ((with_reducible show Ts _ _ _ _ (Expr.BoolOp BoolOp.And _ _) _); refine Ts.and ?_)
  | ((with_reducible show Ts _ _ _ _ (Expr.BoolOp BoolOp.Or [] _) _); refine Ts.or_nil ?_)
  | ((with_reducible show Ts _ _ _ _ (Expr.BoolOp BoolOp.Or _ _) _); refine Ts.or ?_)
  | refine Ts.plain ?_)
local macro_rules | `(tactic| walk_at "mine s2") => `(tactic| first
  | ((with_reducible show Step2 _ (binaryOp Operator.Add) _ _ _); refine s_add ?_)
  | ((with_reducible show Step2 _ (binaryOp Operator.Sub) _ _ _); refine s_sub ?_)
  | ((with_reducible show Step2 _ (binaryOp Operator.BitAnd) _ _ _); refine s_and ?_)
  | ((with_reducible show Step2 _ (binaryOp Operator.BitXor) _ _ _); refine s_xor ?_)
  | ((with_reducible show Step2 _ (binaryOp Operator.RShift) _ _ _); refine s_shr (by omega) ?_)
  | ((with_reducible show Step2 _ (inplaceOp Operator.RShift) _ _ _); refine i_shr (by omega) ?_)
  | ((with_reducible show Step2 _ (inplaceOp Operator.Add) _ _ _); refine i_add ?_)
  | ((with_reducible show Step2 _ (inplaceOp Operator.Sub) _ _ _); refine i_sub ?_)
  | ((with_reducible show Step2 _ (inplaceOp Operator.BitXor) _ _ _); refine i_xor ?_)
  | ((with_reducible show Step2 _ (compareOp CmpOp.Eq) (PV.int _) _ _); refine c_eq ?_)
  | ((with_reducible show Step2 _ (compareOp CmpOp.NotEq) (PV.int _) _ _); refine c_ne ?_)
  | ((with_reducible show Step2 _ (compareOp CmpOp.Lt) _ _ _); refine c_lt ?_)
  | ((with_reducible show Step2 _ (compareOp CmpOp.LtE) _ _ _); refine c_le ?_)
  | ((with_reducible show Step2 _ (compareOp CmpOp.Gt) _ _ _); refine c_gt ?_)
  | ((with_reducible show Step2 _ (compareOp CmpOp.GtE) _ _ _); refine c_ge ?_)
  | ((with_reducible show Step2 _ (compareOp CmpOp.Eq) (PV.str _) _ _); refine c_eqs ?_)
  | ((with_reducible show Step2 _ (compareOp CmpOp.Eq) (PV.tup _) _ _); refine c_eqt ?_)
  | ((with_reducible show Step2 _ (compareOp CmpOp.NotEq) (PV.tup _) _ _); refine c_net ?_))
local macro_rules | `(tactic| walk_at "mine unpack") => `(tactic| (refine Ex1.unpack (xs := _) (by first | exact .cons (.cons (.cons (.cons .nil))) | exact .cons (.cons .nil) | exact .cons (.cons (.cons .nil))) ?_ (by decide) (by intro _; rfl) (by intro _ _; rfl)))
local macro_rules | `(tactic| walk_at "mine unpacked") => `(tactic| (refine Exists.intro _ (And.intro (Or.inl rfl) (And.intro rfl ?_)); dsimp only [putAll, List.map]))
local macro_rules | `(tactic| walk_at "mine ex1") => `(tactic| first
  | ((with_reducible show Ex1 _ _ _ _ (Stmt.Return _ _) _); refine Ex1.ret ?_)
  | ((with_reducible show Ex1 _ _ _ _ (Stmt.If _ _ _ _) _); refine Ex1.ite ?_)
  | ((with_reducible show Ex1 _ _ _ _ (Stmt.Assign [Expr.Name _ _] _ _) _); refine Ex1.assign ?_)
  | ((with_reducible show Ex1 _ _ _ _ (Stmt.AugAssign _ _ _ _) _); refine Ex1.aug (by first | rfl | (repeat (first | assumption | refine look_skip (by decide) ?_))) ?_)
  | ((with_reducible show Ex1 _ _ _ _ (Stmt.Assign [Expr.Tuple _ _ _] _ _) _); walk_at "mine unpack")
  | ((with_reducible show Ex1 _ _ _ _ (Stmt.Assert _ _ _) _); refine Ex1.assert ?_))
local macro_rules | `(tactic| walk_at "mine step") => `(tactic| first
  | ((with_reducible show Ev _ _ _ _ _ _); walk_at "mine ev")
  | ((with_reducible show Step2 _ _ _ _ _); walk_at "mine s2")
  | ((with_reducible show Ex1 _ _ _ _ _ _); walk_at "mine ex1")
  | ((with_reducible show Ex _ _ _ _ _ _); first | refine Ex.cons ?_ | refine Ex.nil ?_)
  | ((with_reducible show Ts _ _ _ _ _ _); walk_at "mine ts")
  | ((with_reducible show Truth _ _ _); first | refine truth_bool ?_ | refine truth_int ?_)
  | ((with_reducible show Evs _ _ _ _ _ _); first | refine Evs.cons ?_ | refine Evs.nil ?_)
  | (with_reducible refine k_next ?_)
  | (with_reducible refine k_ret ?_)
  | (with_reducible refine toRet_ret ?_)
  | (with_reducible refine k_t ?_)
  | (with_reducible refine k_nt ?_)
  | (with_reducible refine k_nf ?_)
  | (with_reducible refine k_f ?_)
  | (with_reducible refine k_t' ?_)
  | (with_reducible refine k_f' ?_)
  | (with_reducible refine len_ok ?_ (by simp only [List.length_cons, List.length_nil]; decide))
  | (with_reducible refine Exists.intro _ (And.intro rfl ?_))
  | walk_at "mine unpacked")

-- the same, but no statement is begun
local macro_rules | `(tactic| walk_at "mine expr") => `(tactic| first
  | ((with_reducible show Ev _ _ _ _ _ _); walk_at "mine ev")
  | ((with_reducible show Step2 _ _ _ _ _); walk_at "mine s2")
  | ((with_reducible show Ex1 _ _ _ _ _ _); walk_at "mine ex1")
  | ((with_reducible show Ex _ _ _ _ _ _); refine Ex.nil ?_)
  | ((with_reducible show Ts _ _ _ _ _ _); walk_at "mine ts")
  | ((with_reducible show Truth _ _ _); first | refine truth_bool ?_ | refine truth_int ?_)
  | ((with_reducible show Evs _ _ _ _ _ _); first | refine Evs.cons ?_ | refine Evs.nil ?_)
  | (with_reducible refine k_next ?_)
  | (with_reducible refine k_ret ?_)
  | (with_reducible refine toRet_ret ?_)
  | (with_reducible refine k_t ?_)
  | (with_reducible refine k_nt ?_)
  | (with_reducible refine k_nf ?_)
  | (with_reducible refine k_f ?_)
  | (with_reducible refine k_t' ?_)
  | (with_reducible refine k_f' ?_)
  | (with_reducible refine len_ok ?_ (by simp only [List.length_cons, List.length_nil]; decide))
  | (with_reducible refine Exists.intro _ (And.intro rfl ?_))
  | walk_at "mine unpacked")
theorem ok_trailing {C : Cx} (F : Facts C) (n : Nat) (m : Nat) (hm : m ≠ 0) {φ : PV → Prop} (h : φ (.int (tzN m))) : CallOK C (n + 1) "trailing" [.int m] φ := by
  refine callD (show DefAt C "trailing" _ _ _ _ from F.defs "trailing" _ rfl) ["n"] (ρ₀ := [("n", .int m)]) rfl rfl (by decide) rfl rfl rfl rfl rfl (by decide) rfl rfl rfl ?_
  repeat (walk_at "mine step")
  refine And.intro (fun hb => ?_) (fun hb => ?_)
  · exfalso; simp at hb; omega
  repeat (walk_at "mine step")
  show φ _
  rw [trail m hm]; exact h
/-- the last three statements of _normalize: trailing zeros off -/
theorem norm_tail {C : Cx} (F : Facts C) {n : Nat} {ρ : Loc} {φ : PV → Prop} {sg ex b : Int} {r : Nat} (hs : sg = 0 ∨ sg = 1) (hr : r ≠ 0) (hb : (bits (r : Int) : Int) = b ∨ ∃ k : Nat, r = 2 ^ k)
    (l1 : look ρ "sign" = some (.int sg)) (l2 : look ρ "man" = some (.int r)) (l3 : look ρ "exp" = some (.int ex)) (l4 : look ρ "bc" = some (.int b)) (h : φ (mk (sgn sg r) ex)) :
    ∀ st, DefSt C "_normalize" [] st → st = stOf "_normalize" → (match st with
      | .FunctionDef _ params body _ _ _ scope _ _ _ => Ex C scope (n + 1) ρ (body.drop 3) (toRet φ)
      | _ => True) := by
  rintro st - rfl
  obtain ⟨m, k, rfl, hm⟩ := split2 r hr
  have htz : tzN (m * 2 ^ k) = k := tzN_split hm
  have hdiv : m * 2 ^ k / 2 ^ k = m := Nat.mul_div_cancel _ (Nat.two_pow_pos k)
  have hbm := bits_mul_pow (n := m) (by omega) k
  have hone : ∀ j, m * 2 ^ k = 2 ^ j → m = 1 := by
    intro j e
    rcases Nat.lt_or_ge j k with c | c
    · have : 2 ^ k ≤ m * 2 ^ k := Nat.le_mul_of_pos_left _ (by omega)
      have : 2 ^ j < 2 ^ k := Nat.pow_lt_pow_right (by decide) c
      omega
    · obtain ⟨i, rfl⟩ : ∃ i, j = k + i := ⟨j - k, by omega⟩
      rw [Nat.pow_add, Nat.mul_comm] at e
      have e2 : m = 2 ^ i := Nat.eq_of_mul_eq_mul_left (Nat.two_pow_pos k) e
      rcases i with _ | i
      · simpa using e2
      · rw [Nat.pow_succ] at e2; omega
  have fin : ∀ b' : Int, (if m = 1 then b' = 1 else b' = bits (m : Int)) → φ (.nums [sg, (m : Int), ex + k, b']) := by
    intro b' hb'
    rw [mk_sgn hs hm] at h
    by_cases c : m = 1
    · rw [if_pos c] at hb'; subst hb'; subst c; exact h
    · rw [if_neg c] at hb'; subst hb'; exact h
  show Ex C _ (n + 1) ρ (List.drop 3 _) (toRet φ)
  refine Ex.cons (st := ?_) (ss := ?_) ?_
  repeat (walk_at "mine step")
  refine And.intro (fun hc => ?_) (fun hc => ?_)
  · -- even
    repeat (walk_at "mine step")
    refine ok_trailing F _ (m * 2 ^ k) hr ?_
    rw [htz]
    repeat (walk_at "mine step")
    simp only [Int.toNat_natCast, fdiv_nat, hdiv]
    refine And.intro (fun hd => ?_) (fun hd => ?_)
    · repeat (walk_at "mine step")
      refine fin 1 ?_
      have : m = 1 := by have := of_decide_eq_true hd; omega
      rw [if_pos this]
    · repeat (walk_at "mine step")
      refine fin _ ?_
      have hm1 : m ≠ 1 := by have := of_decide_eq_false hd; omega
      rw [if_neg hm1]
      rcases hb with hb | ⟨j, hj⟩
      · omega
      · exact absurd (hone j hj) hm1
  · -- odd
    have hk : k = 0 := by
      rw [and_one] at hc
      rcases k with _ | k
      · rfl
      · exfalso
        have : ((m * 2 ^ (k + 1) : Nat) : Int) % 2 = 0 := by rw [Nat.pow_succ, ← Nat.mul_assoc]; omega
        rw [this] at hc; simp at hc
    subst hk
    simp only [Nat.pow_zero, Nat.mul_one] at *
    have e0 : ex + ((0 : Nat) : Int) = ex := by omega
    rw [e0] at fin
    repeat (walk_at "mine step")
    refine And.intro (fun hd => ?_) (fun hd => ?_)
    · repeat (walk_at "mine step")
      refine fin 1 ?_
      have : m = 1 := by have := of_decide_eq_true hd; omega
      rw [if_pos this]
    · repeat (walk_at "mine step")
      refine fin _ ?_
      have hm1 : m ≠ 1 := by have := of_decide_eq_false hd; omega
      rw [if_neg hm1]
      rcases hb with hb | ⟨j, hj⟩
      · omega
      · exact absurd (hone j hj) hm1

def NT (sg : Int) (φ : PV → Prop) (ρ : Loc) : Prop := ∃ (r : Nat) (ex b : Int), r ≠ 0 ∧ ((bits (r : Int) : Int) = b ∨ ∃ k : Nat, r = 2 ^ k) ∧ look ρ "sign" = some (.int sg) ∧ look ρ "man" = some (.int r) ∧ look ρ "exp" = some (.int ex) ∧ look ρ "bc" = some (.int b) ∧ φ (mk (sgn sg r) ex)
/-- the mantissa behind k places cut off -/
def rdN (rnd : Str) (sg : Int) (m k : Nat) : Nat := if rnd = sn then neN m k else if (rnd = sf ∧ sg = 0) ∨ (rnd = scc ∧ sg = 1) then m / 2 ^ k else upN m k
theorem rd_bits {rnd : Str} {sg : Int} {m k : Nat} (hk : 1 ≤ k) (h : k < bits (m : Int)) : (bits ((rdN rnd sg m k : Nat) : Int) : Int) = bits (m : Int) - k ∨ ∃ j : Nat, rdN rnd sg m k = 2 ^ j := by
  obtain ⟨j, hj⟩ : ∃ j, bits (m : Int) = k + j + 1 := ⟨bits (m : Int) - k - 1, by omega⟩
  have h1 : 2 ^ (k + j) ≤ m := bits_lt.mp (by omega)
  have h2 : m < 2 ^ (k + j + 1) := by have := @bits_le (m : Int) (k + j + 1); rw [Int.natAbs_natCast] at this; exact this.mp (by omega)
  have hp := Nat.two_pow_pos k
  have a1 : 2 ^ j ≤ m / 2 ^ k := (Nat.le_div_iff_mul_le hp).mpr (by rw [← Nat.pow_add, Nat.add_comm]; exact h1)
  have a2 : m / 2 ^ k < 2 ^ (j + 1) := (Nat.div_lt_iff_lt_mul hp).mpr (by rw [← Nat.pow_add, show j + 1 + k = k + j + 1 by omega]; exact h2)
  have key : ∀ r, (r = m / 2 ^ k ∨ r = m / 2 ^ k + 1) → (bits (r : Int) : Int) = bits (m : Int) - k ∨ ∃ j : Nat, r = 2 ^ j := by
    intro r hr
    by_cases c : r = 2 ^ (j + 1)
    · exact .inr ⟨_, c⟩
    · left
      rw [bits_eq (k := j) (by omega) (by omega)]; omega
  apply key
  have hup : upN m k = m / 2 ^ k ∨ upN m k = m / 2 ^ k + 1 := by
    unfold upN
    generalize 2 ^ k = d at *
    have e1 : m / d ≤ (m + (d - 1)) / d := Nat.div_le_div_right (by omega)
    have e2 : (m + (d - 1)) / d ≤ (m + d) / d := Nat.div_le_div_right (by omega)
    rw [Nat.add_div_right _ hp] at e2
    omega
  have hne : neN m k = m / 2 ^ k ∨ neN m k = m / 2 ^ k + 1 := by
    unfold neN
    have e : m / 2 ^ (k - 1) / 2 = m / 2 ^ k := by
      rw [Nat.div_div_eq_div_mul, ← Nat.pow_succ, show (k - 1).succ = k by omega]
    rw [e]
    split <;> simp
  unfold rdN
  split
  · exact hne
  · split
    · exact .inl rfl
    · exact hup
theorem rd_pos {rnd : Str} {sg : Int} {m k : Nat} (hk : 1 ≤ k) (h : k < bits (m : Int)) : rdN rnd sg m k ≠ 0 := by
  rcases rd_bits (rnd := rnd) (sg := sg) hk h with e | ⟨j, e⟩
  · intro h0; rw [h0, show ((0 : Nat) : Int) = 0 from rfl, bits_zero] at e; omega
  · rw [e]; have := Nat.two_pow_pos j; omega

theorem ok__normalize {C : Cx} (F : Facts C) (n : Nat) {sg ex prec : Int} {m : Nat} {rnd : Str} {φ : PV → Prop} (hs : sg = 0 ∨ sg = 1)
    (h1 : (m = 0 ∨ (bits (m : Int) : Int) ≤ prec) → φ (mk (sgn sg m) ex))
    (h2 : ∀ k : Nat, m ≠ 0 → (bits (m : Int) : Int) - prec = k → 1 ≤ k → (rnd = sn ∨ rnd = sf ∨ rnd = scc) ∧ 1 ≤ prec ∧ bits (m : Int) ≤ 100000 ∧ φ (mk (sgn sg (rdN rnd sg m k)) (ex + k))) :
    CallOK C (n + 2) "_normalize" [.int sg, .int m, .int ex, .int (bits (m : Int)), .int prec, .str rnd] φ := by
  refine callD (show DefAt C "_normalize" _ _ _ _ from F.defs "_normalize" _ rfl) ["sign", "man", "exp", "bc", "prec", "rnd"] (ρ₀ := [("rnd", .str rnd), ("prec", .int prec), ("bc", .int (bits (m : Int))), ("exp", .int ex), ("man", .int m), ("sign", .int sg)]) rfl rfl (by decide) rfl rfl rfl rfl rfl (by decide) rfl rfl rfl ?_
  have tail := fun (ρ : Loc) (r : Nat) (e b : Int) a1 a2 a3 a4 a5 a6 a7 => norm_tail F (n := n) (ρ := ρ) (φ := φ) (sg := sg) (ex := e) (b := b) (r := r) hs a1 a2 a3 a4 a5 a6 a7 _ (F.defs "_normalize" _ rfl) rfl
  repeat (walk_at "mine step")
  refine And.intro (fun hb => ?_) (fun hb => ?_)
  · have hm : m = 0 := by simpa using hb
    subst hm
    repeat (walk_at "mine step")
    have := h1 (.inl rfl)
    unfold sgn at this
    rw [show ((0 : Nat) : Int) = 0 from rfl, Int.neg_zero, ite_self, mk_zero] at this
    exact this
  have hm : m ≠ 0 := by simpa using hb
  repeat (walk_at "mine expr")
  refine Ex.cons ?_
  repeat (walk_at "mine expr")
  generalize hn : (bits (m : Int) : Int) - prec = nn
  refine Ex.cut (NT sg φ) ?_ fun ρ' ⟨r, e, b, a1, a2, a3, a4, a5, a6, a7⟩ => tail ρ' r e b a1 a2 a3 a4 a5 a6 a7
  repeat (walk_at "mine step")
  refine And.intro (fun hb => ?_) (fun hb => ?_)
  · have hpos := of_decide_eq_true hb
    obtain ⟨k, rfl⟩ : ∃ k : Nat, nn = k := ⟨nn.toNat, by omega⟩
    have hk : 1 ≤ k := by omega
    obtain ⟨hrnd, hprec, hbig, hφ⟩ := h2 k hm hn hk
    have hkb : k < bits (m : Int) := by omega
    have fin : ∀ (ρ : Loc) (r : Nat), r = rdN rnd sg m k → look ρ "sign" = some (.int sg) → look ρ "man" = some (.int r) → look ρ "exp" = some (.int (ex + k)) → look ρ "bc" = some (.int prec) → NT sg φ ρ :=
      fun ρ r hr a1 a2 a3 a4 => ⟨r, ex + k, prec, by rw [hr]; exact rd_pos hk hkb, by rw [hr]; rcases rd_bits (rnd := rnd) (sg := sg) hk hkb with e | e; exact .inl (by omega); exact .inr e, a1, a2, a3, a4, by rw [hr]; exact hφ⟩
    have e1 : ((k : Int) - 1).toNat = k - 1 := by omega
    repeat (walk_at "mine step")
    refine And.intro (fun hb => ?_) (fun hb => ?_)
    · have hr : rnd = sn := of_decide_eq_true hb
      have hrd : rdN rnd sg m k = neN m k := by unfold rdN; rw [if_pos hr]
      repeat (walk_at "mine step")
      rw [e1, fdiv_nat]
      have t1 : (Int.fdiv ((m / 2 ^ (k - 1) : Nat) : Int) (2 ^ (1 : Int).toNat)) = ((m / 2 ^ (k - 1) / 2 : Nat) : Int) := fdiv_nat _ 1
      have o1 : (Builtin.bitAnd ((m / 2 ^ (k - 1) : Nat) : Int) 1 != 0) = decide (m / 2 ^ (k - 1) % 2 = 1) := by
        rw [and_one]
        rcases Nat.mod_two_eq_zero_or_one (m / 2 ^ (k - 1)) with h | h
        · rw [h, show ((m / 2 ^ (k - 1) : Nat) : Int) % 2 = 0 by omega]; rfl
        · rw [h, show ((m / 2 ^ (k - 1) : Nat) : Int) % 2 = 1 by omega]; rfl
      have o2 : (Builtin.bitAnd ((m / 2 ^ (k - 1) : Nat) : Int) 2 != 0) = decide (m / 2 ^ (k - 1) / 2 % 2 = 1) := by
        rw [and_two]
        rcases Nat.mod_two_eq_zero_or_one (m / 2 ^ (k - 1) / 2) with h | h
        · rw [h]; rfl
        · rw [h]; rfl
      have up : m / 2 ^ (k - 1) % 2 = 1 → (m / 2 ^ (k - 1) / 2 % 2 = 1 ∨ m % 2 ^ (k - 1) ≠ 0) → m / 2 ^ (k - 1) / 2 + 1 = rdN rnd sg m k := fun a b => by rw [hrd]; unfold neN; rw [if_pos ⟨a, b⟩]
      have dn : ¬ (m / 2 ^ (k - 1) % 2 = 1 ∧ (m / 2 ^ (k - 1) / 2 % 2 = 1 ∨ m % 2 ^ (k - 1) ≠ 0)) → m / 2 ^ (k - 1) / 2 = rdN rnd sg m k := fun a => by rw [hrd]; unfold neN; rw [if_neg a]
      repeat (walk_at "mine step")
      rw [o1]
      refine And.intro (fun c1 => ?_) (fun c1 => ?_)
      · have d1 := of_decide_eq_true c1
        repeat (walk_at "mine step")
        rw [o2]
        refine And.intro (fun c2 => ?_) (fun c2 => ?_)
        · have d2 := of_decide_eq_false c2
          repeat (walk_at "mine step")
          refine s_shl (by omega) (by have : bits 1 = 1 := by decide
                                      unfold bits at this; omega) ?_
          rw [e1]
          repeat (walk_at "mine step")
          rw [and_mask]
          refine And.intro (fun c3 => ?_) (fun c3 => ?_)
          · have d3 : m % 2 ^ (k - 1) = 0 := by exact_mod_cast bne_f c3
            repeat (walk_at "mine step")
            simp only [t1]
            exact fin _ _ (dn (by omega)) rfl rfl rfl rfl
          · have d3 : m % 2 ^ (k - 1) ≠ 0 := by exact_mod_cast bne_t c3
            repeat (walk_at "mine step")
            simp only [t1]
            exact fin _ (m / 2 ^ (k - 1) / 2 + 1) (up d1 (.inr d3)) rfl rfl rfl rfl
        · have d2 := of_decide_eq_true c2
          repeat (walk_at "mine step")
          simp only [t1]
          exact fin _ (m / 2 ^ (k - 1) / 2 + 1) (up d1 (.inl d2)) rfl rfl rfl rfl
      · have d1 := of_decide_eq_false c1
        repeat (walk_at "mine step")
        simp only [t1]
        exact fin _ _ (dn (by omega)) rfl rfl rfl rfl
    · have hr : rnd ≠ sn := of_decide_eq_false hb
      have h2 : rnd = sf ∨ rnd = scc := by rcases hrnd with h | h; exact absurd h hr; exact h
      have q1 : rnd = sf → sg = 0 → m / 2 ^ k = rdN rnd sg m k := fun a b => by unfold rdN; rw [if_neg hr, if_pos (.inl ⟨a, b⟩)]
      have q2 : rnd = scc → sg = 1 → m / 2 ^ k = rdN rnd sg m k := fun a b => by unfold rdN; rw [if_neg hr, if_pos (.inr ⟨a, b⟩)]
      have q3 : rnd = sf → sg = 1 → upN m k = rdN rnd sg m k := fun a b => by
        unfold rdN; rw [if_neg hr, if_neg]; rintro (⟨_, h⟩ | ⟨h, _⟩)
        · omega
        · rw [a] at h; revert h; decide
      have q4 : rnd = scc → sg = 0 → upN m k = rdN rnd sg m k := fun a b => by
        unfold rdN; rw [if_neg hr, if_neg]; rintro (⟨h, _⟩ | ⟨_, h⟩)
        · rw [a] at h; revert h; decide
        · omega
      obtain ⟨a, ha, tf, tc⟩ := F.sd
      have v1 : ((1 : Int) != 0) = true := rfl
      have v0 : ((0 : Int) != 0) = false := rfl
      repeat (walk_at "mine step")
      refine Ev.itemv (Ev.table (Ev.glob (v := .ref a) (p := .val (.ref a)) rfl ha (fun h _ => .val _) ?_))
      walk_at "mine step"
      rcases h2 with h2 | h2
      · refine ⟨a, rnd, _, rfl, rfl, h2 ▸ tf, ?_⟩
        walk_at "mine step"
        rcases hs with h3 | h3
        · refine ⟨_, 0, _, rfl, by rw [h3]; rfl, rfl, by decide, ?_⟩
          repeat (walk_at "mine step")
          rw [v1]
          repeat (walk_at "mine step")
          simp only [Int.toNat_natCast, fdiv_nat]
          exact fin _ _ (q1 h2 h3) rfl rfl rfl rfl
        · refine ⟨_, 1, _, rfl, by rw [h3]; rfl, rfl, by decide, ?_⟩
          repeat (walk_at "mine step")
          rw [v0]
          repeat (walk_at "mine step")
          simp only [Int.toNat_natCast, neg_fdiv]
          exact fin _ _ (q3 h2 h3) rfl rfl rfl rfl
      · refine ⟨a, rnd, _, rfl, rfl, h2 ▸ tc, ?_⟩
        walk_at "mine step"
        rcases hs with h3 | h3
        · refine ⟨_, 0, _, rfl, by rw [h3]; rfl, rfl, by decide, ?_⟩
          repeat (walk_at "mine step")
          rw [v0]
          repeat (walk_at "mine step")
          simp only [Int.toNat_natCast, neg_fdiv]
          exact fin _ _ (q4 h2 h3) rfl rfl rfl rfl
        · refine ⟨_, 1, _, rfl, by rw [h3]; rfl, rfl, by decide, ?_⟩
          repeat (walk_at "mine step")
          rw [v1]
          repeat (walk_at "mine step")
          simp only [Int.toNat_natCast, fdiv_nat]
          exact fin _ _ (q2 h2 h3) rfl rfl rfl rfl
  · repeat (walk_at "mine step")
    exact ⟨m, ex, _, hm, .inl rfl, rfl, rfl, rfl, rfl, h1 (.inr (by have := of_decide_eq_false hb; omega))⟩

theorem ok_normalize {C : Cx} (F : Facts C) (n : Nat) {sg ex prec b : Int} {m : Nat} {rnd : Str} {φ : PV → Prop} (hb : b = bits (m : Int)) (hs : sg = 0 ∨ sg = 1)
    (h1 : (m = 0 ∨ (bits (m : Int) : Int) ≤ prec) → φ (mk (sgn sg m) ex))
    (h2 : ∀ k : Nat, m ≠ 0 → (bits (m : Int) : Int) - prec = k → 1 ≤ k → (rnd = sn ∨ rnd = sf ∨ rnd = scc) ∧ 1 ≤ prec ∧ bits (m : Int) ≤ 100000 ∧ φ (mk (sgn sg (rdN rnd sg m k)) (ex + k))) :
    CallOK C (n + 3) "normalize" [.int sg, .int m, .int ex, .int b, .int prec, .str rnd] φ := by
  subst hb
  refine callD (show DefAt C "normalize" _ _ _ _ from F.defs "normalize" _ rfl) ["sign", "man", "exp", "bc", "prec", "rnd"] (ρ₀ := [("rnd", .str rnd), ("prec", .int prec), ("bc", .int (bits (m : Int))), ("exp", .int ex), ("man", .int m), ("sign", .int sg)]) rfl rfl (by decide) rfl rfl rfl rfl rfl (by decide) rfl rfl rfl ?_
  repeat (walk_at "mine step")
  refine ⟨by simp, ?_⟩
  repeat (walk_at "mine step")
  refine ⟨by simp, ?_⟩
  repeat (walk_at "mine step")
  exact CallOK.mono (ok__normalize F n hs h1 h2) fun p hp => k_ret hp
/-- nothing is cut off -/
theorem ok_norm0 {C : Cx} (F : Facts C) (n : Nat) {sg ex prec b : Int} {m : Nat} {rnd : Str} {φ : PV → Prop} (hb : b = bits (m : Int)) (hs : sg = 0 ∨ sg = 1)
    (hp : m = 0 ∨ (bits (m : Int) : Int) ≤ prec) (h1 : φ (mk (sgn sg m) ex)) : CallOK C (n + 3) "normalize" [.int sg, .int m, .int ex, .int b, .int prec, .str rnd] φ :=
  ok_normalize F n hb hs (fun _ => h1) fun k hm hk h1 => by
    rcases hp with hp | hp
    · exact absurd hp hm
    · omega


theorem ok_shift {C : Cx} (F : Facts C) (n : Nat) {a e k : Int} {φ : PV → Prop} (h : φ (mk a (e + k))) : CallOK C (n + 1) "mpf_shift" [mk a e, .int k] φ := by
  refine callD (show DefAt C "mpf_shift" _ _ _ _ from F.defs "mpf_shift" _ rfl) ["s", "n"] (ρ₀ := [("n", .int k), ("s", mk a e)]) rfl rfl (by decide) rfl rfl rfl rfl rfl (by decide) rfl rfl rfl ?_
  by_cases ha : a = 0
  · subst ha
    rw [mk_zero] at *
    repeat (walk_at "mine step")
    refine And.intro (fun hb => ?_) (fun hb => absurd hb (by decide))
    repeat (walk_at "mine step")
    exact h
  · obtain ⟨sg, m, j, hs, hm, rfl⟩ := raw a ha
    rw [mk_sgn hs hm] at *
    repeat (walk_at "mine step")
    rw [odd_int hm]
    repeat (walk_at "mine step")
    rw [show e + k + (j : Int) = e + j + k by omega] at h
    exact h
theorem ok_neg {C : Cx} (F : Facts C) (n : Nat) {a e : Int} {φ : PV → Prop} (h : φ (mk (-a) e)) : CallOK C (n + 1) "mpf_neg" [mk a e] φ := by
  refine callD (show DefAt C "mpf_neg" _ _ _ _ from F.defs "mpf_neg" _ rfl) ["s", "prec", "rnd"] (ρ₀ := [("rnd", .str sd), ("prec", .int 0), ("s", mk a e)]) rfl rfl (by decide) rfl rfl rfl rfl rfl (by decide) rfl rfl rfl ?_
  by_cases ha : a = 0
  · subst ha
    rw [Int.neg_zero] at h
    rw [mk_zero] at *
    repeat (walk_at "mine step")
    refine And.intro (fun hb => ?_) (fun hb => absurd hb (by decide))
    repeat (walk_at "mine step")
    refine And.intro (fun hb => absurd hb (by decide)) (fun hb => ?_)
    repeat (walk_at "mine step")
    exact h
  · obtain ⟨sg, m, j, hs, hm, rfl⟩ := raw a ha
    rw [sgn_neg hs, mk_sgn (by omega) hm] at h
    rw [mk_sgn hs hm] at *
    repeat (walk_at "mine step")
    rw [odd_int hm]
    repeat (walk_at "mine step")
    refine And.intro (fun hb => ?_) (fun hb => absurd hb (by decide))
    repeat (walk_at "mine step")
    exact h
theorem ok_abs {C : Cx} (F : Facts C) (n : Nat) {a e : Int} {φ : PV → Prop} (h : φ (mk (a.natAbs : Nat) e)) : CallOK C (n + 1) "mpf_abs" [mk a e] φ := by
  refine callD (show DefAt C "mpf_abs" _ _ _ _ from F.defs "mpf_abs" _ rfl) ["s", "prec", "rnd"] (ρ₀ := [("rnd", .str sd), ("prec", .int 0), ("s", mk a e)]) rfl rfl (by decide) rfl rfl rfl rfl rfl (by decide) rfl rfl rfl ?_
  by_cases ha : a = 0
  · subst ha
    rw [show (((0 : Int).natAbs : Nat) : Int) = 0 from rfl] at h
    rw [mk_zero] at *
    repeat (walk_at "mine step")
    refine And.intro (fun hb => ?_) (fun hb => absurd hb (by decide))
    repeat (walk_at "mine step")
    refine And.intro (fun hb => absurd hb (by decide)) (fun hb => ?_)
    repeat (walk_at "mine step")
    refine And.intro (fun hb => ?_) (fun hb => absurd hb (by decide))
    repeat (walk_at "mine step")
    refine And.intro (fun hb => absurd hb (by decide)) (fun hb => ?_)
    repeat (walk_at "mine step")
    exact h
  · obtain ⟨sg, m, j, hs, hm, rfl⟩ := raw a ha
    rw [sgn_abs, mk_sgn (.inl rfl) hm] at h
    rw [mk_sgn hs hm] at *
    repeat (walk_at "mine step")
    rw [odd_int hm]
    repeat (walk_at "mine step")
    refine And.intro (fun hb => ?_) (fun hb => absurd hb (by decide))
    repeat (walk_at "mine step")
    refine And.intro (fun hb => ?_) (fun hb => ?_)
    · repeat (walk_at "mine step")
      exact h
    · have : sg = 0 := by simpa using hb
      subst this
      repeat (walk_at "mine step")
      exact h
theorem ok_sign {C : Cx} (F : Facts C) (n : Nat) {a e : Int} {φ : PV → Prop} (h : φ (.int a.sign)) : CallOK C (n + 1) "mpf_sign" [mk a e] φ := by
  refine callD (show DefAt C "mpf_sign" _ _ _ _ from F.defs "mpf_sign" _ rfl) ["s"] (ρ₀ := [("s", mk a e)]) rfl rfl (by decide) rfl rfl rfl rfl rfl (by decide) rfl rfl rfl ?_
  by_cases ha : a = 0
  · subst ha
    rw [mk_zero] at *
    repeat (walk_at "mine step")
    refine And.intro (fun hb => ?_) (fun hb => absurd hb (by decide))
    repeat (walk_at "mine step")
    refine And.intro (fun hb => absurd hb (by decide)) (fun hb => ?_)
    repeat (walk_at "mine step")
    refine And.intro (fun hb => absurd hb (by decide)) (fun hb => ?_)
    repeat (walk_at "mine step")
    exact h
  · obtain ⟨sg, m, j, hs, hm, rfl⟩ := raw a ha
    have hp : 0 < m * 2 ^ j := Nat.mul_pos (by omega) (Nat.two_pow_pos j)
    have hsg : (sgn sg (m * 2 ^ j)).sign = if sg = 0 then 1 else -1 := by
      unfold sgn
      split
      · exact Int.sign_eq_one_of_pos (by omega)
      · exact Int.sign_eq_neg_one_of_neg (by omega)
    rw [mk_sgn hs hm] at *
    repeat (walk_at "mine step")
    rw [odd_int hm]
    repeat (walk_at "mine step")
    refine s_pow_neg1 hs ?_
    repeat (walk_at "mine step")
    rw [← hsg]; exact h
/-- rounded to a whole number, K places cut -/
def RI (rnd : Str) (a : Int) (K : Nat) : Int := if K = 0 then a else if a < 0 then -((rdN rnd 1 a.natAbs K : Nat) : Int) else ((rdN rnd 0 a.natAbs K : Nat) : Int)
theorem RI_sgn {rnd : Str} {sg : Int} {m K : Nat} (hs : sg = 0 ∨ sg = 1) (hm : m ≠ 0) (hK : K ≠ 0) : RI rnd (sgn sg m) K = sgn sg (rdN rnd sg m K) := by
  unfold RI
  rw [if_neg hK, sgn_natAbs]
  rcases hs with rfl | rfl
  · unfold sgn; simp only [if_true]; rw [if_neg (by omega)]
  · unfold sgn; rw [if_neg (by decide : ¬ (1 : Int) = 0), if_pos (by omega), if_neg (by decide : ¬ (1 : Int) = 0)]
theorem sf_ne : sf ≠ sn := by decide
theorem scc_ne : scc ≠ sn := by decide
theorem sf_ne_c : sf ≠ scc := by decide
theorem rdN_f0 {m k : Nat} : rdN sf 0 m k = m / 2 ^ k := by unfold rdN; rw [if_neg sf_ne, if_pos (.inl ⟨rfl, rfl⟩)]
theorem rdN_f1 {m k : Nat} : rdN sf 1 m k = upN m k := by
  unfold rdN; rw [if_neg sf_ne, if_neg]; rintro (⟨_, h⟩ | ⟨h, _⟩)
  · omega
  · exact sf_ne_c h
theorem rdN_c0 {m k : Nat} : rdN scc 0 m k = upN m k := by
  unfold rdN; rw [if_neg scc_ne, if_neg]; rintro (⟨h, _⟩ | ⟨_, h⟩)
  · exact sf_ne_c h.symm
  · omega
theorem rdN_c1 {m k : Nat} : rdN scc 1 m k = m / 2 ^ k := by unfold rdN; rw [if_neg scc_ne, if_pos (.inr ⟨rfl, rfl⟩)]
theorem rdN_n {sg : Int} {m k : Nat} : rdN sn sg m k = neN m k := by unfold rdN; rw [if_pos rfl]
/-- the floor -/
theorem RI_f (a : Int) (K : Nat) : RI sf a K = Int.fdiv a (2 ^ K) := by
  unfold RI
  split
  · rename_i h; subst h; simp
  · split
    · rename_i h
      rw [rdN_f1, ← neg_fdiv, Int.neg_neg]
      congr 1; omega
    · rename_i h
      rw [rdN_f0, ← fdiv_nat]
      congr 1; omega
theorem RI_c (a : Int) (K : Nat) : RI scc a K = -(Int.fdiv (-a) (2 ^ K)) := by
  unfold RI
  split
  · rename_i h; subst h; simp
  · split
    · rename_i h
      rw [rdN_c1, ← fdiv_nat]
      congr 2; omega
    · rename_i h
      rw [rdN_c0, ← neg_fdiv]
      congr 3; omega
/-- places that are noughts may go -/
theorem upN_mul (m k j : Nat) : upN (m * 2 ^ j) (k + j) = upN m k := by
  have h : ((upN (m * 2 ^ j) (k + j) : Nat) : Int) = ((upN m k : Nat) : Int) := by
    rw [← neg_fdiv, ← neg_fdiv]
    have hp := Nat.two_pow_pos j
    have e : (-((m * 2 ^ j : Nat) : Int)) = (-(m : Int)) * ((2 ^ j : Nat) : Int) := by push_cast; rw [Int.neg_mul]
    have e2 : (2 : Int) ^ (k + j) = 2 ^ k * ((2 ^ j : Nat) : Int) := by rw [Int.pow_add]; push_cast; rfl
    rw [e, e2, Int.mul_fdiv_mul_of_pos_left _ _ (by omega)]
  exact_mod_cast h
theorem div_mul_pow (m k j : Nat) : m * 2 ^ j / 2 ^ (k + j) = m / 2 ^ k := by
  rw [Nat.pow_add]; exact Nat.mul_div_mul_right _ _ (Nat.two_pow_pos j)
theorem neN_mul (m k j : Nat) (hk : k ≠ 0) : neN (m * 2 ^ j) (k + j) = neN m k := by
  unfold neN
  rw [show k + j - 1 = (k - 1) + j by omega, div_mul_pow]
  have e : m * 2 ^ j % 2 ^ (k - 1 + j) = (m % 2 ^ (k - 1)) * 2 ^ j := by rw [Nat.pow_add]; exact Nat.mul_mod_mul_right _ _ _
  rw [e]
  have e2 : ((m % 2 ^ (k - 1)) * 2 ^ j ≠ 0) = (m % 2 ^ (k - 1) ≠ 0) := by
    have := Nat.two_pow_pos j
    apply propext
    constructor
    · intro h h0; rw [h0] at h; simp at h
    · intro h h0
      rcases Nat.mul_eq_zero.mp h0 with h1 | h1
      · exact h h1
      · omega
  simp only [e2]
theorem rdN_mul (rnd : Str) (sg : Int) (m k j : Nat) (hk : k ≠ 0) : rdN rnd sg (m * 2 ^ j) (k + j) = rdN rnd sg m k := by
  unfold rdN
  rw [neN_mul m k j hk, div_mul_pow, upN_mul]
theorem upN_exact (m i K : Nat) : upN (m * 2 ^ i * 2 ^ K) K = m * 2 ^ i := by
  unfold upN
  have hp := Nat.two_pow_pos K
  generalize m * 2 ^ i = x
  generalize 2 ^ K = d at *
  rw [Nat.mul_comm x d, Nat.mul_add_div hp, Nat.div_eq_of_lt (by omega)]; omega
theorem neN_exact (m i K : Nat) (hK : K ≠ 0) : neN (m * 2 ^ i * 2 ^ K) K = m * 2 ^ i := by
  unfold neN
  generalize m * 2 ^ i = x
  obtain ⟨K, rfl⟩ : ∃ L, K = L + 1 := ⟨K - 1, by omega⟩
  have hp := Nat.two_pow_pos K
  have e : x * 2 ^ (K + 1) / 2 ^ (K + 1 - 1) = 2 * x := by
    rw [Nat.add_sub_cancel, Nat.pow_succ, Nat.mul_comm (2 ^ K) 2, ← Nat.mul_assoc, Nat.mul_div_cancel _ hp]; omega
  rw [e, if_neg (by omega)]; omega
theorem rdN_exact (rnd : Str) (sg : Int) (m i K : Nat) (hK : K ≠ 0) : rdN rnd sg (m * 2 ^ i * 2 ^ K) K = m * 2 ^ i := by
  unfold rdN
  rw [neN_exact m i K hK, upN_exact, Nat.mul_div_cancel _ (Nat.two_pow_pos K)]
  split
  · rfl
  · split <;> rfl
theorem sgn_mul (sg : Int) (m k : Nat) : sgn sg (m * k) = sgn sg m * k := by
  unfold sgn; split
  · push_cast; rfl
  · push_cast; rw [Int.neg_mul]
/-- small ones -/
theorem up_small {m k : Nat} (h0 : m ≠ 0) (h : m < 2 ^ k) : upN m k = 1 := by
  unfold upN
  generalize 2 ^ k = d at *
  rw [show m + (d - 1) = (m - 1) + d by omega, Nat.add_div_right _ (by omega), Nat.div_eq_of_lt (by omega)]
theorem ne_small {m k : Nat} (h : m < 2 ^ (k - 1)) : neN m k = 0 := by
  unfold neN; rw [Nat.div_eq_of_lt h]; simp
theorem ne_half {m k : Nat} (hm : m % 2 = 1) (h1 : 2 ^ (k - 1) ≤ m) (h2 : m < 2 ^ k) (hk : k ≠ 0) : neN m k = if m = 1 then 0 else 1 := by
  obtain ⟨k, rfl⟩ : ∃ L, k = L + 1 := ⟨k - 1, by omega⟩
  rw [Nat.add_sub_cancel] at h1
  unfold neN
  rw [Nat.add_sub_cancel]
  have hp := Nat.two_pow_pos k
  rw [Nat.pow_succ] at h2
  have e1 : m / 2 ^ k = 1 := by
    rw [Nat.div_eq_iff (by omega)]; omega
  rw [e1]
  by_cases c : m = 1
  · subst c
    have : k = 0 := by
      rcases k with _ | k
      · rfl
      · rw [Nat.pow_succ] at h1; have := Nat.two_pow_pos k; omega
    subst this; decide
  · rw [if_neg c, if_pos]
    refine ⟨by decide, .inr ?_⟩
    intro h0
    have : m = 2 ^ k := by
      have := Nat.div_add_mod m (2 ^ k)
      rw [e1, h0] at this; omega
    rcases k with _ | k
    · exact c (by simpa using this)
    · rw [Nat.pow_succ] at this; omega
theorem mk_one : mk 1 0 = .nums [0, 1, 0, 1] := by
  have := mk_odd (sg := 0) (m := 1) (ex := 0) (k := 0) (.inl rfl) (by decide)
  simpa [show bits 1 = 1 by decide] using this
theorem mk_mone : mk (-1) 0 = .nums [1, 1, 0, 1] := by
  have := mk_odd (sg := 1) (m := 1) (ex := 0) (k := 0) (.inr rfl) (by decide)
  simpa [show bits 1 = 1 by decide] using this
theorem bits_sgn (sg : Int) (m : Nat) : bits (sgn sg m) = bits (m : Int) := by
  unfold sgn; split
  · rfl
  · exact bits_neg _
theorem RI_zero (rnd : Str) (K : Nat) : RI rnd 0 K = 0 := by
  unfold RI
  split
  · rfl
  · rw [if_neg (by decide)]
    have e : rdN rnd 0 (0 : Int).natAbs K = 0 := by
      unfold rdN neN upN
      rw [show (0 : Int).natAbs = 0 from rfl]
      have hp := Nat.two_pow_pos K
      have : (0 + (2 ^ K - 1)) / 2 ^ K = 0 := Nat.div_eq_of_lt (by omega)
      rw [this]
      simp
    rw [e]; rfl
theorem sgn_mul_pow (sg : Int) (m k : Nat) : sgn sg (m * 2 ^ k) = sgn sg m * 2 ^ k := by
  rw [sgn_mul]; push_cast; rfl
theorem round_int_pos {C : Cx} (F : Facts C) (n : Nat) {m k : Nat} (hk : k ≠ 0) (hb : k ≤ 100000) {φ : PV → Prop} (h : φ (.int (neN m k : Nat))) : CallOK C (n + 1) "round_int" [.int m, .int k, .str sn] φ := by
  refine callD (show DefAt C "round_int" _ _ _ _ from F.defs "round_int" _ rfl) ["x", "n", "rnd"] (ρ₀ := [("rnd", .str sn), ("n", .int k), ("x", .int m)]) rfl rfl (by decide) rfl rfl rfl rfl rfl (by decide) rfl rfl rfl ?_
  have e1 : ((k : Int) - 1).toNat = k - 1 := by omega
  have t1 : (Int.fdiv ((m / 2 ^ (k - 1) : Nat) : Int) (2 ^ (1 : Int).toNat)) = ((m / 2 ^ (k - 1) / 2 : Nat) : Int) := fdiv_nat _ 1
  have o1 : (Builtin.bitAnd ((m / 2 ^ (k - 1) : Nat) : Int) 1 != 0) = decide (m / 2 ^ (k - 1) % 2 = 1) := by
    rw [and_one]
    rcases Nat.mod_two_eq_zero_or_one (m / 2 ^ (k - 1)) with h | h
    · rw [h, show ((m / 2 ^ (k - 1) : Nat) : Int) % 2 = 0 by omega]; rfl
    · rw [h, show ((m / 2 ^ (k - 1) : Nat) : Int) % 2 = 1 by omega]; rfl
  have o2 : (Builtin.bitAnd ((m / 2 ^ (k - 1) : Nat) : Int) 2 != 0) = decide (m / 2 ^ (k - 1) / 2 % 2 = 1) := by
    rw [and_two]
    rcases Nat.mod_two_eq_zero_or_one (m / 2 ^ (k - 1) / 2) with h | h
    · rw [h]; rfl
    · rw [h]; rfl
  have up : m / 2 ^ (k - 1) % 2 = 1 → (m / 2 ^ (k - 1) / 2 % 2 = 1 ∨ m % 2 ^ (k - 1) ≠ 0) → ((m / 2 ^ (k - 1) / 2 : Nat) : Int) + 1 = (neN m k : Nat) := fun a b => by unfold neN; rw [if_pos ⟨a, b⟩]; push_cast; rfl
  have dn : ¬ (m / 2 ^ (k - 1) % 2 = 1 ∧ (m / 2 ^ (k - 1) / 2 % 2 = 1 ∨ m % 2 ^ (k - 1) ≠ 0)) → ((m / 2 ^ (k - 1) / 2 : Nat) : Int) = (neN m k : Nat) := fun a => by unfold neN; rw [if_neg a]
  repeat (walk_at "mine step")
  refine And.intro (fun _ => ?_) (fun hb => absurd hb (by decide))
  repeat (walk_at "mine step")
  refine And.intro (fun _ => ?_) (fun hb => by have := of_decide_eq_false hb; omega)
  repeat (walk_at "mine step")
  rw [e1, fdiv_nat, o1]
  refine And.intro (fun c1 => ?_) (fun c1 => ?_)
  · have d1 := of_decide_eq_true c1
    repeat (walk_at "mine step")
    rw [o2]
    refine And.intro (fun c2 => ?_) (fun c2 => ?_)
    · have d2 := of_decide_eq_false c2
      repeat (walk_at "mine step")
      refine s_shl (by omega) (by have : bits 1 = 1 := by decide
                                  unfold bits at this; omega) ?_
      rw [e1]
      repeat (walk_at "mine step")
      rw [and_mask]
      refine And.intro (fun c3 => ?_) (fun c3 => ?_)
      · have d3 : m % 2 ^ (k - 1) = 0 := by exact_mod_cast bne_f c3
        repeat (walk_at "mine step")
        rw [t1, dn (by omega)]; exact h
      · have d3 : m % 2 ^ (k - 1) ≠ 0 := by exact_mod_cast bne_t c3
        repeat (walk_at "mine step")
        rw [t1, up d1 (.inr d3)]; exact h
    · have d2 := of_decide_eq_true c2
      repeat (walk_at "mine step")
      rw [t1, up d1 (.inl d2)]; exact h
  · have d1 := of_decide_eq_false c1
    repeat (walk_at "mine step")
    rw [t1, dn (by omega)]; exact h
theorem ok_round_int {C : Cx} (F : Facts C) (n : Nat) {sg : Int} {m k : Nat} (hs : sg = 0 ∨ sg = 1) (hm : m ≠ 0) (hk : k ≠ 0) (hb : k ≤ 100000) {rnd : Str} (hr : rnd = sn ∨ rnd = sf) {φ : PV → Prop} (h : φ (.int (sgn sg (rdN rnd sg m k)))) :
    CallOK C (n + 2) "round_int" [.int (sgn sg m), .int k, .str rnd] φ := by
  rcases hr with rfl | rfl
  · rw [rdN_n] at h
    rcases hs with rfl | rfl
    · exact round_int_pos F (n + 1) hk hb h
    · have e : sgn 1 m = -(m : Int) := by unfold sgn; rw [if_neg (by decide)]
      have e2 : sgn 1 (neN m k) = -((neN m k : Nat) : Int) := by unfold sgn; rw [if_neg (by decide)]
      rw [e2] at h
      rw [e]
      refine callD (show DefAt C "round_int" _ _ _ _ from F.defs "round_int" _ rfl) ["x", "n", "rnd"] (ρ₀ := [("rnd", .str sn), ("n", .int k), ("x", .int (-(m : Int)))]) rfl rfl (by decide) rfl rfl rfl rfl rfl (by decide) rfl rfl rfl ?_
      repeat (walk_at "mine step")
      refine And.intro (fun _ => ?_) (fun hb => absurd hb (by decide))
      repeat (walk_at "mine step")
      refine And.intro (fun hb => by have := of_decide_eq_true hb; omega) (fun _ => ?_)
      repeat (walk_at "mine step")
      rw [Int.neg_neg]
      refine CallOK.mono (round_int_pos F n hk hb (φ := fun p => p = .int (neN m k : Nat)) rfl) fun p hp => ⟨_, hp, ?_⟩
      repeat (walk_at "mine step")
      exact h
  · have e : sgn sg (rdN sf sg m k) = Int.fdiv (sgn sg m) (2 ^ k) := by rw [← RI_sgn hs hm hk, RI_f]
    rw [e] at h
    refine callD (show DefAt C "round_int" _ _ _ _ from F.defs "round_int" _ rfl) ["x", "n", "rnd"] (ρ₀ := [("rnd", .str sf), ("n", .int k), ("x", .int (sgn sg m))]) rfl rfl (by decide) rfl rfl rfl rfl rfl (by decide) rfl rfl rfl ?_
    repeat (walk_at "mine step")
    refine And.intro (fun hb => absurd hb (by decide)) (fun hb => ?_)
    repeat (walk_at "mine step")
    refine And.intro (fun hb => ?_) (fun hb => absurd hb (by decide))
    repeat (walk_at "mine step")
    rw [Int.toNat_natCast]
    exact h
/-- a whole number -/
theorem ok_to_int {C : Cx} (F : Facts C) (n : Nat) {a : Int} {K : Nat} (hb : bits a ≤ 100000) (hK : K ≤ 100000) {rnd : Str} (hr : K = 0 ∨ rnd = sn ∨ rnd = sf) {ps : List PV} (hps : ps = [mk a (-K), .str rnd] ∨ (ps = [mk a (-K)] ∧ rnd = sd)) {φ : PV → Prop} (h : φ (.int (RI rnd a K))) : CallOK C (n + 3) "to_int" ps φ := by
  have body : ∀ ps', ps' = [("rnd", PV.str rnd), ("s", mk a (-K))] → (match stOf "to_int" with
      | .FunctionDef _ params body _ _ _ scope _ _ _ => Ex C scope (n + 2) ps' body (toRet φ)
      | _ => True) := by
    rintro _ rfl
    show Ex C _ (n + 2) _ _ (toRet φ)
    by_cases ha : a = 0
    · subst ha
      have : RI rnd 0 K = 0 := RI_zero _ _
      rw [this] at h
      rw [mk_zero]
      repeat (walk_at "mine step")
      refine And.intro (fun hb => ?_) (fun hb => absurd hb (by decide))
      repeat (walk_at "mine step")
      refine And.intro (fun hb => absurd hb (by decide)) (fun hb => ?_)
      repeat (walk_at "mine step")
      refine And.intro (fun hb => ?_) (fun hb => absurd hb (by decide))
      repeat (walk_at "mine step")
      refine And.intro (fun hb => absurd hb (by decide)) (fun hb => ?_)
      repeat (walk_at "mine step")
      refine s_shl (by decide) (by decide) ?_
      repeat (walk_at "mine step")
      exact h
    · obtain ⟨sg, m, j, hs, hm, rfl⟩ := raw a ha
      have hpos : m * 2 ^ j ≠ 0 := Nat.mul_ne_zero (by omega) (by have := Nat.two_pow_pos j; omega)
      have hbits : bits (m : Int) + j ≤ 100000 := by
        have e := bits_sgn sg (m * 2 ^ j)
        rw [e, bits_mul_pow (by omega)] at hb; exact hb
      rw [mk_sgn hs hm]
      repeat (walk_at "mine step")
      rw [odd_int hm]
      repeat (walk_at "mine step")
      refine And.intro (fun hc => ?_) (fun hc => ?_)
      · have hj := of_decide_eq_true hc
        obtain ⟨i, rfl⟩ : ∃ i, j = i + K := ⟨j - K, by omega⟩
        have e0 : RI rnd (sgn sg (m * 2 ^ (i + K))) K = sgn sg (m * 2 ^ i) := by
          by_cases hK0 : K = 0
          · subst hK0; unfold RI; rw [if_pos rfl]; rfl
          · rw [RI_sgn hs hpos hK0, Nat.pow_add, ← Nat.mul_assoc, rdN_exact _ _ _ _ _ hK0]
        rw [e0] at h
        have e1 : (-(K : Int) + ((i + K : Nat) : Int)).toNat = i := by omega
        repeat (walk_at "mine step")
        refine And.intro (fun hd => ?_) (fun hd => ?_)
        · have : sg = 1 := by have := bne_t hd; omega
          subst this
          repeat (walk_at "mine step")
          refine s_shl (by omega) (by have := bits_neg (m : Int); unfold bits at this hbits; omega) ?_
          rw [e1]
          repeat (walk_at "mine step")
          have : -(m : Int) * 2 ^ i = sgn 1 (m * 2 ^ i) := by unfold sgn; rw [if_neg (by decide)]; push_cast; rw [Int.neg_mul]
          rw [this]; exact h
        · have : sg = 0 := bne_f hd
          subst this
          repeat (walk_at "mine step")
          refine s_shl (by omega) (by unfold bits at hbits; omega) ?_
          rw [e1]
          repeat (walk_at "mine step")
          have : (m : Int) * 2 ^ i = sgn 0 (m * 2 ^ i) := by unfold sgn; rw [if_pos rfl]; push_cast; rfl
          rw [this]; exact h
      · have hj := of_decide_eq_false hc
        obtain ⟨k, rfl⟩ : ∃ k, K = k + j := ⟨K - j, by omega⟩
        have hk : k ≠ 0 := by omega
        have e0 : RI rnd (sgn sg (m * 2 ^ j)) (k + j) = sgn sg (rdN rnd sg m k) := by rw [RI_sgn hs hpos (by omega), rdN_mul _ _ _ _ _ hk]
        rw [e0] at h
        have e1 : -(-((k + j : Nat) : Int) + (j : Int)) = (k : Int) := by omega
        have hr' : rnd = sn ∨ rnd = sf := by rcases hr with h | h; omega; exact h
        have hne : rnd ≠ sd := by rcases hr' with rfl | rfl <;> decide
        repeat (walk_at "mine step")
        refine And.intro (fun hd => absurd (of_decide_eq_true hd) hne) (fun hd => ?_)
        repeat (walk_at "mine step")
        refine And.intro (fun hd => ?_) (fun hd => ?_)
        · have : sg = 1 := by have := bne_t hd; omega
          subst this
          repeat (walk_at "mine step")
          rw [e1]
          refine CallOK.mono (show CallOK C (n + 2) "round_int" [.int (-(m : Int)), .int k, .str rnd] (fun p => φ p) from by
            have := ok_round_int F n (sg := 1) (m := m) (.inr rfl) (by omega) hk (by omega) hr' h
            unfold sgn at this; rw [if_neg (by decide)] at this; exact this) fun p hp => ?_
          repeat (walk_at "mine step")
          exact hp
        · have : sg = 0 := bne_f hd
          subst this
          repeat (walk_at "mine step")
          rw [e1]
          refine CallOK.mono (show CallOK C (n + 2) "round_int" [.int (m : Int), .int k, .str rnd] (fun p => φ p) from ok_round_int F n (sg := 0) (m := m) (.inl rfl) (by omega) hk (by omega) hr' h) fun p hp => ?_
          repeat (walk_at "mine step")
          exact hp
  rcases hps with rfl | ⟨rfl, rfl⟩
  · refine callD (show DefAt C "to_int" _ _ _ _ from F.defs "to_int" _ rfl) ["s", "rnd"] (ρ₀ := [("rnd", .str rnd), ("s", mk a (-K))]) rfl rfl (by decide) rfl rfl rfl rfl rfl (by decide) rfl rfl rfl ?_
    exact body _ rfl
  · refine callD (show DefAt C "to_int" _ _ _ _ from F.defs "to_int" _ rfl) ["s", "rnd"] (ρ₀ := [("rnd", .str sd), ("s", mk a (-K))]) rfl rfl (by decide) rfl rfl rfl rfl rfl (by decide) rfl rfl rfl ?_
    exact body _ rfl
theorem ok_pos {C : Cx} (F : Facts C) (n : Nat) {sg ex prec : Int} {m k : Nat} {rnd : Str} (hs : sg = 0 ∨ sg = 1) (hm : m % 2 = 1) (hp : 1 ≤ prec) (hk : (bits (m : Int) : Int) - prec = k) (h1 : 1 ≤ k) (hb : bits (m : Int) ≤ 100000)
    (hr : rnd = sn ∨ rnd = sf ∨ rnd = scc) {φ : PV → Prop} (h : φ (mk (sgn sg (rdN rnd sg m k)) (ex + k))) : CallOK C (n + 4) "mpf_pos" [.nums [sg, (m : Int), ex, bits (m : Int)], .int prec, .str rnd] φ := by
  refine callD (show DefAt C "mpf_pos" _ _ _ _ from F.defs "mpf_pos" _ rfl) ["s", "prec", "rnd"] (ρ₀ := [("rnd", .str rnd), ("prec", .int prec), ("s", .nums [sg, (m : Int), ex, bits (m : Int)])]) rfl rfl (by decide) rfl rfl rfl rfl rfl (by decide) rfl rfl rfl ?_
  repeat (walk_at "mine step")
  refine And.intro (fun _ => ?_) (fun hb => by have := bne_f hb; omega)
  repeat (walk_at "mine step")
  rw [odd_int hm]
  repeat (walk_at "mine step")
  refine CallOK.mono (ok_normalize F n rfl hs (fun hc => by rcases hc with hc | hc <;> omega) (fun k' h1' h2' h3' => ⟨hr, hp, hb, by
    have : k' = k := by omega
    subst this; exact h⟩)) fun p hp => ?_
  repeat (walk_at "mine step")
  exact hp

theorem ok_mround {C : Cx} (F : Facts C) (n : Nat) {a : Int} {K : Nat} (hb : bits a ≤ 100000) {rnd : Str} (hr : rnd = sn ∨ rnd = sf ∨ rnd = scc) {φ : PV → Prop} (h : φ (mk (RI rnd a K) 0)) : CallOK C (n + 5) "mpf_round_int" [mk a (-K), .str rnd] φ := by
  refine callD (show DefAt C "mpf_round_int" _ _ _ _ from F.defs "mpf_round_int" _ rfl) ["s", "rnd"] (ρ₀ := [("rnd", .str rnd), ("s", mk a (-K))]) rfl rfl (by decide) rfl rfl rfl rfl rfl (by decide) rfl rfl rfl ?_
  by_cases ha : a = 0
  · subst ha
    rw [RI_zero, mk_zero] at h
    rw [mk_zero]
    repeat (walk_at "mine step")
    refine And.intro (fun hb => ?_) (fun hb => absurd hb (by decide))
    repeat (walk_at "mine step")
    refine And.intro (fun hb => absurd hb (by decide)) (fun hb => ?_)
    repeat (walk_at "mine step")
    refine And.intro (fun hb => ?_) (fun hb => absurd hb (by decide))
    repeat (walk_at "mine step")
    exact h
  · obtain ⟨sg, m, j, hs, hm, rfl⟩ := raw a ha
    have hpos : m * 2 ^ j ≠ 0 := Nat.mul_ne_zero (by omega) (by have := Nat.two_pow_pos j; omega)
    have hm0 : m ≠ 0 := by omega
    have hbits : bits (m : Int) + j ≤ 100000 := by rw [bits_sgn, bits_mul_pow (by omega)] at hb; exact hb
    rw [mk_sgn hs hm]
    repeat (walk_at "mine step")
    rw [odd_int hm]
    repeat (walk_at "mine step")
    refine And.intro (fun hc => ?_) (fun hc => ?_)
    · have hj := of_decide_eq_true hc
      obtain ⟨i, rfl⟩ : ∃ i, j = i + K := ⟨j - K, by omega⟩
      have e0 : RI rnd (sgn sg (m * 2 ^ (i + K))) K = sgn sg (m * 2 ^ i) := by
        by_cases hK0 : K = 0
        · subst hK0; unfold RI; rw [if_pos rfl]; rfl
        · rw [RI_sgn hs hpos hK0, Nat.pow_add, ← Nat.mul_assoc, rdN_exact _ _ _ _ _ hK0]
      rw [e0, mk_sgn hs hm, show (0 : Int) + (i : Int) = -(K : Int) + ((i + K : Nat) : Int) by omega] at h
      repeat (walk_at "mine step")
      exact h
    · have hj := of_decide_eq_false hc
      obtain ⟨k, rfl⟩ : ∃ k, K = k + j := ⟨K - j, by omega⟩
      have hk : k ≠ 0 := by omega
      have e0 : RI rnd (sgn sg (m * 2 ^ j)) (k + j) = sgn sg (rdN rnd sg m k) := by rw [RI_sgn hs hpos (by omega), rdN_mul _ _ _ _ _ hk]
      rw [e0] at h
      have eex : -((k + j : Nat) : Int) + (j : Int) = -(k : Int) := by omega
      rw [eex]
      repeat (walk_at "mine step")
      have b1 : 2 ^ (bits (m : Int) - 1) ≤ m := bits_lt.mp (by
        have : 0 < bits (m : Int) := by have := @bits_lt m 0; omega
        omega)
      have b2 : m < 2 ^ bits (m : Int) := by have := @bits_le (m : Int) (bits (m : Int)); rw [Int.natAbs_natCast] at this; exact this.mp (Nat.le_refl _)
      refine And.intro (fun hd => ?_) (fun hd => ?_)
      · have hlt := of_decide_eq_true hd
        have hsm : m < 2 ^ k := Nat.lt_of_lt_of_le b2 (Nat.pow_le_pow_right (by decide) (by omega))
        repeat (walk_at "mine step")
        refine And.intro (fun hx => ?_) (fun hx => ?_)
        · have hx := of_decide_eq_true hx
          subst hx
          repeat (walk_at "mine step")
          refine And.intro (fun hy => ?_) (fun hy => ?_)
          · have : sg = 1 := by have := bne_t hy; omega
            subst this
            rw [rdN_c1, Nat.div_eq_of_lt hsm, sgn0, mk_zero] at h
            repeat (walk_at "mine step")
            exact h
          · have : sg = 0 := bne_f hy
            subst this
            rw [rdN_c0, up_small hm0 hsm, show sgn 0 1 = 1 from rfl, mk_one] at h
            repeat (walk_at "mine step")
            exact h
        · have hx1 := of_decide_eq_false hx
          repeat (walk_at "mine step")
          refine And.intro (fun hx => ?_) (fun hx => ?_)
          · have hx := of_decide_eq_true hx
            subst hx
            repeat (walk_at "mine step")
            refine And.intro (fun hy => ?_) (fun hy => ?_)
            · have : sg = 1 := by have := bne_t hy; omega
              subst this
              rw [rdN_f1, up_small hm0 hsm, show sgn 1 1 = -1 from rfl, mk_mone] at h
              repeat (walk_at "mine step")
              exact h
            · have : sg = 0 := bne_f hy
              subst this
              rw [rdN_f0, Nat.div_eq_of_lt hsm, sgn0, mk_zero] at h
              repeat (walk_at "mine step")
              exact h
          · have hx2 := of_decide_eq_false hx
            have hx3 : rnd = sn := by rcases hr with h | h | h; exact h; exact absurd h hx2; exact absurd h hx1
            subst hx3
            rw [rdN_n] at h
            repeat (walk_at "mine step")
            refine And.intro (fun hx => ?_) (fun hx => absurd hx (by decide))
            repeat (walk_at "mine step")
            refine And.intro (fun hz => ?_) (fun hz => ?_)
            · have hz := of_decide_eq_false hz
              have hbk : bits (m : Int) = k := by omega
              rw [ne_half hm (by rw [← hbk]; exact b1) hsm hk] at h
              repeat (walk_at "mine step")
              refine And.intro (fun hw => ?_) (fun hw => ?_)
              · have hw : m ≠ 1 := by have := of_decide_eq_false hw; omega
                rw [if_neg hw] at h
                repeat (walk_at "mine step")
                refine And.intro (fun hy => ?_) (fun hy => ?_)
                · have : sg = 1 := by have := bne_t hy; omega
                  subst this
                  rw [show sgn 1 1 = -1 from rfl, mk_mone] at h
                  repeat (walk_at "mine step")
                  exact h
                · have : sg = 0 := bne_f hy
                  subst this
                  rw [show sgn 0 1 = 1 from rfl, mk_one] at h
                  repeat (walk_at "mine step")
                  exact h
              · have hw : m = 1 := by have := of_decide_eq_true hw; omega
                rw [if_pos hw, sgn0, mk_zero] at h
                repeat (walk_at "mine step")
                exact h
            · have hz := of_decide_eq_true hz
              rw [ne_small (Nat.lt_of_lt_of_le b2 (Nat.pow_le_pow_right (by decide) (by omega))), sgn0, mk_zero] at h
              repeat (walk_at "mine step")
              exact h
      · have hge := of_decide_eq_false hd
        repeat (walk_at "mine step")
        refine b_min2 ?_
        rw [if_pos (by omega)]
        repeat (walk_at "mine step")
        refine CallOK.mono (ok_pos F n (k := k) hs hm (by omega) (by omega) (by omega) (by omega) hr (φ := φ) (by rw [show -(k : Int) + (k : Int) = 0 by omega]; exact h)) fun p hp => ?_
        repeat (walk_at "mine step")
        exact hp
theorem ok_floor {C : Cx} (F : Facts C) (n : Nat) {a : Int} {K : Nat} (hb : bits a ≤ 100000) {φ : PV → Prop} (h : φ (mk (Int.fdiv a (2 ^ K)) 0)) : CallOK C (n + 6) "mpf_floor" [mk a (-K)] φ := by
  refine callD (show DefAt C "mpf_floor" _ _ _ _ from F.defs "mpf_floor" _ rfl) ["s", "prec", "rnd"] (ρ₀ := [("rnd", .str sd), ("prec", .int 0), ("s", mk a (-K))]) rfl rfl (by decide) rfl rfl rfl rfl rfl (by decide) rfl rfl rfl ?_
  repeat (walk_at "mine step")
  refine ok_mround F n hb (.inr (.inl rfl)) ?_
  rw [RI_f]
  repeat (walk_at "mine step")
  refine And.intro (fun hb => absurd hb (by decide)) (fun hb => ?_)
  repeat (walk_at "mine step")
  exact h
theorem ok_ceil {C : Cx} (F : Facts C) (n : Nat) {a : Int} {K : Nat} (hb : bits a ≤ 100000) {φ : PV → Prop} (h : φ (mk (-(Int.fdiv (-a) (2 ^ K))) 0)) : CallOK C (n + 6) "mpf_ceil" [mk a (-K)] φ := by
  refine callD (show DefAt C "mpf_ceil" _ _ _ _ from F.defs "mpf_ceil" _ rfl) ["s", "prec", "rnd"] (ρ₀ := [("rnd", .str sd), ("prec", .int 0), ("s", mk a (-K))]) rfl rfl (by decide) rfl rfl rfl rfl rfl (by decide) rfl rfl rfl ?_
  repeat (walk_at "mine step")
  refine ok_mround F n hb (.inr (.inr rfl)) ?_
  rw [RI_c]
  repeat (walk_at "mine step")
  refine And.intro (fun hb => absurd hb (by decide)) (fun hb => ?_)
  repeat (walk_at "mine step")
  exact h
theorem ok_nint {C : Cx} (F : Facts C) (n : Nat) {a : Int} {K : Nat} (hb : bits a ≤ 100000) {φ : PV → Prop} (h : φ (mk (RI sn a K) 0)) : CallOK C (n + 6) "mpf_nint" [mk a (-K)] φ := by
  refine callD (show DefAt C "mpf_nint" _ _ _ _ from F.defs "mpf_nint" _ rfl) ["s", "prec", "rnd"] (ρ₀ := [("rnd", .str sd), ("prec", .int 0), ("s", mk a (-K))]) rfl rfl (by decide) rfl rfl rfl rfl rfl (by decide) rfl rfl rfl ?_
  repeat (walk_at "mine step")
  refine ok_mround F n hb (.inl rfl) ?_
  repeat (walk_at "mine step")
  refine And.intro (fun hb => absurd hb (by decide)) (fun hb => ?_)
  repeat (walk_at "mine step")
  exact h
theorem ok_fme {C : Cx} (F : Facts C) (n : Nat) {a e : Int} {rnd : Str} {φ : PV → Prop} (h : φ (mk a e)) : CallOK C (n + 2) "from_man_exp" [.int a, .int e, .int 0, .str rnd] φ := by
  refine callD (show DefAt C "from_man_exp" _ _ _ _ from F.defs "from_man_exp" _ rfl) ["man", "exp", "prec", "rnd"] (ρ₀ := [("rnd", .str rnd), ("prec", .int 0), ("exp", .int e), ("man", .int a)]) rfl rfl (by decide) rfl rfl rfl rfl rfl (by decide) rfl rfl rfl ?_
  have two : ∀ m : Nat, (Builtin.bitAnd (m : Int) 2 != 0) = decide (m / 2 % 2 = 1) := by
    intro m
    rw [and_two]
    rcases Nat.mod_two_eq_zero_or_one (m / 2) with h | h <;> rw [h] <;> rfl
  -- behind the sign: the tuple of sg and M
  have tail : ∀ (sg : Int) (M : Nat), (sg = 0 ∨ sg = 1) → a = sgn sg M → ∀ ρ, look ρ "sign" = some (.int sg) → look ρ "man" = some (.int M) → look ρ "exp" = some (.int e) → look ρ "prec" = some (.int 0) → look ρ "rnd" = some (.str rnd) → (match stOf "from_man_exp" with
      | .FunctionDef _ params body _ _ _ scope _ _ _ => Ex C scope (n + 1) ρ (body.drop 3) (toRet φ)
      | _ => True) := by
    intro sg M hs ha ρ l1 l2 l3 l4 l5
    subst ha
    show Ex C _ (n + 1) ρ (List.drop 3 _) (toRet φ)
    refine Ex.cons (st := ?_) (ss := ?_) ?_
    repeat (walk_at "mine step")
    refine And.intro (fun _ => ?_) (fun hb => absurd hb (by decide))
    repeat (walk_at "mine step")
    by_cases hM : M = 0
    · subst hM
      rw [sgn0, mk_zero] at h
      refine And.intro (fun _ => ?_) (fun hb => absurd hb (by decide))
      repeat (walk_at "mine step")
      exact h
    · refine And.intro (fun hb => by have := bne_f (x := (M : Int)) (by simpa using hb); omega) (fun _ => ?_)
      obtain ⟨m, k, rfl, hm⟩ := split2 M hM
      have hbm := bits_mul_pow (n := m) (by omega) k
      have hdiv : m * 2 ^ k / 2 ^ k = m := Nat.mul_div_cancel _ (Nat.two_pow_pos k)
      rw [mk_sgn hs hm] at h
      repeat (walk_at "mine step")
      rw [and_one]
      refine And.intro (fun hc => ?_) (fun hc => ?_)
      · have hev : (m * 2 ^ k) % 2 = 0 := by
          have := bne_f (x := ((m * 2 ^ k : Nat) : Int) % 2) (by simpa using hc)
          omega
        have hk : k ≠ 0 := by rintro rfl; simp only [Nat.pow_zero, Nat.mul_one] at hev; omega
        repeat (walk_at "mine step")
        rw [two]
        refine And.intro (fun hd => ?_) (fun hd => ?_)
        · have hd := of_decide_eq_true hd
          have hk1 : k = 1 := by
            obtain ⟨i, rfl⟩ : ∃ i, k = i + 1 := ⟨k - 1, by omega⟩
            rcases i with _ | i
            · rfl
            · rw [Nat.pow_succ, Nat.pow_succ] at hd
              exfalso
              have : m * (2 ^ i * 2 * 2) / 2 % 2 = 0 := by rw [← Nat.mul_assoc, ← Nat.mul_assoc]; omega
              omega
          subst hk1
          repeat (walk_at "mine step")
          have e1 : Int.fdiv ((m * 2 ^ 1 : Nat) : Int) (2 ^ (1 : Int).toNat) = (m : Int) := by
            rw [show (1 : Int).toNat = 1 from rfl, fdiv_nat, hdiv]
          have e2 : ((bits ((m * 2 ^ 1 : Nat) : Int) : Nat) : Int) - 1 = bits (m : Int) := by rw [hbm]; omega
          unfold bits at e2 h
          rw [e1, e2]; exact h
        · repeat (walk_at "mine step")
          refine ok_trailing F _ (m * 2 ^ k) hM ?_
          rw [tzN_split hm]
          repeat (walk_at "mine step")
          have e2 : ((bits ((m * 2 ^ k : Nat) : Int) : Nat) : Int) - k = bits (m : Int) := by rw [hbm]; omega
          unfold bits at e2 h
          rw [Int.toNat_natCast, fdiv_nat, hdiv, e2]
          exact h
      · have hk : k = 0 := by
          have hodd := bne_t (x := ((m * 2 ^ k : Nat) : Int) % 2) (by simpa using hc)
          rcases k with _ | k
          · rfl
          · exfalso
            rw [Nat.pow_succ, ← Nat.mul_assoc] at hodd; omega
        subst hk
        simp only [Nat.pow_zero, Nat.mul_one] at *
        rw [show e + ((0 : Nat) : Int) = e by omega] at h
        repeat (walk_at "mine step")
        exact h
  repeat (walk_at "mine step")
  refine b_isint ?_
  repeat (walk_at "mine step")
  refine And.intro (fun hb => ?_) (fun hb => ?_)
  · have hb := of_decide_eq_true hb
    repeat (walk_at "mine expr")
    refine Ex.cons ?_
    repeat (walk_at "mine expr")
    refine Ex.cons ?_
    repeat (walk_at "mine expr")
    have e1 : -a = ((a.natAbs : Nat) : Int) := by omega
    rw [e1]
    exact tail 1 a.natAbs (.inr rfl) (by unfold sgn; rw [if_neg (by decide)]; omega) _ rfl rfl rfl rfl rfl
  · have hb := of_decide_eq_false hb
    repeat (walk_at "mine expr")
    have e1 : a = ((a.natAbs : Nat) : Int) := by omega
    have := tail 0 a.natAbs (.inl rfl) (by unfold sgn; rw [if_pos rfl]; omega) [("sign", .int 0), ("rnd", .str rnd), ("prec", .int 0), ("exp", .int e), ("man", .int a)] rfl (by rw [← e1]; rfl) rfl rfl rfl
    exact this

theorem ok_from_int {C : Cx} (F : Facts C) (n : Nat) {a : Int} {φ : PV → Prop} (h : φ (mk a 0)) : CallOK C (n + 3) "from_int" [.int a] φ := by
  refine callD (show DefAt C "from_int" _ _ _ _ from F.defs "from_int" _ rfl) ["n", "prec", "rnd"] (ρ₀ := [("rnd", .str sd), ("prec", .int 0), ("n", .int a)]) rfl rfl (by decide) rfl rfl rfl rfl rfl (by decide) rfl rfl rfl ?_
  repeat (walk_at "mine step")
  refine b_int ?_
  repeat (walk_at "mine step")
  refine CallOK.mono (ok_fme F n h) fun p hp => ?_
  repeat (walk_at "mine step")
  exact hp
/-- what add leaves: the sum; cut to five places, something of its sign -/
def AddPost (prec v e : Int) (p : PV) : Prop := (prec = 0 → p = mk v e) ∧ (prec = 5 → ∃ x y, p = mk x y ∧ (x < 0 ↔ v < 0))
theorem sgn_lt {sg : Int} {m : Nat} (hs : sg = 0 ∨ sg = 1) (hm : m ≠ 0) : sgn sg m < 0 ↔ sg = 1 := by
  unfold sgn
  rcases hs with rfl | rfl
  · rw [if_pos rfl]; omega
  · rw [if_neg (by decide)]; omega
theorem add_norm {C : Cx} (F : Facts C) (n : Nat) {sg ex e v prec b P : Int} {man j : Nat} {rnd : Str} (hs : sg = 0 ∨ sg = 1) (hv : v = sgn sg man * 2 ^ j) (hex : ex = e + j) (hp : prec = 0 ∨ prec = 5 ∧ rnd = sf) (hbig : bits (man : Int) ≤ 100000)
    (hb : b = bits (man : Int)) (hP : prec = 0 ∧ P = bits (man : Int) ∨ prec ≠ 0 ∧ P = prec) {φ : PV → Prop} (h : ∀ p, AddPost prec v e p → φ p) : CallOK C (n + 3) "normalize" [.int sg, .int man, .int ex, .int b, .int P, .str rnd] φ := by
  have hmk : mk (sgn sg man) ex = mk v e := by rw [hv, hex, mk_shift]
  have hpj : (0 : Int) < 2 ^ j := by have := Nat.two_pow_pos j; have : (0 : Int) < ((2 ^ j : Nat) : Int) := by omega
                                     simpa using this
  have hvneg : (v < 0 ↔ sgn sg man < 0) := by
    rw [hv]
    constructor
    · intro h0
      rcases Int.lt_or_le (sgn sg man) 0 with c | c
      · exact c
      · have := Int.mul_nonneg c (Int.le_of_lt hpj); omega
    · intro h0; exact Int.mul_neg_of_neg_of_pos h0 hpj
  refine ok_normalize F n hb hs (fun _ => h _ ⟨fun _ => hmk, fun _ => ⟨_, _, rfl, hvneg.symm⟩⟩) fun k hm hk h1 => ?_
  rcases hp with rfl | ⟨rfl, rfl⟩
  · omega
  · refine ⟨.inr (.inl rfl), by omega, hbig, h _ ⟨fun e => by omega, fun _ => ⟨_, _, rfl, ?_⟩⟩⟩
    rw [hvneg, sgn_lt hs hm, sgn_lt hs (rd_pos h1 (by omega))]

theorem ok_neg0 {C : Cx} (F : Facts C) (n : Nat) {φ : PV → Prop} (h : φ (.nums [0, 0, 0, 0])) : CallOK C (n + 1) "mpf_neg" [.nums [0, 0, 0, 0]] φ := by
  have := ok_neg F n (a := 0) (e := 0) (φ := φ) (by rw [Int.neg_zero, mk_zero]; exact h)
  rw [mk_zero] at this; exact this
/-- behind the inner if: the sum's sign and mantissa -/
def AddMid (V e1 e2 prec : Int) (rnd : Str) (ρ : Loc) : Prop := ∃ (sg : Int) (man : Nat), (sg = 0 ∨ sg = 1) ∧ sgn sg man = V ∧ look ρ "ssign" = some (.int sg) ∧ look ρ "man" = some (.int man) ∧ look ρ "sexp" = some (.int e1) ∧ look ρ "texp" = some (.int e2) ∧ look ρ "prec" = some (.int prec) ∧ look ρ "rnd" = some (.str rnd)
theorem bits_add_le {x y : Int} {k : Nat} (hx : bits x ≤ k) (hy : bits y ≤ k) : bits (x + y) ≤ k + 1 := by
  have := intBits_add_le hx hy
  rw [Nat.max_self] at this; exact this
theorem sgn_split (V : Int) (h : 0 ≤ V) : V = sgn 0 V.toNat := by unfold sgn; rw [if_pos rfl]; omega
theorem sgn_split' (V : Int) (h : V < 0) : V = sgn 1 (-V).toNat := by unfold sgn; rw [if_neg (by decide)]; omega
theorem shl_nat (m k : Nat) : (m : Int) * 2 ^ ((k : Nat) : Int).toNat = ((m * 2 ^ k : Nat) : Int) := by rw [Int.toNat_natCast]; push_cast; rfl

def AddIn (sg : Int) (m : Nat) (e1 t2 : Int) (l : Nat) (e2 off prec : Int) (rnd : Str) (ρ : Loc) : Prop :=
  look ρ "ssign" = some (.int sg) ∧ look ρ "sman" = some (.int m) ∧ look ρ "sexp" = some (.int e1) ∧ look ρ "tsign" = some (.int t2) ∧ look ρ "tman" = some (.int l) ∧ look ρ "texp" = some (.int e2) ∧ look ρ "offset" = some (.int off) ∧ look ρ "prec" = some (.int prec) ∧ look ρ "rnd" = some (.str rnd)
theorem AddMid.same {V e1 e2 prec : Int} {rnd : Str} {ρ : Loc} {sg : Int} {man : Nat} {mi : Int} (hs : sg = 0 ∨ sg = 1) (a : look ρ "ssign" = some (.int sg)) (b : look ρ "man" = some (.int mi)) (c : look ρ "sexp" = some (.int e1)) (d : look ρ "texp" = some (.int e2)) (f : look ρ "prec" = some (.int prec)) (g : look ρ "rnd" = some (.str rnd)) (hV : sgn sg man = V) (hm : mi = man) : AddMid V e1 e2 prec rnd ρ :=
  ⟨sg, man, hs, hV, a, by rw [b, hm], c, d, f, g⟩
theorem sgn_add {sg : Int} (m l : Nat) : sgn sg (m + l) = sgn sg m + sgn sg l := by unfold sgn; split <;> omega

theorem ok_add {C : Cx} (F : Facts C) (n : Nat) {a b e prec sub : Int} {rnd : Str} (ha : bits a ≤ 40000) (hb : bits b ≤ 40000) (hsub : sub = 0 ∨ sub = 1)
    (hp : prec = 0 ∨ prec = 5 ∧ rnd = sf ∧ a ≠ 0 ∧ b ≠ 0 ∧ bits a = bits b) {ps : List PV} (hps : ps = [mk a e, mk b e, .int prec, .str rnd, .int sub] ∨ ps = [mk a e, mk b e] ∧ prec = 0 ∧ rnd = sd ∧ sub = 0)
    {φ : PV → Prop} (h : ∀ p, AddPost prec (a + (if sub = 0 then b else -b)) e p → φ p) : CallOK C (n + 4) "mpf_add" ps φ := by
  have body : ∀ ρ, ρ = [("_sub", PV.int sub), ("rnd", PV.str rnd), ("prec", PV.int prec), ("t", mk b e), ("s", mk a e)] → (match stOf "mpf_add" with
      | .FunctionDef _ params body _ _ _ scope _ _ _ => Ex C scope (n + 3) ρ body (toRet φ)
      | _ => True) := by
    rintro _ rfl
    show Ex C _ (n + 3) _ _ (toRet φ)
    by_cases ha0 : a = 0
    · subst ha0
      have hp0 : prec = 0 := by rcases hp with h | h; exact h; exact absurd rfl h.2.2.1
      subst hp0
      rw [Int.zero_add] at h
      by_cases hb0 : b = 0
      · subst hb0
        have h0 : φ (.nums [0, 0, 0, 0]) := h _ ⟨fun _ => by rw [Int.neg_zero, ite_self, mk_zero], fun e => absurd e (by decide)⟩
        rw [mk_zero]
        repeat (walk_at "mine step")
        refine And.intro (fun g1 => absurd g1 (by decide)) (fun _ => ?_)
        repeat (walk_at "mine step")
        have rest : ∀ ρ, look ρ "sman" = some (.int 0) → look ρ "sexp" = some (.int 0) → look ρ "tman" = some (.int 0) → look ρ "t" = some (.nums [0, 0, 0, 0]) → (match stOf "mpf_add" with
            | .FunctionDef _ params body _ _ _ scope _ _ _ => Ex C scope (n + 3) ρ (body.drop 5) (toRet φ)
            | _ => True) := by
          intro ρ l1 l2 l3 l4
          show Ex C _ (n + 3) ρ (List.drop 5 _) (toRet φ)
          refine Ex.cons (st := ?_) (ss := ?_) ?_
          repeat (walk_at "mine step")
          refine And.intro (fun _ => ?_) (fun g1 => absurd g1 (by decide))
          repeat (walk_at "mine step")
          refine And.intro (fun g1 => absurd g1 (by decide)) (fun _ => ?_)
          repeat (walk_at "mine step")
          refine And.intro (fun g1 => absurd g1 (by decide)) (fun _ => ?_)
          repeat (walk_at "mine step")
          exact h0
        refine And.intro (fun g1 => ?_) (fun g1 => ?_)
        · repeat (walk_at "mine step")
          refine ok_neg0 F (n + 2) ?_
          repeat (walk_at "mine expr")
          exact rest _ rfl rfl rfl rfl
        · repeat (walk_at "mine expr")
          exact rest _ rfl rfl rfl rfl
      · obtain ⟨tg, l, j, ht, hl, rfl⟩ := raw b hb0
        obtain ⟨t2, ht2, hx, hc⟩ : ∃ t2, (t2 = 0 ∨ t2 = 1) ∧ Builtin.bitXor tg sub = t2 ∧ (if sub = 0 then sgn tg (l * 2 ^ j) else -(sgn tg (l * 2 ^ j))) = sgn t2 (l * 2 ^ j) := by
          rcases hsub with rfl | rfl <;> rcases ht with rfl | rfl
          · exact ⟨0, .inl rfl, by decide, rfl⟩
          · exact ⟨1, .inr rfl, by decide, rfl⟩
          · exact ⟨1, .inr rfl, by decide, by rw [if_neg (by decide), sgn_neg (.inl rfl)]; rfl⟩
          · exact ⟨0, .inl rfl, by decide, by rw [if_neg (by decide), sgn_neg (.inr rfl)]; rfl⟩
        rw [hc] at h
        have hbj : bits (l : Int) + j ≤ 40000 := by rw [bits_sgn, bits_mul_pow (by omega)] at hb; exact hb
        have hneg := ok_neg F (n + 2) (a := sgn tg (l * 2 ^ j)) (e := e) (φ := fun _ => True) trivial
        rw [mk_sgn ht hl] at hneg
        rw [mk_zero, mk_sgn ht hl]
        repeat (walk_at "mine step")
        rw [hx]
        refine And.intro (fun g1 => absurd g1 (by decide)) (fun _ => ?_)
        repeat (walk_at "mine step")
        have rest : ∀ ρ, look ρ "sman" = some (.int 0) → look ρ "sexp" = some (.int 0) → look ρ "tsign" = some (.int t2) → look ρ "tman" = some (.int l) → look ρ "texp" = some (.int (e + j)) → look ρ "tbc" = some (.int (bits (l : Int))) → look ρ "prec" = some (.int 0) → look ρ "rnd" = some (.str rnd) → (match stOf "mpf_add" with
            | .FunctionDef _ params body _ _ _ scope _ _ _ => Ex C scope (n + 3) ρ (body.drop 5) (toRet φ)
            | _ => True) := by
          intro ρ l1 l2 l3 l4 l5 l6 l7 l8
          show Ex C _ (n + 3) ρ (List.drop 5 _) (toRet φ)
          refine Ex.cons (st := ?_) (ss := ?_) ?_
          repeat (walk_at "mine step")
          refine And.intro (fun _ => ?_) (fun g1 => absurd g1 (by decide))
          repeat (walk_at "mine step")
          refine And.intro (fun g1 => absurd g1 (by decide)) (fun _ => ?_)
          repeat (walk_at "mine step")
          rw [odd_int hl]
          repeat (walk_at "mine step")
          refine And.intro (fun g1 => absurd g1 (by decide)) (fun _ => ?_)
          repeat (walk_at "mine step")
          refine CallOK.mono (add_norm F n (j := j) ht2 (by rw [← sgn_mul_pow]) rfl (.inl rfl) (by omega) rfl (.inl ⟨rfl, rfl⟩) h) fun p hp => ?_
          repeat (walk_at "mine step")
          exact hp
        refine And.intro (fun g1 => ?_) (fun g1 => ?_)
        · repeat (walk_at "mine step")
          refine CallOK.mono hneg fun p hp => ?_
          repeat (walk_at "mine expr")
          exact rest _ rfl rfl rfl rfl rfl rfl rfl rfl
        · repeat (walk_at "mine expr")
          exact rest _ rfl rfl rfl rfl rfl rfl rfl rfl
    · by_cases hb0 : b = 0
      · subst hb0
        have hp0 : prec = 0 := by rcases hp with h | h; exact h; exact absurd rfl h.2.2.2.1
        subst hp0
        rw [Int.neg_zero, ite_self, Int.add_zero] at h
        obtain ⟨sg, m, i, hs, hm, rfl⟩ := raw a ha0
        have hbi : bits (m : Int) + i ≤ 40000 := by rw [bits_sgn, bits_mul_pow (by omega)] at ha; exact ha
        rw [mk_zero, mk_sgn hs hm]
        repeat (walk_at "mine step")
        rw [odd_int hm]
        repeat (walk_at "mine step")
        refine And.intro (fun g1 => absurd g1 (by decide)) (fun _ => ?_)
        repeat (walk_at "mine step")
        have rest : ∀ ρ, look ρ "ssign" = some (.int sg) → look ρ "sman" = some (.int m) → look ρ "sexp" = some (.int (e + i)) → look ρ "sbc" = some (.int (bits (m : Int))) → look ρ "texp" = some (.int 0) → look ρ "prec" = some (.int 0) → look ρ "rnd" = some (.str rnd) → (match stOf "mpf_add" with
            | .FunctionDef _ params body _ _ _ scope _ _ _ => Ex C scope (n + 3) ρ (body.drop 5) (toRet φ)
            | _ => True) := by
          intro ρ l1 l2 l3 l4 l5 l6 l7
          show Ex C _ (n + 3) ρ (List.drop 5 _) (toRet φ)
          refine Ex.cons (st := ?_) (ss := ?_) ?_
          repeat (walk_at "mine step")
          rw [odd_int hm]
          repeat (walk_at "mine step")
          refine And.intro (fun g1 => absurd g1 (by decide)) (fun _ => ?_)
          repeat (walk_at "mine step")
          rw [odd_int hm]
          repeat (walk_at "mine step")
          refine And.intro (fun g1 => absurd g1 (by decide)) (fun _ => ?_)
          repeat (walk_at "mine step")
          refine CallOK.mono (add_norm F n (j := i) hs (by rw [← sgn_mul_pow]) rfl (.inl rfl) (by omega) rfl (.inl ⟨rfl, rfl⟩) h) fun p hp => ?_
          repeat (walk_at "mine step")
          exact hp
        refine And.intro (fun g1 => ?_) (fun g1 => ?_)
        · repeat (walk_at "mine step")
          refine ok_neg0 F (n + 2) ?_
          repeat (walk_at "mine expr")
          exact rest _ rfl rfl rfl rfl rfl rfl rfl
        · repeat (walk_at "mine expr")
          exact rest _ rfl rfl rfl rfl rfl rfl rfl
      · obtain ⟨sg, m, i, hs, hm, rfl⟩ := raw a ha0
        obtain ⟨tg, l, j, ht, hl, rfl⟩ := raw b hb0
        obtain ⟨t2, ht2, hx, hc⟩ : ∃ t2, (t2 = 0 ∨ t2 = 1) ∧ Builtin.bitXor tg sub = t2 ∧ (if sub = 0 then sgn tg (l * 2 ^ j) else -(sgn tg (l * 2 ^ j))) = sgn t2 (l * 2 ^ j) := by
          rcases hsub with rfl | rfl <;> rcases ht with rfl | rfl
          · exact ⟨0, .inl rfl, by decide, rfl⟩
          · exact ⟨1, .inr rfl, by decide, rfl⟩
          · exact ⟨1, .inr rfl, by decide, by rw [if_neg (by decide), sgn_neg (.inl rfl)]; rfl⟩
          · exact ⟨0, .inl rfl, by decide, by rw [if_neg (by decide), sgn_neg (.inr rfl)]; rfl⟩
        rw [hc] at h
        have hbi : bits (m : Int) + i ≤ 40000 := by rw [bits_sgn, bits_mul_pow (by omega)] at ha; exact ha
        have hbj : bits (l : Int) + j ≤ 40000 := by rw [bits_sgn, bits_mul_pow (by omega)] at hb; exact hb
        have hp5 : prec = 0 ∨ prec = 5 ∧ rnd = sf := by rcases hp with h | h; exact .inl h; exact .inr ⟨h.1, h.2.1⟩
        have hdel : prec ≠ 0 → (bits (m : Int) : Int) + i = bits (l : Int) + j := by
          intro h0
          rcases hp with h | ⟨_, _, _, _, h⟩
          · exact absurd h h0
          · rw [bits_sgn, bits_mul_pow (by omega), bits_sgn, bits_mul_pow (by omega)] at h; omega
        clear hp hps hc
        rw [mk_sgn hs hm, mk_sgn ht hl]
        repeat (walk_at "mine step")
        rw [hx, odd_int hm]
        repeat (walk_at "mine step")
        rw [odd_int hl]
        repeat (walk_at "mine step")
        refine And.intro (fun hoff => ?_) (fun hoff => ?_)
        · repeat (walk_at "mine step")
          refine And.intro (fun hpos => ?_) (fun hpos => ?_)
          · -- the first lies higher
            have hpos := of_decide_eq_true hpos
            obtain ⟨k, rfl⟩ : ∃ k, i = j + k := ⟨i - j, by omega⟩
            have ek : e + ((j + k : Nat) : Int) - (e + (j : Int)) = (k : Int) := by omega
            rw [ek]
            refine Ex.cut (AddIn sg m (e + ((j + k : Nat) : Int)) t2 l (e + (j : Int)) (k : Int) prec rnd) ?_ fun ρ' ⟨l1, l2, l3, l4, l5, l6, l7, l8, l9⟩ => ?_
            · repeat (walk_at "mine expr")
              refine And.intro (fun g1 => ?_) (fun g1 => ?_)
              · repeat (walk_at "mine expr")
                refine And.intro (fun g2 => ?_) (fun g2 => ?_)
                · repeat (walk_at "mine step")
                  refine And.intro (fun g3 => ?_) (fun g3 => ?_)
                  · have g4 := of_decide_eq_true g3
                    have g5 := hdel (bne_t g2)
                    exfalso
                    unfold bits at *
                    rcases hp5 with g6 | g6 <;> omega
                  · repeat (walk_at "mine step")
                    exact ⟨rfl, rfl, rfl, rfl, rfl, rfl, rfl, rfl, rfl⟩
                · repeat (walk_at "mine step")
                  exact ⟨rfl, rfl, rfl, rfl, rfl, rfl, rfl, rfl, rfl⟩
              · repeat (walk_at "mine step")
                exact ⟨rfl, rfl, rfl, rfl, rfl, rfl, rfl, rfl, rfl⟩
            refine Ex.cut (AddMid (sgn sg (m * 2 ^ k) + sgn t2 (l)) (e + ((j + k : Nat) : Int)) (e + (j : Int)) prec rnd) ?_ fun ρ2 ⟨s3, man, hs3, hV, q1, q2, q3, q4, q5, q6⟩ => ?_
            · repeat (walk_at "mine expr")
              refine And.intro (fun g1 => ?_) (fun g1 => ?_)
              · have g1 := of_decide_eq_true g1
                repeat (walk_at "mine step")
                refine s_shl (by omega) (by unfold bits at hbi hbj; omega) ?_
                rw [shl_nat]
                repeat (walk_at "mine step")
                exact AddMid.same (man := m * 2 ^ k + l) hs (by first | rfl | (repeat (first | assumption | refine look_skip (by decide) ?_))) (by first | rfl | (repeat (first | assumption | refine look_skip (by decide) ?_))) (by first | rfl | (repeat (first | assumption | refine look_skip (by decide) ?_))) (by first | rfl | (repeat (first | assumption | refine look_skip (by decide) ?_))) (by first | rfl | (repeat (first | assumption | refine look_skip (by decide) ?_))) (by first | rfl | (repeat (first | assumption | refine look_skip (by decide) ?_))) (by rw [sgn_add, g1]) (by push_cast; omega)
              · have g1 := of_decide_eq_false g1
                repeat (walk_at "mine step")
                refine And.intro (fun g2 => ?_) (fun g2 => ?_)
                · have g3 : sg = 1 := by have := bne_t g2; omega
                  have g4 : t2 = 0 := by omega
                  subst g3; subst g4
                  have hD : sgn 1 (m * 2 ^ k) + sgn 0 (l) = ((l : Nat) : Int) - ((m * 2 ^ k : Nat) : Int) := by unfold sgn; simp only [if_true]; rw [if_neg (by decide)]; omega
                  repeat (walk_at "mine step")
                  refine s_shl (by omega) (by unfold bits at hbi hbj; omega) ?_
                  rw [shl_nat]
                  repeat (walk_at "mine step")
                  refine And.intro (fun g5 => ?_) (fun g5 => ?_)
                  · have g5 := of_decide_eq_true g5
                    repeat (walk_at "mine step")
                    exact AddMid.same (.inl rfl) (by first | rfl | (repeat (first | assumption | refine look_skip (by decide) ?_))) (by first | rfl | (repeat (first | assumption | refine look_skip (by decide) ?_))) (by first | rfl | (repeat (first | assumption | refine look_skip (by decide) ?_))) (by first | rfl | (repeat (first | assumption | refine look_skip (by decide) ?_))) (by first | rfl | (repeat (first | assumption | refine look_skip (by decide) ?_))) (by first | rfl | (repeat (first | assumption | refine look_skip (by decide) ?_))) (by rw [hD]; exact (sgn_split _ g5).symm) (by omega)
                  · have g5 := of_decide_eq_false g5
                    repeat (walk_at "mine step")
                    exact AddMid.same (.inr rfl) (by first | rfl | (repeat (first | assumption | refine look_skip (by decide) ?_))) (by first | rfl | (repeat (first | assumption | refine look_skip (by decide) ?_))) (by first | rfl | (repeat (first | assumption | refine look_skip (by decide) ?_))) (by first | rfl | (repeat (first | assumption | refine look_skip (by decide) ?_))) (by first | rfl | (repeat (first | assumption | refine look_skip (by decide) ?_))) (by first | rfl | (repeat (first | assumption | refine look_skip (by decide) ?_))) (by rw [hD]; exact (sgn_split' _ (Int.not_le.mp g5)).symm) (by omega)
                · have g3 : sg = 0 := by exact bne_f g2
                  have g4 : t2 = 1 := by omega
                  subst g3; subst g4
                  have hD : sgn 0 (m * 2 ^ k) + sgn 1 (l) = ((m * 2 ^ k : Nat) : Int) - ((l : Nat) : Int) := by unfold sgn; simp only [if_true]; rw [if_neg (by decide)]; omega
                  repeat (walk_at "mine step")
                  refine s_shl (by omega) (by unfold bits at hbi hbj; omega) ?_
                  rw [shl_nat]
                  repeat (walk_at "mine step")
                  refine And.intro (fun g5 => ?_) (fun g5 => ?_)
                  · have g5 := of_decide_eq_true g5
                    repeat (walk_at "mine step")
                    exact AddMid.same (.inl rfl) (by first | rfl | (repeat (first | assumption | refine look_skip (by decide) ?_))) (by first | rfl | (repeat (first | assumption | refine look_skip (by decide) ?_))) (by first | rfl | (repeat (first | assumption | refine look_skip (by decide) ?_))) (by first | rfl | (repeat (first | assumption | refine look_skip (by decide) ?_))) (by first | rfl | (repeat (first | assumption | refine look_skip (by decide) ?_))) (by first | rfl | (repeat (first | assumption | refine look_skip (by decide) ?_))) (by rw [hD]; exact (sgn_split _ g5).symm) (by omega)
                  · have g5 := of_decide_eq_false g5
                    repeat (walk_at "mine step")
                    exact AddMid.same (.inr rfl) (by first | rfl | (repeat (first | assumption | refine look_skip (by decide) ?_))) (by first | rfl | (repeat (first | assumption | refine look_skip (by decide) ?_))) (by first | rfl | (repeat (first | assumption | refine look_skip (by decide) ?_))) (by first | rfl | (repeat (first | assumption | refine look_skip (by decide) ?_))) (by first | rfl | (repeat (first | assumption | refine look_skip (by decide) ?_))) (by first | rfl | (repeat (first | assumption | refine look_skip (by decide) ?_))) (by rw [hD]; exact (sgn_split' _ (Int.not_le.mp g5)).symm) (by omega)
            have hbig : bits (man : Int) ≤ 100000 := by
              have e1 := bits_sgn s3 man
              have e2 : bits (sgn sg (m * 2 ^ k)) ≤ 40000 := by rw [bits_sgn, bits_mul_pow (by omega)]; omega
              have e3 : bits (sgn t2 (l)) ≤ 40000 := by rw [bits_sgn]; omega
              have e4 := bits_add_le e2 e3
              rw [← hV] at e4; omega
            repeat (walk_at "mine step")
            refine And.intro (fun g1 => ?_) (fun g1 => ?_)
            · repeat (walk_at "mine step")
              refine CallOK.mono (add_norm F n (j := j) hs3 (by rw [hV, Int.add_mul, ← sgn_mul_pow, ← sgn_mul_pow, Nat.mul_assoc, ← Nat.pow_add, Nat.add_comm k j]) rfl hp5 hbig rfl (.inr ⟨bne_t g1, rfl⟩) h) fun p hp => ?_
              repeat (walk_at "mine step")
              exact hp
            · repeat (walk_at "mine step")
              refine CallOK.mono (add_norm F n (j := j) hs3 (by rw [hV, Int.add_mul, ← sgn_mul_pow, ← sgn_mul_pow, Nat.mul_assoc, ← Nat.pow_add, Nat.add_comm k j]) rfl hp5 hbig rfl (.inl ⟨bne_f g1, rfl⟩) h) fun p hp => ?_
              repeat (walk_at "mine step")
              exact hp
          · -- the second lies higher
            have hpos := of_decide_eq_false hpos
            have hoff' := bne_t hoff
            obtain ⟨k, rfl⟩ : ∃ k, j = i + k := ⟨j - i, by omega⟩
            have ek : e + (i : Int) - (e + ((i + k : Nat) : Int)) = -(k : Int) := by omega
            rw [ek]
            refine Ex.cons ?_
            repeat (walk_at "mine expr")
            refine And.intro (fun _ => ?_) (fun g0 => by have := of_decide_eq_false g0; omega)
            refine Ex.cut (AddIn sg m (e + (i : Int)) t2 l (e + ((i + k : Nat) : Int)) (-(k : Int)) prec rnd) ?_ fun ρ' ⟨l1, l2, l3, l4, l5, l6, l7, l8, l9⟩ => ?_
            · repeat (walk_at "mine expr")
              refine And.intro (fun g1 => ?_) (fun g1 => ?_)
              · repeat (walk_at "mine expr")
                refine And.intro (fun g2 => ?_) (fun g2 => ?_)
                · repeat (walk_at "mine step")
                  refine And.intro (fun g3 => ?_) (fun g3 => ?_)
                  · have g4 := of_decide_eq_true g3
                    have g5 := hdel (bne_t g2)
                    exfalso
                    unfold bits at *
                    rcases hp5 with g6 | g6 <;> omega
                  · repeat (walk_at "mine step")
                    exact ⟨rfl, rfl, rfl, rfl, rfl, rfl, rfl, rfl, rfl⟩
                · repeat (walk_at "mine step")
                  exact ⟨rfl, rfl, rfl, rfl, rfl, rfl, rfl, rfl, rfl⟩
              · repeat (walk_at "mine step")
                exact ⟨rfl, rfl, rfl, rfl, rfl, rfl, rfl, rfl, rfl⟩
            refine Ex.cut (AddMid (sgn sg (m) + sgn t2 (l * 2 ^ k)) (e + (i : Int)) (e + ((i + k : Nat) : Int)) prec rnd) ?_ fun ρ2 ⟨s3, man, hs3, hV, q1, q2, q3, q4, q5, q6⟩ => ?_
            · repeat (walk_at "mine expr")
              refine And.intro (fun g1 => ?_) (fun g1 => ?_)
              · have g1 := of_decide_eq_true g1
                repeat (walk_at "mine step")
                refine s_shl (by omega) (by unfold bits at hbi hbj; omega) ?_
                rw [show -(-(k : Int)) = (k : Int) by omega, shl_nat]
                repeat (walk_at "mine step")
                exact AddMid.same (man := m + l * 2 ^ k) hs (by first | rfl | (repeat (first | assumption | refine look_skip (by decide) ?_))) (by first | rfl | (repeat (first | assumption | refine look_skip (by decide) ?_))) (by first | rfl | (repeat (first | assumption | refine look_skip (by decide) ?_))) (by first | rfl | (repeat (first | assumption | refine look_skip (by decide) ?_))) (by first | rfl | (repeat (first | assumption | refine look_skip (by decide) ?_))) (by first | rfl | (repeat (first | assumption | refine look_skip (by decide) ?_))) (by rw [sgn_add, g1]) (by push_cast; omega)
              · have g1 := of_decide_eq_false g1
                repeat (walk_at "mine step")
                refine And.intro (fun g2 => ?_) (fun g2 => ?_)
                · have g3 : t2 = 1 := by have := bne_t g2; omega
                  have g4 : sg = 0 := by omega
                  subst g3; subst g4
                  have hD : sgn 0 (m) + sgn 1 (l * 2 ^ k) = ((m : Nat) : Int) - ((l * 2 ^ k : Nat) : Int) := by unfold sgn; simp only [if_true]; rw [if_neg (by decide)]; omega
                  repeat (walk_at "mine step")
                  refine s_shl (by omega) (by unfold bits at hbi hbj; omega) ?_
                  rw [show -(-(k : Int)) = (k : Int) by omega, shl_nat]
                  repeat (walk_at "mine step")
                  refine And.intro (fun g5 => ?_) (fun g5 => ?_)
                  · have g5 := of_decide_eq_true g5
                    repeat (walk_at "mine step")
                    exact AddMid.same (.inl rfl) (by first | rfl | (repeat (first | assumption | refine look_skip (by decide) ?_))) (by first | rfl | (repeat (first | assumption | refine look_skip (by decide) ?_))) (by first | rfl | (repeat (first | assumption | refine look_skip (by decide) ?_))) (by first | rfl | (repeat (first | assumption | refine look_skip (by decide) ?_))) (by first | rfl | (repeat (first | assumption | refine look_skip (by decide) ?_))) (by first | rfl | (repeat (first | assumption | refine look_skip (by decide) ?_))) (by rw [hD]; exact (sgn_split _ g5).symm) (by omega)
                  · have g5 := of_decide_eq_false g5
                    repeat (walk_at "mine step")
                    exact AddMid.same (.inr rfl) (by first | rfl | (repeat (first | assumption | refine look_skip (by decide) ?_))) (by first | rfl | (repeat (first | assumption | refine look_skip (by decide) ?_))) (by first | rfl | (repeat (first | assumption | refine look_skip (by decide) ?_))) (by first | rfl | (repeat (first | assumption | refine look_skip (by decide) ?_))) (by first | rfl | (repeat (first | assumption | refine look_skip (by decide) ?_))) (by first | rfl | (repeat (first | assumption | refine look_skip (by decide) ?_))) (by rw [hD]; exact (sgn_split' _ (Int.not_le.mp g5)).symm) (by omega)
                · have g3 : t2 = 0 := by exact bne_f g2
                  have g4 : sg = 1 := by omega
                  subst g3; subst g4
                  have hD : sgn 1 (m) + sgn 0 (l * 2 ^ k) = ((l * 2 ^ k : Nat) : Int) - ((m : Nat) : Int) := by unfold sgn; simp only [if_true]; rw [if_neg (by decide)]; omega
                  repeat (walk_at "mine step")
                  refine s_shl (by omega) (by unfold bits at hbi hbj; omega) ?_
                  rw [show -(-(k : Int)) = (k : Int) by omega, shl_nat]
                  repeat (walk_at "mine step")
                  refine And.intro (fun g5 => ?_) (fun g5 => ?_)
                  · have g5 := of_decide_eq_true g5
                    repeat (walk_at "mine step")
                    exact AddMid.same (.inl rfl) (by first | rfl | (repeat (first | assumption | refine look_skip (by decide) ?_))) (by first | rfl | (repeat (first | assumption | refine look_skip (by decide) ?_))) (by first | rfl | (repeat (first | assumption | refine look_skip (by decide) ?_))) (by first | rfl | (repeat (first | assumption | refine look_skip (by decide) ?_))) (by first | rfl | (repeat (first | assumption | refine look_skip (by decide) ?_))) (by first | rfl | (repeat (first | assumption | refine look_skip (by decide) ?_))) (by rw [hD]; exact (sgn_split _ g5).symm) (by omega)
                  · have g5 := of_decide_eq_false g5
                    repeat (walk_at "mine step")
                    exact AddMid.same (.inr rfl) (by first | rfl | (repeat (first | assumption | refine look_skip (by decide) ?_))) (by first | rfl | (repeat (first | assumption | refine look_skip (by decide) ?_))) (by first | rfl | (repeat (first | assumption | refine look_skip (by decide) ?_))) (by first | rfl | (repeat (first | assumption | refine look_skip (by decide) ?_))) (by first | rfl | (repeat (first | assumption | refine look_skip (by decide) ?_))) (by first | rfl | (repeat (first | assumption | refine look_skip (by decide) ?_))) (by rw [hD]; exact (sgn_split' _ (Int.not_le.mp g5)).symm) (by omega)
            have hbig : bits (man : Int) ≤ 100000 := by
              have e1 := bits_sgn s3 man
              have e2 : bits (sgn sg (m)) ≤ 40000 := by rw [bits_sgn]; omega
              have e3 : bits (sgn t2 (l * 2 ^ k)) ≤ 40000 := by rw [bits_sgn, bits_mul_pow (by omega)]; omega
              have e4 := bits_add_le e2 e3
              rw [← hV] at e4; omega
            repeat (walk_at "mine step")
            refine And.intro (fun g1 => ?_) (fun g1 => ?_)
            · repeat (walk_at "mine step")
              refine CallOK.mono (add_norm F n (j := i) hs3 (by rw [hV, Int.add_mul, ← sgn_mul_pow, ← sgn_mul_pow, Nat.mul_assoc, ← Nat.pow_add, Nat.add_comm k i]) rfl hp5 hbig rfl (.inr ⟨bne_t g1, rfl⟩) h) fun p hp => ?_
              repeat (walk_at "mine step")
              exact hp
            · repeat (walk_at "mine step")
              refine CallOK.mono (add_norm F n (j := i) hs3 (by rw [hV, Int.add_mul, ← sgn_mul_pow, ← sgn_mul_pow, Nat.mul_assoc, ← Nat.pow_add, Nat.add_comm k i]) rfl hp5 hbig rfl (.inl ⟨bne_f g1, rfl⟩) h) fun p hp => ?_
              repeat (walk_at "mine step")
              exact hp
        · have hoff := bne_f hoff
          have hij : j = i := by omega
          subst hij
          repeat (walk_at "mine expr")
          refine Ex.cut (AddMid (sgn sg (m) + sgn t2 (l)) (e + (j : Int)) (e + (j : Int)) prec rnd) ?_ fun ρ2 ⟨s3, man, hs3, hV, q1, q2, q3, q4, q5, q6⟩ => ?_
          · repeat (walk_at "mine expr")
            refine And.intro (fun g1 => ?_) (fun g1 => ?_)
            · have g1 := of_decide_eq_true g1
              repeat (walk_at "mine step")
              exact AddMid.same (man := m + l) hs (by first | rfl | (repeat (first | assumption | refine look_skip (by decide) ?_))) (by first | rfl | (repeat (first | assumption | refine look_skip (by decide) ?_))) (by first | rfl | (repeat (first | assumption | refine look_skip (by decide) ?_))) (by first | rfl | (repeat (first | assumption | refine look_skip (by decide) ?_))) (by first | rfl | (repeat (first | assumption | refine look_skip (by decide) ?_))) (by first | rfl | (repeat (first | assumption | refine look_skip (by decide) ?_))) (by rw [sgn_add, g1]) (by push_cast; omega)
            · have g1 := of_decide_eq_false g1
              repeat (walk_at "mine step")
              refine And.intro (fun g2 => ?_) (fun g2 => ?_)
              · have g3 : sg = 1 := by have := bne_t g2; omega
                have g4 : t2 = 0 := by omega
                subst g3; subst g4
                have hD : sgn 1 (m) + sgn 0 (l) = ((l : Nat) : Int) - ((m : Nat) : Int) := by unfold sgn; simp only [if_true]; rw [if_neg (by decide)]; omega
                repeat (walk_at "mine step")
                refine And.intro (fun g5 => ?_) (fun g5 => ?_)
                · have g5 := of_decide_eq_true g5
                  repeat (walk_at "mine step")
                  exact AddMid.same (.inl rfl) (by first | rfl | (repeat (first | assumption | refine look_skip (by decide) ?_))) (by first | rfl | (repeat (first | assumption | refine look_skip (by decide) ?_))) (by first | rfl | (repeat (first | assumption | refine look_skip (by decide) ?_))) (by first | rfl | (repeat (first | assumption | refine look_skip (by decide) ?_))) (by first | rfl | (repeat (first | assumption | refine look_skip (by decide) ?_))) (by first | rfl | (repeat (first | assumption | refine look_skip (by decide) ?_))) (by rw [hD]; exact (sgn_split _ g5).symm) (by omega)
                · have g5 := of_decide_eq_false g5
                  repeat (walk_at "mine step")
                  exact AddMid.same (.inr rfl) (by first | rfl | (repeat (first | assumption | refine look_skip (by decide) ?_))) (by first | rfl | (repeat (first | assumption | refine look_skip (by decide) ?_))) (by first | rfl | (repeat (first | assumption | refine look_skip (by decide) ?_))) (by first | rfl | (repeat (first | assumption | refine look_skip (by decide) ?_))) (by first | rfl | (repeat (first | assumption | refine look_skip (by decide) ?_))) (by first | rfl | (repeat (first | assumption | refine look_skip (by decide) ?_))) (by rw [hD]; exact (sgn_split' _ (Int.not_le.mp g5)).symm) (by omega)
              · have g3 : sg = 0 := by exact bne_f g2
                have g4 : t2 = 1 := by omega
                subst g3; subst g4
                have hD : sgn 0 (m) + sgn 1 (l) = ((m : Nat) : Int) - ((l : Nat) : Int) := by unfold sgn; simp only [if_true]; rw [if_neg (by decide)]; omega
                repeat (walk_at "mine step")
                refine And.intro (fun g5 => ?_) (fun g5 => ?_)
                · have g5 := of_decide_eq_true g5
                  repeat (walk_at "mine step")
                  exact AddMid.same (.inl rfl) (by first | rfl | (repeat (first | assumption | refine look_skip (by decide) ?_))) (by first | rfl | (repeat (first | assumption | refine look_skip (by decide) ?_))) (by first | rfl | (repeat (first | assumption | refine look_skip (by decide) ?_))) (by first | rfl | (repeat (first | assumption | refine look_skip (by decide) ?_))) (by first | rfl | (repeat (first | assumption | refine look_skip (by decide) ?_))) (by first | rfl | (repeat (first | assumption | refine look_skip (by decide) ?_))) (by rw [hD]; exact (sgn_split _ g5).symm) (by omega)
                · have g5 := of_decide_eq_false g5
                  repeat (walk_at "mine step")
                  exact AddMid.same (.inr rfl) (by first | rfl | (repeat (first | assumption | refine look_skip (by decide) ?_))) (by first | rfl | (repeat (first | assumption | refine look_skip (by decide) ?_))) (by first | rfl | (repeat (first | assumption | refine look_skip (by decide) ?_))) (by first | rfl | (repeat (first | assumption | refine look_skip (by decide) ?_))) (by first | rfl | (repeat (first | assumption | refine look_skip (by decide) ?_))) (by first | rfl | (repeat (first | assumption | refine look_skip (by decide) ?_))) (by rw [hD]; exact (sgn_split' _ (Int.not_le.mp g5)).symm) (by omega)
          have hbig : bits (man : Int) ≤ 100000 := by
            have e1 := bits_sgn s3 man
            have e2 : bits (sgn sg (m)) ≤ 40000 := by rw [bits_sgn]; omega
            have e3 : bits (sgn t2 (l)) ≤ 40000 := by rw [bits_sgn]; omega
            have e4 := bits_add_le e2 e3
            rw [← hV] at e4; omega
          repeat (walk_at "mine step")
          refine And.intro (fun g1 => ?_) (fun g1 => ?_)
          · repeat (walk_at "mine step")
            refine CallOK.mono (add_norm F n (j := j) hs3 (by rw [hV, Int.add_mul, ← sgn_mul_pow, ← sgn_mul_pow]) rfl hp5 hbig rfl (.inr ⟨bne_t g1, rfl⟩) h) fun p hp => ?_
            repeat (walk_at "mine step")
            exact hp
          · repeat (walk_at "mine step")
            refine CallOK.mono (add_norm F n (j := j) hs3 (by rw [hV, Int.add_mul, ← sgn_mul_pow, ← sgn_mul_pow]) rfl hp5 hbig rfl (.inl ⟨bne_f g1, rfl⟩) h) fun p hp => ?_
            repeat (walk_at "mine step")
            exact hp
  rcases hps with rfl | ⟨rfl, rfl, rfl, rfl⟩
  · refine callD (show DefAt C "mpf_add" _ _ _ _ from F.defs "mpf_add" _ rfl) ["s", "t", "prec", "rnd", "_sub"] (ρ₀ := [("_sub", .int sub), ("rnd", .str rnd), ("prec", .int prec), ("t", mk b e), ("s", mk a e)]) rfl rfl (by decide) rfl rfl rfl rfl rfl (by decide) rfl rfl rfl ?_
    exact body _ rfl
  · refine callD (show DefAt C "mpf_add" _ _ _ _ from F.defs "mpf_add" _ rfl) ["s", "t", "prec", "rnd", "_sub"] (ρ₀ := [("_sub", .int 0), ("rnd", .str sd), ("prec", .int 0), ("t", mk b e), ("s", mk a e)]) rfl rfl (by decide) rfl rfl rfl rfl rfl (by decide) rfl rfl rfl ?_
    exact body _ rfl
theorem Ev.cnone {C : Cx} {sc : Scope} {n : Nat} {ρ : Loc} {φ : PV → Prop} {k : Nat} {pos : Pos} (h : φ .none) : Ev C sc n ρ (.Constant .none k pos) φ :=
  fun env A s Q E hs hp hr ho hn q => Constant_none (q s.heap s.toks _ _ h (.refl _) .none)
local macro_rules | `(tactic| walk_at "mine auto") => `(tactic| first
  | walk_at "mine step"
  | ((with_reducible show Ev _ _ _ _ (Expr.Constant Const.none _ _) _); refine Ev.cnone ?_)
  | ((with_reducible show Truth _ PV.none _); refine truth_none ?_)
  | refine And.intro (fun g => absurd g (by decide)) (fun _ => ?_)
  | refine And.intro (fun _ => ?_) (fun g => absurd g (by decide)))
theorem ok_sub4 {C : Cx} (F : Facts C) (n : Nat) {a b e prec : Int} {rnd : Str} (ha : bits a ≤ 40000) (hb : bits b ≤ 40000)
    (hp : prec = 0 ∨ prec = 5 ∧ rnd = sf ∧ a ≠ 0 ∧ b ≠ 0 ∧ bits a = bits b) {φ : PV → Prop} (h : ∀ p, AddPost prec (a - b) e p → φ p) : CallOK C (n + 5) "mpf_sub" [mk a e, mk b e, .int prec, .str rnd] φ := by
  refine callD (show DefAt C "mpf_sub" _ _ _ _ from F.defs "mpf_sub" _ rfl) ["s", "t", "prec", "rnd"] (ρ₀ := [("rnd", .str rnd), ("prec", .int prec), ("t", mk b e), ("s", mk a e)]) rfl rfl (by decide) rfl rfl rfl rfl rfl (by decide) rfl rfl rfl ?_
  repeat (walk_at "mine step")
  refine CallOK.mono (ok_add F n ha hb (.inr rfl) hp (.inl rfl) (φ := φ) (by rw [if_neg (by decide)]; exact h)) fun p hp => ?_
  repeat (walk_at "mine step")
  exact hp
theorem ok_sub {C : Cx} (F : Facts C) (n : Nat) {a b e : Int} (ha : bits a ≤ 40000) (hb : bits b ≤ 40000) {φ : PV → Prop} (h : φ (mk (a - b) e)) : CallOK C (n + 5) "mpf_sub" [mk a e, mk b e] φ := by
  refine callD (show DefAt C "mpf_sub" _ _ _ _ from F.defs "mpf_sub" _ rfl) ["s", "t", "prec", "rnd"] (ρ₀ := [("rnd", .str sd), ("prec", .int 0), ("t", mk b e), ("s", mk a e)]) rfl rfl (by decide) rfl rfl rfl rfl rfl (by decide) rfl rfl rfl ?_
  repeat (walk_at "mine step")
  refine CallOK.mono (ok_add F n ha hb (.inr rfl) (.inl rfl) (.inl rfl) (φ := φ) (fun p hp => by
    rw [if_neg (by decide)] at hp; rw [hp.1 rfl]; exact h)) fun p hp => ?_
  repeat (walk_at "mine step")
  exact hp
theorem bits_sub_le {x y : Int} {k : Nat} (hx : bits x ≤ k) (hy : bits y ≤ k) : bits (x - y) ≤ k + 1 := by
  have := intBits_sub_le hx hy
  rw [Nat.max_self] at this; exact this
theorem pow_pos_int (k : Nat) : (0 : Int) < 2 ^ k := by
  have := Nat.two_pow_pos k
  have : (0 : Int) < ((2 ^ k : Nat) : Int) := by omega
  simpa using this
theorem fmod_bounds (a : Int) (k : Nat) : 0 ≤ a.fmod (2 ^ k) ∧ a.fmod (2 ^ k) < 2 ^ k := ⟨Int.fmod_nonneg_of_pos _ (pow_pos_int k), Int.fmod_lt_of_pos _ (pow_pos_int k)⟩
theorem fdiv_mul_eq (a d : Int) : a.fdiv d * d = a - a.fmod d := by
  have := Int.mul_fdiv_add_fmod a d
  rw [Int.mul_comm] at this; omega
theorem bits_fmod (a : Int) (k : Nat) : bits (a.fmod (2 ^ k)) ≤ k := by
  have h := fmod_bounds a k
  refine bits_le.mpr ?_
  have : ((a.fmod (2 ^ k)).natAbs : Int) < ((2 ^ k : Nat) : Int) := by push_cast; omega
  omega
theorem ok_frac {C : Cx} (F : Facts C) (n : Nat) {a : Int} {K : Nat} (ha : bits a ≤ 30000) (hK : K ≤ 30000) {φ : PV → Prop} (h : φ (mk (a.fmod (2 ^ K)) (-K))) : CallOK C (n + 7) "mpf_frac" [mk a (-K)] φ := by
  refine callD (show DefAt C "mpf_frac" _ _ _ _ from F.defs "mpf_frac" _ rfl) ["s", "prec", "rnd"] (ρ₀ := [("rnd", .str sd), ("prec", .int 0), ("s", mk a (-K))]) rfl rfl (by decide) rfl rfl rfl rfl rfl (by decide) rfl rfl rfl ?_
  repeat (walk_at "mine step")
  refine ok_floor F n (by omega) ?_
  have e : mk (a.fdiv (2 ^ K)) 0 = mk (a - a.fmod (2 ^ K)) (-K) := by
    rw [← fdiv_mul_eq, mk_shift' _ _ 0 K (by omega)]
  rw [e]
  repeat (walk_at "mine step")
  refine CallOK.mono (ok_sub4 F (n + 1) (by omega) (by have := bits_sub_le ha (Nat.le_trans (bits_fmod a K) hK); omega) (.inl rfl) (φ := φ) (fun p hp => by
    rw [hp.1 rfl, show a - (a - a.fmod (2 ^ K)) = a.fmod (2 ^ K) by omega]; exact h)) fun p hp => ?_
  repeat (walk_at "mine step")
  exact hp
theorem xor_sign {s t : Int} (hs : s = 0 ∨ s = 1) (ht : t = 0 ∨ t = 1) : Builtin.bitXor s t = (if s = t then 0 else 1) := by
  rcases hs with rfl | rfl <;> rcases ht with rfl | rfl <;> decide
theorem sgn_mul_sgn {s t : Int} (hs : s = 0 ∨ s = 1) (ht : t = 0 ∨ t = 1) (m l : Nat) : sgn s m * sgn t l = sgn (if s = t then 0 else 1) (m * l) := by
  unfold sgn
  rcases hs with rfl | rfl <;> rcases ht with rfl | rfl
  · rw [if_pos rfl, if_pos rfl, if_pos rfl, if_pos rfl]; push_cast; rfl
  · rw [if_pos rfl, if_neg (by decide), if_neg (by decide)]; push_cast; rw [Int.mul_neg]
  · rw [if_neg (by decide), if_pos rfl, if_neg (by decide)]; push_cast; rw [Int.neg_mul]
  · rw [if_neg (by decide), if_pos rfl, if_pos rfl]; push_cast; rw [Int.neg_mul_neg]
theorem ite01 (p : Prop) [Decidable p] : (if p then (0 : Int) else 1) = 0 ∨ (if p then (0 : Int) else 1) = 1 := by by_cases h : p <;> simp [h]
theorem ok_mul {C : Cx} (F : Facts C) (n : Nat) {a b e f : Int} (ha : bits a ≤ 40000) (hb : bits b ≤ 40000) {φ : PV → Prop} (h : φ (mk (a * b) (e + f))) : CallOK C (n + 1) "mpf_mul" [mk a e, mk b f] φ := by
  refine callD (show DefAt C "mpf_mul" _ _ _ _ from F.defs "mpf_mul" _ rfl) ["s", "t", "prec", "rnd"] (ρ₀ := [("rnd", .str sd), ("prec", .int 0), ("t", mk b f), ("s", mk a e)]) rfl rfl (by decide) rfl rfl rfl rfl rfl (by decide) rfl rfl rfl ?_
  by_cases ha0 : a = 0
  · subst ha0
    rw [Int.zero_mul, mk_zero] at h
    by_cases hb0 : b = 0
    · subst hb0
      rw [mk_zero, mk_zero]
      repeat (walk_at "mine step")
      refine s_mul ?_ (by decide)
      repeat (walk_at "mine step")
      refine And.intro (fun g1 => absurd g1 (by decide)) (fun _ => ?_)
      repeat (walk_at "mine step")
      refine And.intro (fun g1 => absurd g1 (by decide)) (fun _ => ?_)
      repeat (walk_at "mine step")
      refine And.intro (fun g1 => absurd g1 (by decide)) (fun _ => ?_)
      repeat (walk_at "mine step")
      refine And.intro (fun _ => ?_) (fun g1 => absurd g1 (by decide))
      repeat (walk_at "mine step")
      refine And.intro (fun _ => ?_) (fun g1 => absurd g1 (by decide))
      repeat (walk_at "mine step")
      exact h
    · obtain ⟨tg, l, j, ht, hl, rfl⟩ := raw b hb0
      rw [mk_zero, mk_sgn ht hl]
      repeat (walk_at "mine step")
      refine s_mul ?_ (by unfold bits at hb; have := bits_sgn tg (l * 2 ^ j); have := bits_mul_pow (n := l) (by omega) j; have e0 : Builtin.Int.intBits 0 = 0 := bits_zero; unfold bits at *; omega)
      rw [Int.zero_mul]
      repeat (walk_at "mine step")
      refine And.intro (fun g1 => absurd g1 (by decide)) (fun _ => ?_)
      repeat (walk_at "mine step")
      refine And.intro (fun g1 => absurd g1 (by decide)) (fun _ => ?_)
      repeat (walk_at "mine step")
      rw [odd_int hl]
      repeat (walk_at "mine auto")
      exact h
  · obtain ⟨sg, m, i, hs, hm, rfl⟩ := raw a ha0
    have hbi : bits (m : Int) + i ≤ 40000 := by rw [bits_sgn, bits_mul_pow (by omega)] at ha; exact ha
    by_cases hb0 : b = 0
    · subst hb0
      rw [Int.mul_zero, mk_zero] at h
      rw [mk_zero, mk_sgn hs hm]
      repeat (walk_at "mine step")
      refine s_mul ?_ (by have e0 : Builtin.Int.intBits 0 = 0 := bits_zero; unfold bits at *; omega)
      rw [Int.mul_zero]
      repeat (walk_at "mine step")
      refine And.intro (fun g1 => absurd g1 (by decide)) (fun _ => ?_)
      repeat (walk_at "mine step")
      rw [odd_int hm]
      repeat (walk_at "mine auto")
      exact h
    · obtain ⟨tg, l, j, ht, hl, rfl⟩ := raw b hb0
      have hbj : bits (l : Int) + j ≤ 40000 := by rw [bits_sgn, bits_mul_pow (by omega)] at hb; exact hb
      have hml : (m * l) % 2 = 1 := by rw [Nat.mul_mod, hm, hl]
      rw [sgn_mul_sgn hs ht, show m * 2 ^ i * (l * 2 ^ j) = m * l * 2 ^ (i + j) by rw [Nat.pow_add, Nat.mul_mul_mul_comm], mk_sgn (ite01 _) hml] at h
      rw [mk_sgn hs hm, mk_sgn ht hl]
      repeat (walk_at "mine step")
      rw [xor_sign hs ht]
      repeat (walk_at "mine step")
      refine s_mul ?_ (by unfold bits at *; omega)
      rw [show (m : Int) * (l : Int) = ((m * l : Nat) : Int) by push_cast; rfl]
      repeat (walk_at "mine step")
      rw [odd_int hml]
      repeat (walk_at "mine step")
      refine And.intro (fun g1 => absurd g1 (by decide)) (fun _ => ?_)
      repeat (walk_at "mine step")
      rw [show e + (i : Int) + (f + (j : Int)) = e + f + ((i + j : Nat) : Int) by omega]
      exact h
theorem bits_mul (m N : Nat) (hm : m ≠ 0) (hN : N ≠ 0) : bits ((m * N : Nat) : Int) = bits (m : Int) + bits (N : Int) - 1 + m * N / 2 ^ (bits (m : Int) + bits (N : Int) - 1) := by
  obtain ⟨x, hx⟩ : ∃ x, bits (m : Int) = x + 1 := ⟨m.log2, bits_nat hm⟩
  obtain ⟨y, hy⟩ : ∃ y, bits (N : Int) = y + 1 := ⟨N.log2, bits_nat hN⟩
  have m1 : 2 ^ x ≤ m := bits_lt.mp (by omega)
  have m2 : m < 2 ^ (x + 1) := by have := @bits_le (m : Int) (x + 1); rw [Int.natAbs_natCast] at this; exact this.mp (by omega)
  have n1 : 2 ^ y ≤ N := bits_lt.mp (by omega)
  have n2 : N < 2 ^ (y + 1) := by have := @bits_le (N : Int) (y + 1); rw [Int.natAbs_natCast] at this; exact this.mp (by omega)
  rw [hx, hy, show x + 1 + (y + 1) - 1 = x + y + 1 by omega]
  have lo : 2 ^ (x + y) ≤ m * N := by rw [Nat.pow_add]; exact Nat.mul_le_mul m1 n1
  have hi : m * N < 2 ^ (x + y + 1 + 1) := by
    have := Nat.mul_lt_mul'' m2 n2
    rw [← Nat.pow_add, show x + 1 + (y + 1) = x + y + 1 + 1 by omega] at this; exact this
  by_cases c : m * N < 2 ^ (x + y + 1)
  · rw [bits_eq lo c, Nat.div_eq_of_lt c]
  · rw [bits_eq (Nat.le_of_not_lt c) hi]
    have : m * N / 2 ^ (x + y + 1) = 1 := by
      rw [Nat.div_eq_iff (Nat.two_pow_pos _)]
      rw [Nat.pow_succ] at hi
      omega
    omega
theorem ok_mul_int {C : Cx} (F : Facts C) (n : Nat) {a N e : Int} (ha : a ≠ 0) (hb : bits a + bits N ≤ 1900) {φ : PV → Prop} (h : φ (mk (a * N) e)) : CallOK C (n + 4) "mpf_mul_int" [mk a e, .int N, .int 2000] φ := by
  refine callD (show DefAt C "mpf_mul_int" _ _ _ _ from F.defs "mpf_mul_int" _ rfl) ["s", "n", "prec", "rnd"] (ρ₀ := [("rnd", .str sd), ("prec", .int 2000), ("n", .int N), ("s", mk a e)]) rfl rfl (by decide) rfl rfl rfl rfl rfl (by decide) rfl rfl rfl ?_
  obtain ⟨sg, m, i, hs, hm, rfl⟩ := raw a ha
  have hbi : bits (m : Int) + i + bits N ≤ 1900 := by rw [bits_sgn, bits_mul_pow (by omega)] at hb; exact hb
  rw [mk_sgn hs hm]
  repeat (walk_at "mine step")
  rw [odd_int hm]
  repeat (walk_at "mine step")
  by_cases hN : N = 0
  · subst hN
    rw [Int.mul_zero, mk_zero] at h
    refine And.intro (fun _ => ?_) (fun g1 => absurd g1 (by decide))
    repeat (walk_at "mine step")
    exact h
  · refine And.intro (fun g1 => by have := bne_f (x := N) (by simpa using g1); omega) (fun _ => ?_)
    have hNn : N.natAbs ≠ 0 := by omega
    -- behind the sign
    have rest : ∀ (s2 : Int), (s2 = 0 ∨ s2 = 1) → sgn s2 (m * N.natAbs) = sgn sg m * N → ∀ ρ, look ρ "sign" = some (.int s2) → look ρ "man" = some (.int m) → look ρ "exp" = some (.int (e + i)) → look ρ "bc" = some (.int (bits (m : Int))) → look ρ "n" = some (.int (N.natAbs : Nat)) → look ρ "prec" = some (.int 2000) → look ρ "rnd" = some (.str sd) → (match stOf "mpf_mul_int" with
        | .FunctionDef _ params body _ _ _ scope _ _ _ => Ex C scope (n + 3) ρ (body.drop 4) (toRet φ)
        | _ => True) := by
      intro s2 hs2 hsv ρ l1 l2 l3 l4 l5 l6 l7
      show Ex C _ (n + 3) ρ (List.drop 4 _) (toRet φ)
      refine Ex.cons (st := ?_) (ss := ?_) ?_
      have hbN := bits_natAbs N
      repeat (walk_at "mine step")
      refine i_mul ?_ (by unfold bits at *; omega)
      rw [show (m : Int) * ((N.natAbs : Nat) : Int) = ((m * N.natAbs : Nat) : Int) by push_cast; rfl]
      have hbm0 : 0 < bits (m : Int) := by have := @bits_lt m 0; omega
      have hbN0 : 0 < bits ((N.natAbs : Nat) : Int) := by have := @bits_lt N.natAbs 0; omega
      repeat (walk_at "mine step")
      have e1 : ((Builtin.Int.intBits (m : Int) : Nat) : Int) + (((Builtin.Int.intBits ((N.natAbs : Nat) : Int) : Nat) : Int) - 1) = ((bits (m : Int) + bits ((N.natAbs : Nat) : Int) - 1 : Nat) : Int) := by unfold bits at *; omega
      have e2 := bits_mul m N.natAbs (by omega) hNn
      unfold bits at *
      rw [e1]
      repeat (walk_at "mine step")
      rw [Int.toNat_natCast, fdiv_nat]
      repeat (walk_at "mine step")
      refine CallOK.mono (ok_norm0 F n (by unfold bits; rw [e2]; omega) hs2 (.inr ?_) (φ := φ) ?_) fun p hp => ?_
      · have := intBits_mul_le (x := (m : Int)) (y := ((N.natAbs : Nat) : Int)) (Nat.le_refl _) (Nat.le_refl _)
        unfold bits
        push_cast at this ⊢
        omega
      · rw [hsv]
        rw [sgn_mul_pow, Int.mul_assoc, Int.mul_comm (2 ^ i) N, ← Int.mul_assoc, mk_shift] at h
        exact h
      · repeat (walk_at "mine step")
        exact hp
    repeat (walk_at "mine step")
    refine And.intro (fun g1 => ?_) (fun g1 => ?_)
    · have g1 := of_decide_eq_true g1
      have en : -N = ((N.natAbs : Nat) : Int) := by omega
      refine Ex.cons ?_
      repeat (walk_at "mine expr")
      rw [xor_sign hs (.inr rfl)]
      repeat (walk_at "mine expr")
      refine Ex.cons ?_
      repeat (walk_at "mine expr")
      rw [en]
      refine rest (if sg = 1 then 0 else 1) (ite01 _) ?_ _ rfl rfl rfl rfl rfl rfl rfl
      have e1 : N = sgn 1 N.natAbs := by unfold sgn; rw [if_neg (by decide)]; omega
      conv => rhs; rw [e1]
      rw [sgn_mul_sgn hs (.inr rfl)]
    · have g1 := of_decide_eq_false g1
      have en : N = ((N.natAbs : Nat) : Int) := by omega
      repeat (walk_at "mine expr")
      refine rest sg hs ?_ _ rfl rfl rfl rfl (by rw [← en]; rfl) rfl rfl
      conv => rhs; rw [en]
      rw [sgn_mul]
theorem fmod_natAbs_lt (x y : Int) (h : y ≠ 0) : (x.fmod y).natAbs < y.natAbs := by
  obtain ⟨-, -, up, down⟩ := fdiv_fmod_facts x y
  rcases Int.lt_or_gt_of_ne h with h | h
  · have := down h; omega
  · have := up h; omega
theorem fmod_scale (x y : Int) (c : Nat) : (x * 2 ^ c).fmod (y * 2 ^ c) = x.fmod y * 2 ^ c := by
  rw [Int.mul_comm x, Int.mul_comm y, Int.mul_fmod_mul_of_pos _ _ (pow_pos_int c), Int.mul_comm]
theorem fmod_same_sign {a b : Int} (h : a.natAbs < b.natAbs) (hs : 0 < a ∧ 0 < b ∨ a < 0 ∧ b < 0) : a.fmod b = a := by
  rcases hs with hs | hs
  · exact Int.fmod_eq_of_lt (by omega) (by omega)
  · have := Int.neg_fmod_neg (-a) (-b)
    rw [Int.neg_neg, Int.neg_neg] at this
    rw [this, Int.fmod_eq_of_lt (by omega) (by omega), Int.neg_neg]
theorem bits_pm (p : Prop) [Decidable p] : Builtin.Int.intBits (if p then (1 : Int) else -1) ≤ 1 := by
  split <;> decide
theorem bits_mono {x y : Int} (h : x.natAbs ≤ y.natAbs) : bits x ≤ bits y := bits_le.mpr (Nat.lt_of_le_of_lt h (bits_le.mp (Nat.le_refl _)))
theorem Ts.of_mono {C : Cx} {sc : Scope} {n : Nat} {ρ : Loc} {e : Expr} {ψ χ : Bool → Prop} (h : Ts C sc n ρ e ψ) (hi : ∀ b, ψ b → χ b) : Ts C sc n ρ e χ :=
  fun env A s Q E a b c d f k => h env A s Q E a b c d f fun h' tk' b hb => k h' tk' b (hi b hb)
theorem ok_mod {C : Cx} (F : Facts C) (n : Nat) {a b e : Int} (hb0 : b ≠ 0) (ha : bits a ≤ 30000) (hb : bits b ≤ 1900) (he : -10000 ≤ e ∧ e ≤ 10000) {φ : PV → Prop} (h : φ (mk (a.fmod b) e)) : CallOK C (n + 4) "mpf_mod" [mk a e, mk b e, .int 2000] φ := by
  refine callD (show DefAt C "mpf_mod" _ _ _ _ from F.defs "mpf_mod" _ rfl) ["s", "t", "prec", "rnd"] (ρ₀ := [("rnd", .str sd), ("prec", .int 2000), ("t", mk b e), ("s", mk a e)]) rfl rfl (by decide) rfl rfl rfl rfl rfl (by decide) rfl rfl rfl ?_
  have tail : ∀ (M B : Int), bits M ≤ 1900 → mk M B = mk (a.fmod b) e → ∀ ρ, look ρ "man" = some (.int M) → look ρ "base" = some (.int B) → look ρ "prec" = some (.int 2000) → look ρ "rnd" = some (.str sd) → (match stOf "mpf_mod" with
      | .FunctionDef _ params body _ _ _ scope _ _ _ => Ex C scope (n + 3) ρ (body.drop 9) (toRet φ)
      | _ => True) := by
    intro M B hM hMB ρ l1 l2 l3 l4
    show Ex C _ (n + 3) ρ (List.drop 9 _) (toRet φ)
    refine Ex.cons (st := ?_) (ss := ?_) ?_
    repeat (walk_at "mine step")
    refine And.intro (fun g => ?_) (fun g => ?_)
    · obtain ⟨m, rfl⟩ := Int.eq_ofNat_of_zero_le (of_decide_eq_true g)
      repeat (walk_at "mine step")
      refine CallOK.mono (ok_norm0 F n (sg := 0) (m := m) rfl (.inl rfl) (.inr (by omega)) (φ := φ) (by rw [show sgn 0 m = (m : Int) from rfl, hMB]; exact h)) fun p hp => ?_
      repeat (walk_at "mine step")
      exact hp
    · have g := of_decide_eq_false g
      obtain ⟨m, hm⟩ := Int.eq_ofNat_of_zero_le (a := -M) (by omega)
      repeat (walk_at "mine step")
      have hbm : bits (m : Int) ≤ 1900 := by rw [← hm, bits_neg]; exact hM
      rw [hm]
      repeat (walk_at "mine step")
      refine CallOK.mono (ok_norm0 F n (sg := 1) (m := m) rfl (.inr rfl) (.inr (by omega)) (φ := φ) (by rw [show sgn 1 m = M by unfold sgn; rw [if_neg (by decide)]; omega, hMB]; exact h)) fun p hp => ?_
      repeat (walk_at "mine step")
      exact hp
  obtain ⟨tg, l, j, ht, hl, rfl⟩ := raw b hb0
  have hbj : bits (l : Int) + j ≤ 1900 := by rw [bits_sgn, bits_mul_pow (by omega)] at hb; exact hb
  have hpl : 0 < l * 2 ^ j := Nat.mul_pos (by omega) (Nat.two_pow_pos j)
  have hl0 : sgn tg l ≠ 0 := by unfold sgn; split <;> omega
  by_cases ha0 : a = 0
  · subst ha0
    have hz : (0 : Int).fmod (sgn tg (l * 2 ^ j)) = 0 := Int.zero_fmod _
    rw [hz] at h tail
    rw [mk_zero] at h
    rw [mk_zero, mk_sgn ht hl]
    have rest2 : ∀ ρ, look ρ "ssign" = some (.int 0) → look ρ "sman" = some (.int 0) → look ρ "sexp" = some (.int 0) → look ρ "tsign" = some (.int tg) → look ρ "tman" = some (.int l) → look ρ "texp" = some (.int (e + j)) → look ρ "prec" = some (.int 2000) → look ρ "rnd" = some (.str sd) → (match stOf "mpf_mod" with
        | .FunctionDef _ params body _ _ _ scope _ _ _ => Ex C scope (n + 3) ρ (body.drop 5) (toRet φ)
        | _ => True) := by
      intro ρ l1 l2 l3 l4 l5 l6 l7 l8
      show Ex C _ (n + 3) ρ (List.drop 5 _) (toRet φ)
      refine Ex.cons (st := ?_) (ss := ?_) ?_
      repeat (walk_at "mine step")
      refine b_min2 ?_
      generalize hB : (if e + (j : Int) < 0 then e + (j : Int) else 0) = B
      have hB1 : B ≤ 0 ∧ B ≤ e + j ∧ -12000 ≤ B := by rw [← hB]; split <;> omega
      repeat (walk_at "mine step")
      refine s_pow_neg1 (.inl rfl) ?_
      repeat (walk_at "mine step")
      refine s_mul ?_ (by have := bits_pm ((0 : Int) = 0); have e0 : Builtin.Int.intBits 0 = 0 := bits_zero; omega)
      repeat (walk_at "mine step")
      refine s_pow_neg1 ht ?_
      repeat (walk_at "mine step")
      refine s_mul ?_ (by have := bits_pm (tg = 0); unfold bits at *; omega)
      rw [← sgn_eq ht, Int.mul_zero]
      repeat (walk_at "mine step")
      refine s_shl (by omega) (by have e0 : Builtin.Int.intBits 0 = 0 := bits_zero; omega) ?_
      rw [Int.zero_mul]
      repeat (walk_at "mine step")
      refine s_shl (by omega) (by have := bits_sgn tg l; unfold bits at *; omega) ?_
      repeat (walk_at "mine step")
      refine s_mod (Int.mul_ne_zero hl0 (by have := pow_pos_int (e + (j : Int) - B).toNat; omega)) ?_
      rw [Int.zero_fmod]
      repeat (walk_at "mine expr")
      exact tail 0 B (by rw [bits_zero]; omega) (by rw [mk_zero, mk_zero]) _ rfl rfl (by repeat (first | assumption | refine look_skip (by decide) ?_)) (by repeat (first | assumption | refine look_skip (by decide) ?_))
    have rest : ∀ ρ, look ρ "ssign" = some (.int 0) → look ρ "sman" = some (.int 0) → look ρ "sexp" = some (.int 0) → look ρ "tsign" = some (.int tg) → look ρ "tman" = some (.int l) → look ρ "texp" = some (.int (e + j)) → look ρ "tbc" = some (.int (bits (l : Int))) → look ρ "prec" = some (.int 2000) → look ρ "rnd" = some (.str sd) → (match stOf "mpf_mod" with
        | .FunctionDef _ params body _ _ _ scope _ _ _ => Ex C scope (n + 3) ρ (body.drop 4) (toRet φ)
        | _ => True) := by
      intro ρ l1 l2 l3 l4 l5 l6 l9 l7 l8
      show Ex C _ (n + 3) ρ (List.drop 4 _) (toRet φ)
      refine Ex.cons (st := ?_) (ss := ?_) ?_
      repeat (walk_at "mine step")
      refine And.intro (fun g => ?_) (fun g => ?_)
      · repeat (walk_at "mine step")
        refine And.intro (fun g => ?_) (fun g => ?_)
        · repeat (walk_at "mine auto")
          exact h
        · repeat (walk_at "mine expr")
          exact rest2 _ l1 l2 l3 l4 l5 l6 l7 l8
      · repeat (walk_at "mine expr")
        exact rest2 _ l1 l2 l3 l4 l5 l6 l7 l8
    repeat (walk_at "mine auto")
    rw [odd_int hl]
    repeat (walk_at "mine auto")
    refine And.intro (fun g => ?_) (fun g => ?_)
    · repeat (walk_at "mine step")
      refine And.intro (fun g => ?_) (fun g => ?_)
      · skip
        repeat (walk_at "mine auto")
        exact h
      · skip
        repeat (walk_at "mine expr")
        exact rest _ rfl rfl rfl rfl rfl rfl rfl rfl rfl
    · repeat (walk_at "mine expr")
      exact rest _ rfl rfl rfl rfl rfl rfl rfl rfl rfl
  · obtain ⟨sg, m, i, hs, hm, rfl⟩ := raw a ha0
    have hbi : bits (m : Int) + i ≤ 30000 := by rw [bits_sgn, bits_mul_pow (by omega)] at ha; exact ha
    have hpm : 0 < m * 2 ^ i := Nat.mul_pos (by omega) (Nat.two_pow_pos i)
    rw [mk_sgn hs hm, mk_sgn ht hl]
    have rest2 : ∀ ρ, look ρ "ssign" = some (.int sg) → look ρ "sman" = some (.int m) → look ρ "sexp" = some (.int (e + i)) → look ρ "tsign" = some (.int tg) → look ρ "tman" = some (.int l) → look ρ "texp" = some (.int (e + j)) → look ρ "prec" = some (.int 2000) → look ρ "rnd" = some (.str sd) → (match stOf "mpf_mod" with
        | .FunctionDef _ params body _ _ _ scope _ _ _ => Ex C scope (n + 3) ρ (body.drop 5) (toRet φ)
        | _ => True) := by
      intro ρ l1 l2 l3 l4 l5 l6 l7 l8
      show Ex C _ (n + 3) ρ (List.drop 5 _) (toRet φ)
      refine Ex.cons (st := ?_) (ss := ?_) ?_
      repeat (walk_at "mine step")
      refine b_min2 ?_
      obtain ⟨c, hc, hc1, hc2⟩ : ∃ c : Nat, (if e + (j : Int) < e + (i : Int) then e + (j : Int) else e + (i : Int)) = e + (c : Int) ∧ c ≤ i ∧ c ≤ j := ⟨min i j, by split <;> omega, by omega, by omega⟩
      rw [hc]
      repeat (walk_at "mine step")
      refine s_pow_neg1 hs ?_
      repeat (walk_at "mine step")
      refine s_mul ?_ (by have := bits_pm (sg = 0); unfold bits at *; omega)
      rw [← sgn_eq hs]
      repeat (walk_at "mine step")
      refine s_pow_neg1 ht ?_
      repeat (walk_at "mine step")
      refine s_mul ?_ (by have := bits_pm (tg = 0); unfold bits at *; omega)
      rw [← sgn_eq ht]
      repeat (walk_at "mine step")
      refine s_shl (by omega) (by have := bits_sgn sg m; unfold bits at *; omega) ?_
      rw [show (e + (i : Int) - (e + (c : Int))).toNat = i - c by omega]
      repeat (walk_at "mine step")
      refine s_shl (by omega) (by have := bits_sgn tg l; unfold bits at *; omega) ?_
      rw [show (e + (j : Int) - (e + (c : Int))).toNat = j - c by omega]
      repeat (walk_at "mine step")
      have hy0 : sgn tg l * 2 ^ (j - c) ≠ 0 := Int.mul_ne_zero hl0 (by have := pow_pos_int (j - c); omega)
      refine s_mod hy0 ?_
      repeat (walk_at "mine expr")
      refine tail _ (e + c) ?_ ?_ _ rfl (by repeat (first | assumption | rfl | refine look_skip (by decide) ?_)) (by repeat (first | assumption | refine look_skip (by decide) ?_)) (by repeat (first | assumption | refine look_skip (by decide) ?_))
      · refine Nat.le_trans (bits_mono (Nat.le_of_lt (fmod_natAbs_lt _ _ hy0))) ?_
        rw [← sgn_mul_pow, bits_sgn, bits_mul_pow (by omega)]; omega
      · rw [← mk_shift, ← fmod_scale, Int.mul_assoc, Int.mul_assoc, ← Int.pow_add, ← Int.pow_add, ← sgn_mul_pow, ← sgn_mul_pow, show i - c + c = i by omega, show j - c + c = j by omega]
    have rest : ∀ ρ, look ρ "ssign" = some (.int sg) → look ρ "sman" = some (.int m) → look ρ "sexp" = some (.int (e + i)) → look ρ "tsign" = some (.int tg) → look ρ "tman" = some (.int l) → look ρ "texp" = some (.int (e + j)) → look ρ "tbc" = some (.int (bits (l : Int))) → look ρ "prec" = some (.int 2000) → look ρ "rnd" = some (.str sd) → (match stOf "mpf_mod" with
        | .FunctionDef _ params body _ _ _ scope _ _ _ => Ex C scope (n + 3) ρ (body.drop 4) (toRet φ)
        | _ => True) := by
      intro ρ l1 l2 l3 l4 l5 l6 l9 l7 l8
      show Ex C _ (n + 3) ρ (List.drop 4 _) (toRet φ)
      refine Ex.cons (st := ?_) (ss := ?_) ?_
      repeat (walk_at "mine step")
      refine And.intro (fun g => ?_) (fun g => ?_)
      · have g1 : l = 1 := by have := of_decide_eq_true g; omega
        repeat (walk_at "mine step")
        refine And.intro (fun g => ?_) (fun g => ?_)
        · have g2 := of_decide_eq_true g
          subst g1
          rw [show bits ((1 : Nat) : Int) = 1 by decide] at g2
          have hz : (sgn sg (m * 2 ^ i)).fmod (sgn tg (1 * 2 ^ j)) = 0 := by
            obtain ⟨k, rfl⟩ : ∃ k, i = k + j := ⟨i - j, by omega⟩
            rw [Nat.pow_add, ← Nat.mul_assoc, sgn_mul_pow, sgn_mul_pow tg, fmod_scale]
            have : sgn tg 1 = 1 ∨ sgn tg 1 = -1 := by rcases ht with rfl | rfl; exact .inl rfl; exact .inr rfl
            rcases this with e1 | e1 <;> rw [e1]
            · rw [Int.fmod_one, Int.zero_mul]
            · have := Int.neg_fmod_neg (-(sgn sg (m * 2 ^ k))) 1
              rw [Int.neg_neg, Int.fmod_one] at this
              rw [this]; simp
          rw [hz, mk_zero] at h
          repeat (walk_at "mine auto")
          exact h
        · repeat (walk_at "mine expr")
          exact rest2 _ l1 l2 l3 l4 l5 l6 l7 l8
      · repeat (walk_at "mine expr")
        exact rest2 _ l1 l2 l3 l4 l5 l6 l7 l8
    repeat (walk_at "mine auto")
    rw [odd_int hm]
    repeat (walk_at "mine auto")
    rw [odd_int hl]
    repeat (walk_at "mine auto")
    refine And.intro (fun g => ?_) (fun g => ?_)
    · have g1 : sg = tg := of_decide_eq_true g
      repeat (walk_at "mine step")
      refine And.intro (fun g => ?_) (fun g => ?_)
      · have g2 := of_decide_eq_true g
        have hz : (sgn sg (m * 2 ^ i)).fmod (sgn tg (l * 2 ^ j)) = sgn sg (m * 2 ^ i) := by
          refine fmod_same_sign ?_ ?_
          · rw [sgn_natAbs, sgn_natAbs]
            have m2 : m < 2 ^ bits (m : Int) := by have := @bits_le (m : Int) (bits (m : Int)); rw [Int.natAbs_natCast] at this; exact this.mp (Nat.le_refl _)
            calc m * 2 ^ i < 2 ^ bits (m : Int) * 2 ^ i := Nat.mul_lt_mul_of_pos_right m2 (Nat.two_pow_pos i)
              _ = 2 ^ (bits (m : Int) + i) := (Nat.pow_add _ _ _).symm
              _ ≤ 2 ^ j := Nat.pow_le_pow_right (by decide) (by omega)
              _ ≤ l * 2 ^ j := Nat.le_mul_of_pos_left _ (by omega)
          · subst g1
            unfold sgn
            rcases hs with rfl | rfl
            · left; rw [if_pos rfl, if_pos rfl]; omega
            · right; rw [if_neg (by decide), if_neg (by decide)]; omega
        rw [hz, mk_sgn hs hm] at h
        repeat (walk_at "mine auto")
        exact h
      · skip
        repeat (walk_at "mine expr")
        exact rest _ rfl rfl rfl rfl rfl rfl rfl rfl rfl
    · repeat (walk_at "mine expr")
      exact rest _ rfl rfl rfl rfl rfl rfl rfl rfl rfl
theorem sg1 {sg : Int} (hs : sg = 0 ∨ sg = 1) (g : (sg != 0) = true) : sg = 1 := by have := bne_t g; omega
theorem mk_item0 (x y : Int) : ∃ l : List PV, mk x y = .tup l ∧ l[0]? = some (.int (if x < 0 then 1 else 0)) := by
  by_cases hx : x = 0
  · subst hx; rw [mk_zero]; exact ⟨_, rfl, rfl⟩
  · unfold mk
    rw [if_neg hx]
    exact ⟨_, rfl, rfl⟩
theorem bits_cmp {M L : Nat} (h : bits (M : Int) < bits (L : Int)) : M < L := by
  rcases Nat.lt_or_ge M L with g | g
  · exact g
  · have := bits_mono (x := (L : Int)) (y := (M : Int)) (by simpa using g)
    omega
theorem ok_cmp {C : Cx} (F : Facts C) (n : Nat) {a b e : Int} (ha : bits a ≤ 40000) (hb : bits b ≤ 40000) {φ : PV → Prop} (h1 : a < b → φ (.int (-1))) (h0 : a = b → φ (.int 0)) (h2 : b < a → φ (.int 1)) : CallOK C (n + 6) "mpf_cmp" [mk a e, mk b e] φ := by
  refine callD (show DefAt C "mpf_cmp" _ _ _ _ from F.defs "mpf_cmp" _ rfl) ["s", "t"] (ρ₀ := [("t", mk b e), ("s", mk a e)]) rfl rfl (by decide) rfl rfl rfl rfl rfl (by decide) rfl rfl rfl ?_
  by_cases ha0 : a = 0
  · subst ha0
    have hφ : φ (.int (-b.sign)) := by
      rcases Int.lt_trichotomy b 0 with g | g | g
      · rw [Int.sign_eq_neg_one_of_neg g]; exact h2 g
      · subst g; exact h0 rfl
      · rw [Int.sign_eq_one_of_pos g]; exact h1 g
    have hsg := ok_sign F (n + 4) (a := b) (e := e) (φ := fun p => ∃ i, p = .int i ∧ φ (.int (-i))) ⟨_, rfl, hφ⟩
    have t2 : ∃ l : List Int, mk b e = .nums l ∧ l.length = 4 := by
      by_cases hb0 : b = 0
      · subst hb0; rw [mk_zero]; exact ⟨_, rfl, rfl⟩
      · unfold mk; rw [if_neg hb0]; exact ⟨_, rfl, rfl⟩
    obtain ⟨l, hl, hl4⟩ := t2
    rw [hl] at hsg
    rw [mk_zero, hl]
    match l, hl4 with
    | [x, y, z, w], _ =>
      repeat (walk_at "mine auto")
      refine CallOK.mono hsg fun p hp => ?_
      obtain ⟨i, rfl, hp⟩ := hp
      repeat (walk_at "mine auto")
      exact hp
  · obtain ⟨sg, m, i, hs, hm, rfl⟩ := raw a ha0
    have hbi : bits (m : Int) + i ≤ 40000 := by rw [bits_sgn, bits_mul_pow (by omega)] at ha; exact ha
    by_cases hb0 : b = 0
    · subst hb0
      have hφ : φ (.int (sgn sg (m * 2 ^ i)).sign) := by
        rcases Int.lt_or_gt_of_ne ha0 with g | g
        · rw [Int.sign_eq_neg_one_of_neg g]; exact h1 g
        · rw [Int.sign_eq_one_of_pos g]; exact h2 g
      have hsg := ok_sign F (n + 4) (a := sgn sg (m * 2 ^ i)) (e := e) (φ := φ) hφ
      rw [mk_sgn hs hm] at hsg
      rw [mk_zero, mk_sgn hs hm]
      repeat (walk_at "mine auto")
      rw [odd_int hm]
      repeat (walk_at "mine auto")
      refine And.intro (fun g => absurd (of_decide_eq_true g) (by simp; omega)) (fun _ => ?_)
      repeat (walk_at "mine auto")
      refine CallOK.mono hsg fun p hp => ?_
      repeat (walk_at "mine auto")
      exact hp
    · obtain ⟨tg, l, j, ht, hl, rfl⟩ := raw b hb0
      have hbj : bits (l : Int) + j ≤ 40000 := by rw [bits_sgn, bits_mul_pow (by omega)] at hb; exact hb
      have hbM := bits_mul_pow (n := m) (by omega) i
      have hbL := bits_mul_pow (n := l) (by omega) j
      have hM : 0 < m * 2 ^ i := Nat.mul_pos (by omega) (Nat.two_pow_pos i)
      have hL : 0 < l * 2 ^ j := Nat.mul_pos (by omega) (Nat.two_pow_pos j)
      have hsub : Unit → bits (m : Int) + i = bits (l : Int) + j → CallOK C (n + 5) "mpf_sub" [mk (sgn sg (m * 2 ^ i)) e, mk (sgn tg (l * 2 ^ j)) e, .int 5, .str sf] (AddPost 5 (sgn sg (m * 2 ^ i) - sgn tg (l * 2 ^ j)) e) := fun _ hq =>
        ok_sub4 F n ha hb (.inr ⟨rfl, rfl, ha0, hb0, by rw [bits_sgn, bits_sgn]; omega⟩) fun p hp => hp
      rw [mk_sgn hs hm, mk_sgn ht hl] at hsub
      rw [mk_sgn hs hm, mk_sgn ht hl]
      have up : ∀ x : Int, x = sg → sgn x (m * 2 ^ i) = if x = 0 then ((m * 2 ^ i : Nat) : Int) else -((m * 2 ^ i : Nat) : Int) := fun x _ => rfl
      have res1 : Unit → tg = sg → m * 2 ^ i < l * 2 ^ j → (sg = 0 → φ (.int (-1))) ∧ (sg = 1 → φ (.int 1)) := by
        rintro _ rfl g
        refine ⟨?_, ?_⟩
        · rintro rfl; exact h1 (by unfold sgn; rw [if_pos rfl, if_pos rfl]; omega)
        · rintro rfl; exact h2 (by unfold sgn; rw [if_neg (by decide), if_neg (by decide)]; omega)
      have res2 : Unit → tg = sg → l * 2 ^ j < m * 2 ^ i → (sg = 0 → φ (.int 1)) ∧ (sg = 1 → φ (.int (-1))) := by
        rintro _ rfl g
        refine ⟨?_, ?_⟩
        · rintro rfl; exact h2 (by unfold sgn; rw [if_pos rfl, if_pos rfl]; omega)
        · rintro rfl; exact h1 (by unfold sgn; rw [if_neg (by decide), if_neg (by decide)]; omega)
      have rest8 : Unit → tg = sg → i ≠ j → bits (m : Int) + i = bits (l : Int) + j → ∀ ρ, look ρ "s" = some (.nums [sg, (m : Int), e + i, bits (m : Int)]) → look ρ "t" = some (.nums [tg, (l : Int), e + j, bits (l : Int)]) → (match stOf "mpf_cmp" with
          | .FunctionDef _ params body _ _ _ scope _ _ _ => Ex C scope (n + 5) ρ (body.drop 8) (toRet φ)
          | _ => True) := by
        intro _ he hij hq ρ l1 l2
        show Ex C _ (n + 5) ρ (List.drop 8 _) (toRet φ)
        refine Ex.cons (st := ?_) (ss := ?_) ?_
        repeat (walk_at "mine auto")
        refine CallOK.mono (hsub () hq) fun p hp => ?_
        obtain ⟨x, y, rfl, hxy⟩ := hp.2 rfl
        obtain ⟨ls, hls, hl0⟩ := mk_item0 x y
        rw [hls]
        repeat (walk_at "mine auto")
        refine Ev.item (k := 0) ?_ (by decide)
        repeat (walk_at "mine auto")
        refine ⟨_, _, rfl, hl0, ?_⟩
        have ne : m * 2 ^ i ≠ l * 2 ^ j := by
          intro hc
          have q1 := tzN_split (m := m) (k := i) hm
          have q2 := tzN_split (m := l) (k := j) hl
          rw [hc, q2] at q1
          exact hij q1.symm
        subst he
        by_cases hx : x < 0
        · rw [if_pos hx]
          repeat (walk_at "mine auto")
          exact h1 (by have := hxy.mp hx; omega)
        · rw [if_neg hx]
          repeat (walk_at "mine auto")
          refine h2 ?_
          have h3 : ¬ (sgn tg (m * 2 ^ i) - sgn tg (l * 2 ^ j) < 0) := fun c => hx (hxy.mpr c)
          have h4 : sgn tg (m * 2 ^ i) ≠ sgn tg (l * 2 ^ j) := by
            intro c
            have := congrArg Int.natAbs c
            rw [sgn_natAbs, sgn_natAbs] at this
            exact ne this
          omega
      have rest : Unit → tg = sg → ∀ ρ, look ρ "ssign" = some (.int sg) → look ρ "sman" = some (.int m) → look ρ "sexp" = some (.int (e + i)) → look ρ "sbc" = some (.int (bits (m : Int))) → look ρ "tsign" = some (.int tg) → look ρ "tman" = some (.int l) → look ρ "texp" = some (.int (e + j)) → look ρ "tbc" = some (.int (bits (l : Int))) → look ρ "s" = some (.nums [sg, (m : Int), e + i, bits (m : Int)]) → look ρ "t" = some (.nums [tg, (l : Int), e + j, bits (l : Int)]) → (match stOf "mpf_cmp" with
          | .FunctionDef _ params body _ _ _ scope _ _ _ => Ex C scope (n + 5) ρ (body.drop 4) (toRet φ)
          | _ => True) := by
        intro _ he ρ l1 l2 l3 l4 l5 l6 l7 l8 l9 l10
        show Ex C _ (n + 5) ρ (List.drop 4 _) (toRet φ)
        refine Ex.cons (st := ?_) (ss := ?_) ?_
        repeat (walk_at "mine step")
        refine And.intro (fun g => ?_) (fun g => ?_)
        · have g1 : i = j := by have := of_decide_eq_true g; omega
          repeat (walk_at "mine step")
          refine And.intro (fun g => ?_) (fun g => ?_)
          · have g2 : m = l := by have := of_decide_eq_true g; omega
            repeat (walk_at "mine step")
            exact h0 (by rw [he, g1, g2])
          · have g2 : m ≠ l := by have := of_decide_eq_false g; omega
            repeat (walk_at "mine step")
            refine And.intro (fun g => ?_) (fun g => ?_)
            · have g3 : l < m := by have := of_decide_eq_true g; omega
              have g4 := res2 () he (by rw [g1]; exact Nat.mul_lt_mul_of_pos_right g3 (Nat.two_pow_pos j))
              repeat (walk_at "mine step")
              refine And.intro (fun g => ?_) (fun g => ?_)
              · repeat (walk_at "mine step")
                exact g4.2 (sg1 hs g)
              · repeat (walk_at "mine step")
                exact g4.1 (bne_f g)
            · have g3 : m < l := by have := of_decide_eq_false g; omega
              have g4 := res1 () he (by rw [g1]; exact Nat.mul_lt_mul_of_pos_right g3 (Nat.two_pow_pos j))
              repeat (walk_at "mine step")
              refine And.intro (fun g => ?_) (fun g => ?_)
              · repeat (walk_at "mine step")
                exact g4.2 (sg1 hs g)
              · repeat (walk_at "mine step")
                exact g4.1 (bne_f g)
        · have g1 : i ≠ j := by have := of_decide_eq_false g; omega
          repeat (walk_at "mine step")
          refine And.intro (fun g => ?_) (fun g => ?_)
          · have hsg : sg = 1 := sg1 hs g
            repeat (walk_at "mine step")
            refine And.intro (fun g => ?_) (fun g => ?_)
            · have g2 := of_decide_eq_true g
              repeat (walk_at "mine step")
              exact (res1 () he (bits_cmp (by omega))).2 hsg
            · have g2 := of_decide_eq_false g
              repeat (walk_at "mine step")
              refine And.intro (fun g => ?_) (fun g => ?_)
              · have g3 := of_decide_eq_true g
                repeat (walk_at "mine step")
                exact (res2 () he (bits_cmp (by omega))).2 hsg
              · have g3 := of_decide_eq_false g
                repeat (walk_at "mine expr")
                exact rest8 () he g1 (by omega) _ (by repeat (first | assumption | refine look_skip (by decide) ?_)) (by repeat (first | assumption | refine look_skip (by decide) ?_))
          · have hsg : sg = 0 := bne_f g
            repeat (walk_at "mine step")
            refine And.intro (fun g => ?_) (fun g => ?_)
            · have g2 := of_decide_eq_true g
              repeat (walk_at "mine step")
              exact (res1 () he (bits_cmp (by omega))).1 hsg
            · have g2 := of_decide_eq_false g
              repeat (walk_at "mine step")
              refine And.intro (fun g => ?_) (fun g => ?_)
              · have g3 := of_decide_eq_true g
                repeat (walk_at "mine step")
                exact (res2 () he (bits_cmp (by omega))).1 hsg
              · have g3 := of_decide_eq_false g
                repeat (walk_at "mine expr")
                exact rest8 () he g1 (by omega) _ (by repeat (first | assumption | refine look_skip (by decide) ?_)) (by repeat (first | assumption | refine look_skip (by decide) ?_))
      repeat (walk_at "mine auto")
      rw [odd_int hm]
      repeat (walk_at "mine auto")
      rw [odd_int hl]
      repeat (walk_at "mine auto")
      refine And.intro (fun g => ?_) (fun g => ?_)
      · have g1 : sg ≠ tg := by simpa using g
        repeat (walk_at "mine auto")
        refine And.intro (fun g => ?_) (fun g => ?_)
        · have e1 : sg = 0 := by simpa using g
          have e2 : tg = 1 := by omega
          repeat (walk_at "mine auto")
          exact h2 (by rw [e1, e2]; unfold sgn; rw [if_neg (by decide), if_pos rfl]; omega)
        · have e1 : sg ≠ 0 := by simpa using g
          have e1 : sg = 1 := by omega
          have e2 : tg = 0 := by omega
          repeat (walk_at "mine auto")
          exact h1 (by rw [e1, e2]; unfold sgn; rw [if_neg (by decide), if_pos rfl]; omega)
      · have g1 : sg = tg := by simpa using g
        repeat (walk_at "mine expr")
        exact rest () g1.symm _ rfl rfl rfl rfl rfl rfl rfl rfl rfl rfl
theorem mk_nums (a e : Int) : ∃ x y z w : Int, mk a e = .nums [x, y, z, w] ∧ ¬ [x, y, z, w] = [0, 0, -123, -1] := by
  by_cases h : a = 0
  · subst h; rw [mk_zero]; exact ⟨_, _, _, _, rfl, by decide⟩
  · unfold mk; rw [if_neg h]
    refine ⟨_, _, _, _, rfl, ?_⟩
    intro c
    simp at c
theorem ok_lt {C : Cx} (F : Facts C) (n : Nat) {a b e : Int} (ha : bits a ≤ 40000) (hb : bits b ≤ 40000) {φ : PV → Prop} (h : φ (.bool (decide (a < b)))) : CallOK C (n + 7) "mpf_lt" [mk a e, mk b e] φ := by
  have hc := ok_cmp F n (e := e) ha hb (φ := fun p => ∃ i, p = .int i ∧ (i < 0 ↔ a < b)) (fun g => ⟨_, rfl, by omega⟩) (fun g => ⟨_, rfl, by omega⟩) (fun g => ⟨_, rfl, by omega⟩)
  refine callD (show DefAt C "mpf_lt" _ _ _ _ from F.defs "mpf_lt" _ rfl) ["s", "t"] (ρ₀ := [("t", mk b e), ("s", mk a e)]) rfl rfl (by decide) rfl rfl rfl rfl rfl (by decide) rfl rfl rfl ?_
  obtain ⟨x, y, z, w, e1, n1⟩ := mk_nums a e
  obtain ⟨x2, y2, z2, w2, e2, n2⟩ := mk_nums b e
  rw [e1, e2] at hc
  rw [e1, e2]
  repeat (walk_at "mine auto")
  rw [decide_eq_false n1]
  repeat (walk_at "mine auto")
  rw [decide_eq_false n2]
  repeat (walk_at "mine auto")
  refine CallOK.mono hc fun p hp => ?_
  obtain ⟨i, rfl, hi⟩ := hp
  repeat (walk_at "mine auto")
  rw [show decide (i < 0) = decide (a < b) from decide_eq_decide.mpr hi]
  exact h
theorem ok_le {C : Cx} (F : Facts C) (n : Nat) {a b e : Int} (ha : bits a ≤ 40000) (hb : bits b ≤ 40000) {φ : PV → Prop} (h : φ (.bool (decide (a ≤ b)))) : CallOK C (n + 7) "mpf_le" [mk a e, mk b e] φ := by
  have hc := ok_cmp F n (e := e) ha hb (φ := fun p => ∃ i, p = .int i ∧ (i ≤ 0 ↔ a ≤ b)) (fun g => ⟨_, rfl, by omega⟩) (fun g => ⟨_, rfl, by omega⟩) (fun g => ⟨_, rfl, by omega⟩)
  refine callD (show DefAt C "mpf_le" _ _ _ _ from F.defs "mpf_le" _ rfl) ["s", "t"] (ρ₀ := [("t", mk b e), ("s", mk a e)]) rfl rfl (by decide) rfl rfl rfl rfl rfl (by decide) rfl rfl rfl ?_
  obtain ⟨x, y, z, w, e1, n1⟩ := mk_nums a e
  obtain ⟨x2, y2, z2, w2, e2, n2⟩ := mk_nums b e
  rw [e1, e2] at hc
  rw [e1, e2]
  repeat (walk_at "mine auto")
  rw [decide_eq_false n1]
  repeat (walk_at "mine auto")
  rw [decide_eq_false n2]
  repeat (walk_at "mine auto")
  refine CallOK.mono hc fun p hp => ?_
  obtain ⟨i, rfl, hi⟩ := hp
  repeat (walk_at "mine auto")
  rw [show decide (i ≤ 0) = decide (a ≤ b) from decide_eq_decide.mpr hi]
  exact h
section
/-- the scope of a display that stands in a frame of scope sc -/
def relS (scope sc : Scope) : Scope := relabel scope { (default : Env) with scope := sc }
theorem relabel_eq {scope : Scope} {env : Env} : relabel scope env = relS scope env.scope := rfl
/-- new kinds, the same names: what a look-up finds -/
theorem lookup_kinds (g : Str → NameKind → NameKind) (x : Str) : ∀ l : List (Str × NameKind), (l.map fun z => (z.1, g z.1 z.2)).lookup x = (l.lookup x).map (g x)
  | [] => rfl
  | z :: l => by
    rw [List.map_cons, List.lookup_cons, List.lookup_cons, lookup_kinds g x l]
    by_cases e : x = z.1
    · rw [← e, beq_self_eq_true]; rfl
    · rw [beq_false_of_ne e]
theorem lookup_relS_cell {scope sc : Scope} {x : Str} (hk : sc.kind = .function) (hf : scope.names.lookup x = some .free) (hc : sc.names.lookup x = some .cell) : (relS scope sc).names.lookup x = some .cell := by
  have same : (relS scope sc).names = scope.names.map fun z => (z.1, (fun n k => if k = .free ∧ sc.names.lookup n = some .cell then NameKind.cell else k) z.1 z.2) := by
    unfold relS relabel Env.kindOf
    refine List.map_congr_left fun z _ => ?_
    dsimp only
    rw [hk]
    by_cases c : z.2 = .free ∧ sc.names.lookup z.1 = some .cell
    · rw [if_pos c, if_pos (by rw [c.1, c.2]; rfl)]
    · rw [if_neg c, if_neg (by simpa using c)]
  have found := lookup_kinds (fun n k => if k = .free ∧ sc.names.lookup n = some .cell then NameKind.cell else k) x scope.names
  rw [hf, Option.map_some, if_pos ⟨rfl, hc⟩] at found
  rw [same]
  exact found
theorem lookup_relS_local {scope sc : Scope} {x : Str} (h : scope.names.lookup x = some .local) : (relS scope sc).names.lookup x = some .local :=
  lookup_relabel_local (env := { (default : Env) with scope := sc }) h

def Flat (p : PV) : Prop := (∃ i, p = .int i) ∨ ∃ l : List Int, p = .nums l
theorem reps_ints {h h' : Heap} : ∀ {l : List Int} {vs : List Value}, Reps h vs (l.map .int) → Reps h' vs (l.map .int)
  | [], _, r => by cases r; exact .nil
  | a :: l, _, r => by
    cases r with
    | cons r rs => cases r; exact .cons (.int _ _) (reps_ints rs)
def TupKeep (h h' : Heap) : Prop := ∀ a its, IsTup h a its → IsTup h' a its
theorem TupKeep.trans {a b c : Heap} (x : TupKeep a b) (y : TupKeep b c) : TupKeep a c := fun i s e => y i s (x i s e)
theorem Keep.tup {h h' : Heap} (k : Keep h h') : TupKeep h h' := fun _ _ e => IsTup.sk e k.seq
/-- one object turned, and it was no tuple -/
theorem TupKeep.but {h h' : Heap} {a : Addr} (hn : ∀ its, ¬ IsTup h a its) (k : ∀ b o, b ≠ a → h.get? b = some o → h'.get? b = some o) : TupKeep h h' := by
  intro b its e
  have hb : b ≠ a := by rintro rfl; exact hn its e
  obtain ⟨o, ho, r⟩ := e
  exact ⟨o, k b o hb ho, r⟩
theorem Flat.rep {h h' : Heap} {v : Value} {p : PV} (f : Flat p) (k : TupKeep h h') (r : Rep h v p) : Rep h' v p := by
  rcases f with ⟨i, rfl⟩ | ⟨l, rfl⟩
  · cases r; exact .int _ _
  · cases r with
    | tup ht rs => exact .tup (k _ _ ht) (reps_ints rs)
theorem flat_reps {h h' : Heap} (k : TupKeep h h') : ∀ {vs : List Value} {ps : List PV}, (∀ p ∈ ps, Flat p) → Reps h vs ps → Reps h' vs ps
  | _, _, _, .nil => .nil
  | _, _, f, .cons r rs => .cons ((f _ (.head _)).rep k r) (flat_reps k (fun p hp => f p (.tail _ hp)) rs)
theorem ns_no_tup {h : Heap} {a : Addr} {m : Str → Option Value} (n : h.Ns a m) (its : Array Value) : ¬ IsTup h a its := by
  rintro ⟨o, ho, _, k, hd⟩
  obtain ⟨o', es, ep, ho', hd', _⟩ := n
  rw [ho] at ho'; cases ho'; rw [hd] at hd'; cases hd'

/-- the tests and the element of one turn -/
def Turn (C : Cx) (sc : Scope) (n : Nat) (ρ : Loc) (ifs : List Expr) (elt : Expr) (ψ : Option PV → Prop) : Prop :=
  (ifs = [] ∧ Ev C sc n ρ elt fun p => ψ (some p)) ∨ ∃ c, ifs = [c] ∧ Ts C sc n ρ c fun b => (b = true → Ev C sc n ρ elt fun p => ψ (some p)) ∧ (b = false → ψ none)
theorem Turn.run {C : Cx} {sc : Scope} {n : Nat} {ρ : Loc} {ifs : List Expr} {elt : Expr} {ψ : Option PV → Prop} (t : Turn C sc n ρ ifs elt ψ) {env : Env} {A : Around} {s : Shared} {Q1 : Value → Shared → Prop} {Q0 : Shared → Prop} {E : Value → Shared → Prop}
    (hs : env.scope = sc) (hp : Plain env) (hr : Room n A) (ho : Ok C s.heap) (hn : Names env s.heap ρ)
    (k1 : ∀ h' tk' v p, ψ (some p) → Keep s.heap h' → Rep h' v p → Q1 v { s with heap := h', toks := tk' }) (k0 : ∀ h' tk', ψ none → Keep s.heap h' → Q0 { s with heap := h', toks := tk' }) :
    wpAny C.M A (forIn ifs true fun c r => if r = true then do let ok ← isTrue c env (eval c env); pure (ForInStep.yield ok) else pure (ForInStep.yield r)) (fun ok s₃ => if ok = true then wpAny C.M A (eval elt env) Q1 E s₃ else Q0 s₃) E s := by
  rcases t with ⟨rfl, h⟩ | ⟨c, rfl, h⟩
  · refine wpAny_tests_nil ?_
    simp only [if_true]
    exact h env A s _ E hs hp hr ho hn k1
  · refine wpAny_tests_one (h env A s _ E hs hp hr ho hn fun h1 t1 b hb kk => ?_)
    cases b with
    | true =>
      simp only [if_true]
      exact hb.1 rfl env A { s with heap := h1, toks := t1 } _ E hs hp hr (ho.keep kk) (hn.keep kk) fun h2 t2 v p hp' k2 r2 => k1 h2 t2 v p hp' (kk.trans k2) r2
    | false =>
      rw [if_neg (by decide)]
      exact k0 h1 t1 (hb.2 rfl) kk
def stepJ (J : Nat → List PV → Prop) (i : Nat) (acc : List PV) : Option PV → Prop
  | some p => Flat p ∧ J (i + 1) (acc ++ [p])
  | none => J (i + 1) acc
theorem Reps.snoc {h : Heap} {vs : List Value} {ps : List PV} {v : Value} {p : PV} (r : Reps h vs ps) (x : Rep h v p) : Reps h (vs ++ [v]) (ps ++ [p]) := r.append (.cons x .nil)
theorem none_of_keep {h h' : Heap} {a : Addr} (k : Keep h h') (e : h'.get? a = none) : h.get? a = none := by
  cases q : h.get? a with
  | none => rfl
  | some o => rw [k a o q] at e; cases e
theorem ne_of_none {h : Heap} {a b : Addr} {o : Obj} (e : h.get? a = none) (q : h.get? b = some o) : b ≠ a := by rintro rfl; rw [e] at q; cases q

/-- a display's list D and the home L of its names, just made: both are new, all else stands as it stood -/
structure Begun (h h' : Heap) (D L : Addr) : Prop where
  list : h.objs.size ≤ D
  home : h.objs.size ≤ L
  apart : D ≠ L
  keep : Keep h h'
  empty : h'.get? D = some { cls := .type "list", data := .seq #[] 0 }
theorem Begun.far {h h' : Heap} {D L b : Addr} (x : Begun h h' D L) (hb : b < h.objs.size) : b ≠ D ∧ b ≠ L :=
  ⟨Nat.ne_of_lt (Nat.lt_of_lt_of_le hb x.list), Nat.ne_of_lt (Nat.lt_of_lt_of_le hb x.home)⟩
theorem begun {C : Cx} {A : Around} {E : Value → Shared → Prop} {env : Env} {scope : Scope} {cl : List (Str × Addr)} {s : Shared} {X : Value → Env → Shared → Prop} (hcell : ∀ y ∈ scope.names, y.2 ≠ .cell) (hkind : scope.kind = .function)
    (k : ∀ (D L : Addr) h' tk (cenv : Env), Begun s.heap h' D L → (∃ m, h'.Ns L m) → cenv.locals = L → { cenv with scope := relabel scope env } = compEnvC scope cl L env → X (.ref D) cenv { s with heap := h', toks := tk }) :
    wpAny C.M A (newList []) (fun acc s₃ => wpAny C.M A (newFunctionEnv scope env.globals cl [] env.qual none .none (some env)) (fun cenv s₄ => X acc cenv s₄) E s₃) E s := by
  refine wpAny_newObj_type (wpAny_newFunctionEnv hcell (fun z hz => by cases hz) (fun g hn hg => ?_) hkind)
  have stays : ∀ {b o}, (s.heap.push { cls := .type "list", data := .seq #[] 0 }).get? b = some o → g.get? b = some o :=
    fun {b o} e => hg.extBut b o (Nat.ne_of_lt (Heap.lt_size e)) (Heap.get?_push_of_some _ e)
  have more : (s.heap.push { cls := .type "list", data := .seq #[] 0 }).objs.size = s.heap.objs.size + 1 := Heap.size_push _ _
  exact k _ _ g _ _ ⟨Nat.le_refl _, by rw [more]; omega, by rw [more]; exact Nat.ne_of_lt (Nat.lt_succ_self _), fun b o e => stays (Heap.get?_push_of_some _ e), stays (Heap.get?_push_size _ rfl)⟩ ⟨_, hn⟩ rfl rfl

/-- what a display holds in the midst of its turns: hb is the heap ahead of it -/
structure Held (hb h : Heap) (D L : Addr) (ys : Array Value) (acc : List PV) : Prop where
  keep : Keep hb h
  home : ∃ m, h.Ns L m
  list : ∃ k, h.get? D = some { cls := .type "list", data := .seq ys k }
  reps : Reps h ys.toList acc
  flat : ∀ p ∈ acc, Flat p
/-- one object that hb lacks is turned, and it is no tuple -/
theorem Held.but {hb h h' : Heap} {D L a : Addr} {ys : Array Value} {acc : List PV} (x : Held hb h D L ys acc) (ha : hb.get? a = none) (hn : ∀ its, ¬ IsTup h a its) (hD : D ≠ a) (hL : ∃ m, h'.Ns L m)
    (k : ∀ b o, b ≠ a → h.get? b = some o → h'.get? b = some o) : Held hb h' D L ys acc :=
  ⟨fun b o e => k b o (ne_of_none ha e) (x.keep b o e), hL, x.list.imp fun _ e => k _ _ hD e, flat_reps (.but hn k) x.flat x.reps, x.flat⟩
theorem Held.kept {hb h h' : Heap} {D L : Addr} {ys : Array Value} {acc : List PV} (x : Held hb h D L ys acc) (k : Keep h h') : Held hb h' D L ys acc :=
  ⟨x.keep.trans k, x.home.imp fun _ n => n.keeps k, x.list.imp fun _ e => k _ _ e, x.reps.keep k, x.flat⟩
theorem Held.put {hb h h' : Heap} {D L : Addr} {ys : Array Value} {acc : List PV} {v : Value} {p : PV} {k : Nat} (x : Held hb h D L ys acc) (ha : hb.get? D = none) (hL : L ≠ D) (same : Heap.SameBut D h h')
    (now : h'.get? D = some { cls := .type "list", data := .seq (ys.push v) k }) (r : Rep h v p) (f : Flat p) : Held hb h' D L (ys.push v) (acc ++ [p]) := by
  have tk : TupKeep h h' := .but (a := D) (by
    rintro its ⟨o, ho, hc, -⟩
    obtain ⟨k', e⟩ := x.list
    obtain rfl := Option.some.inj (e.symm.trans ho)
    injection hc with hc
    exact absurd hc (by decide)) fun b o hne e => same.extBut b o hne e
  refine ⟨fun b o e => same.extBut b o (ne_of_none ha e) (x.keep b o e), x.home.imp fun _ n => n.sameBut same hL, ⟨k, now⟩, ?_, fun q hq => ?_⟩
  · rw [Array.toList_push]
    exact (flat_reps tk x.flat x.reps).snoc (f.rep tk r)
  · rcases List.mem_append.mp hq with hq | hq
    · exact x.flat q hq
    · cases hq with
      | head => exact f
      | tail _ h => cases h

theorem comp_block {C : Cx} {n : Nat} {A : Around} {E : Value → Shared → Prop} {env : Env} (hp : Plain env) (hr : Room n A)
    {elt iter : Expr} {x : String} {px : Pos} {ifs : List Expr} {scope : Scope} {cl : List (Str × Addr)} {pos : Pos} {s₂ : Shared} {hb : Heap} {I : Addr} {fp : List Addr} {N : Nat} {P : Nat → Value → Prop} {S : Nat → Heap → Prop} {ρc : Loc} {qf : Nat → PV} {J : Nat → List PV → Prop}
    {RR : Value → Addr → Result → Shared → Prop}
    (W : Walks C.prog C.w A I fp [I] N P S) (hN : N ≤ 1000) (hI : ∀ i h, S i h → ∃ o, h.get? I = some o ∧ o.cls ≠ .type "tuple")
    (hb2 : Keep hb s₂.heap) (hIb : hb.get? I = none) (hfp : ∀ b ∈ fp, b < s₂.heap.objs.size) (hS : S 0 s₂.heap) (ho : Ok C hb)
    (hP : ∀ i v, i < N → P i v → Rep hb v (qf i))
    (hcell : ∀ y ∈ scope.names, y.2 ≠ .cell) (hkind : scope.kind = .function) (hx : scope.names.lookup (Str.ofString x) = some .local) (hxd : (Str.ofString x == Str.ofString "__debug__") = false)
    (hcap : ∀ y p, look ρc y = some p → (Str.ofString y == Str.ofString "__debug__") = false ∧ ∃ c v, (relS scope env.scope).names.lookup (Str.ofString y) = some .cell ∧ cl.lookup (Str.ofString y) = some c ∧ hb.IsCell c (some v) ∧ Rep hb v p)
    (J0 : J 0 []) (turn : ∀ i acc, i < N → J i acc → Turn C (relS scope env.scope) n ((x, qf i) :: ρc) ifs elt (stepJ J i acc))
    (hRR : ∀ D Cc h' tk acc ys m', hb.get? D = none → hb.get? Cc = none → D ≠ Cc → Keep hb h' → h'.Ns Cc m' → h'.IsList D ys → Reps h' ys.toList acc → (∀ p ∈ acc, Flat p) → J N acc → RR (.ref D) Cc (.ok .next) { s₂ with heap := h', toks := tk }) :
    wpAny C.M A (newList []) (fun acc s₃ => wpAny C.M A (newFunctionEnv scope env.globals cl [] env.qual none .none (some env)) (fun cenv s₄ =>
      codeAny C.M A (.compStart (.ListComp elt [⟨.Name (Str.ofString x) px, iter, ifs, 0⟩] scope pos) 0 (.ref I) acc { cenv with scope := relabel scope env }) (RR acc cenv.locals) s₄) E s₃) E s₂ := by
  refine begun hcell hkind fun D L g tk cenv B home eL eC => ?_
  rw [eC, eL]
  have nD : hb.get? D = none := none_of_keep hb2 (Heap.get?_none_of_le B.list)
  have nL : hb.get? L = none := none_of_keep hb2 (Heap.get?_none_of_le B.home)
  have offI := B.far (hfp I (W.sub I (.head _)))
  have walked : ∀ {i h}, S i h → ∀ its, ¬ IsTup h I its := fun {i h} st its ht => by
    obtain ⟨o, e, no⟩ := hI i h st
    obtain ⟨o', e', isT, -⟩ := ht
    exact no (Option.some.inj (e.symm.trans e') ▸ isT)
  have st0 : S 0 g := W.frame _ _ _ hS fun b _ => B.keep b
  suffices go : codeAny C.M A (.compLoop (.ListComp elt [⟨.Name (Str.ofString x) px, iter, ifs, 0⟩] scope pos) 0 (.ref I) (.ref D) (compEnvC scope cl L env)) (RR (.ref D) L) { s₂ with heap := g, toks := tk } from
    codeAny_compStart_list go (W.self 0 _ _ _ st0 go)
  refine codeAny_compLoop_tests (fun left t => ∃ i h tk ys acc, left + i = N + 1 ∧ i ≤ N ∧ ys.size ≤ i ∧ t = { s₂ with heap := h, toks := tk } ∧ S i h ∧ J i acc ∧ Held hb h D L ys acc) (fun left t now => ?_) (N + 1)
    ⟨0, g, tk, #[], [], rfl, Nat.zero_le _, Nat.le_refl _, rfl, st0, J0, hb2.trans B.keep, home, ⟨0, B.empty⟩, .nil, fun _ h => by cases h⟩
  obtain ⟨i, h, tk, ys, acc, el, hi, hz, rfl, st, inv, held⟩ := now
  rcases Nat.lt_or_eq_of_le hi with lt | rfl
  · -- one more thing is drawn, and named
    refine W.item i _ _ _ lt st fun v h₁ tk₁ is st₁ same₁ => ?_
    have only : ∀ b o, b ≠ I → h.get? b = some o → h₁.get? b = some o := fun b o hne => same₁ b o (fun hm => hne (List.mem_singleton.mp hm))
    have held₁ := held.but hIb (walked st) offI.1.symm (held.home.imp fun _ m => m.at' fun o => only _ o offI.2.symm) only
    obtain ⟨m₁, home₁⟩ := held₁.home
    refine wpAny_assign_Name (wpAny_storeName_local (lookup_relS_local (sc := env.scope) hx) home₁ (fun h₂ home₂ same₂ => ?_) (by simp [compEnvC, relabel, hkind]))
    have held₂ := held₁.but nL (ns_no_tup home₁) B.apart ⟨_, home₂⟩ fun b o hne => same₂.extBut b o hne
    have st₂ : S (i + 1) h₂ := W.frame _ _ _ st₁ fun b hm o => same₂.extBut b o (B.far (hfp b hm)).2
    have next : (N + 1 - (i + 1)) < left ∧ (N + 1 - (i + 1)) + (i + 1) = N + 1 := by omega
    -- the tests and the element
    refine wpAny_mono (Turn.run (turn i acc lt inv) (env := compEnvC scope cl L env) (Q1 := fun y s₄ => wpAny C.M A (call (.builtin "list.append") [.ref D, y]) (fun _ s₅ => ∃ m, m < left ∧ _) _ s₄) (Q0 := fun s₄ => ∃ m, m < left ∧ _) rfl ⟨hp.g, hp.b, hkind⟩ hr (ho.keep held₂.keep) ?_ ?_ ?_) (fun _ _ z => z) fun _ _ z => z
    · intro y p hy
      unfold look at hy
      rw [List.lookup_cons] at hy
      by_cases e : y = x
      · rw [e, beq_self_eq_true] at hy
        cases hy
        rw [e]
        exact ⟨hxd, v, .loc _ (lookup_relS_local (sc := env.scope) hx) home₂ (if_pos rfl), (hP i v lt is).keep held₂.keep⟩
      · rw [beq_false_of_ne e] at hy
        obtain ⟨nd, c, u, l1, l2, ⟨o, l3, l4⟩, l5⟩ := hcap y p hy
        exact ⟨nd, u, .cell c l1 l2 ⟨o, held₂.keep c o l3, l4⟩, l5.keep held₂.keep⟩
    · intro h₃ tk₃ y p ok k₃ r
      have held₃ := held₂.kept k₃
      obtain ⟨k, atD⟩ := held₃.list
      refine append_at (hsz := Nat.le_trans hz (Nat.le_trans hi (Nat.le_trans hN (by decide)))) atD fun h₄ same₄ atD' => ?_
      refine ⟨_, next.1, i + 1, h₄, tk₃, ys.push y, acc ++ [p], next.2, lt, by rw [Array.size_push]; omega, rfl, ?_, ok.2, held₃.put nD B.apart.symm same₄ atD' r ok.1⟩
      exact W.frame _ _ _ st₂ fun b hm o e => same₄.extBut b o (B.far (hfp b hm)).1 (k₃ b o e)
    · intro h₃ tk₃ ok k₃
      exact ⟨_, next.1, i + 1, h₃, tk₃, ys, acc, next.2, lt, by omega, rfl, W.frame _ _ _ st₂ fun b _ => k₃ b, ok, held₂.kept k₃⟩
  · -- nothing is left
    refine W.done _ _ _ st fun h₁ tk₁ same₁ => ?_
    have only : ∀ b o, b ≠ I → h.get? b = some o → h₁.get? b = some o := fun b o hne => same₁ b o (fun hm => hne (List.mem_singleton.mp hm))
    have held₁ := held.but hIb (walked st) offI.1.symm (held.home.imp fun _ m => m.at' fun o => only _ o offI.2.symm) only
    obtain ⟨m₁, home₁⟩ := held₁.home
    obtain ⟨k, atD⟩ := held₁.list
    exact hRR D L h₁ tk₁ acc ys m₁ nD nL B.apart held₁.keep home₁ ⟨_, atD, rfl, k, rfl⟩ held₁.reps held₁.flat inv

/-- the cells that a display's scope takes from without -/
theorem closure_ok {scope : Scope} {env : Env} (hf : ∀ z ∈ scope.names, z.2 = .free → ∃ c, env.cells.lookup z.1 = some c) :
    ∃ cl, closureFor scope env = pure cl ∧ ∀ z ∈ scope.names, z.2 = .free → cl.lookup z.1 = env.cells.lookup z.1 := by
  have gen : ∀ (l : List (Str × NameKind)) (cs : List (Str × Addr)), (∀ z ∈ l, z.2 = .free → ∃ c, env.cells.lookup z.1 = some c) → (∀ y c, cs.lookup y = some c → env.cells.lookup y = some c) →
      ∃ cl, (forIn l cs fun (x : Str × NameKind) (r : List (Str × Addr)) => if (x.2 == NameKind.free) = true then (do let a ← cellOf env x.1; pure (ForInStep.yield ((x.1, a) :: r))) else (pure (ForInStep.yield r) : Sem _)) = pure cl ∧
        (∀ y c, cl.lookup y = some c → env.cells.lookup y = some c) ∧ (∀ y, (cs.lookup y).isSome = true → (cl.lookup y).isSome = true) ∧ ∀ z ∈ l, z.2 = .free → (cl.lookup z.1).isSome = true := by
    intro l
    induction l with
    | nil => intro cs _ hi; exact ⟨cs, by rw [List.forIn_nil], hi, fun _ h => h, by intro z hz; cases hz⟩
    | cons a l ih =>
      intro cs h1 hi
      obtain ⟨y, k⟩ := a
      rw [List.forIn_cons]
      by_cases hk : k = .free
      · subst hk
        obtain ⟨c, hc⟩ := h1 (y, .free) (.head _) rfl
        obtain ⟨cl, e, i1, i2, i3⟩ := ih ((y, c) :: cs) (fun z hz => h1 z (.tail _ hz)) (fun z c' hz => by
          rw [List.lookup_cons] at hz
          by_cases q : z = y
          · subst q; simp at hz; subst hz; exact hc
          · have : (z == y) = false := by simpa using q
            rw [this] at hz; exact hi z c' hz)
        refine ⟨cl, ?_, i1, fun z hz => i2 z ?_, fun z hz hzf => ?_⟩
        · have hbb : ((y, NameKind.free).snd == NameKind.free) = true := rfl
          rw [if_pos hbb]
          have : cellOf env (y, NameKind.free).1 = pure c := by unfold cellOf; rw [hc]
          simp only [this, pure_bind]
          exact e
        · rw [List.lookup_cons]
          split
          · rfl
          · exact hz
        · rcases List.mem_cons.mp hz with rfl | hz
          · exact i2 y (by rw [List.lookup_cons]; simp)
          · exact i3 z hz hzf
      · obtain ⟨cl, e, i1, i2, i3⟩ := ih cs (fun z hz => h1 z (.tail _ hz)) hi
        refine ⟨cl, ?_, i1, i2, fun z hz hzf => ?_⟩
        · rw [if_neg (by simpa using hk)]
          simp only [pure_bind]
          exact e
        · rcases List.mem_cons.mp hz with rfl | hz
          · exact absurd hzf hk
          · exact i3 z hz hzf
  obtain ⟨cl, e, i1, i2, i3⟩ := gen scope.names [] hf (by intro y c h; simp at h)
  refine ⟨cl, ?_, fun z hz hzf => ?_⟩
  · unfold closureFor
    refine Eq.trans ?_ e
    simp
  · have := i3 z hz hzf
    obtain ⟨c, hc⟩ := Option.isSome_iff_exists.mp this
    rw [hc, i1 _ _ hc]
end
section
variable {C : Cx} {sc : Scope} {n : Nat} {ρ : Loc} {φ : PV → Prop} {Φ : Out → Prop}
/-- what may be walked: N things, the i-th is qf i -/
def SrcOK (C : Cx) (A : Around) (v : Value) (hb : Heap) (N : Nat) (qf : Nat → PV) : Prop :=
  ∀ (s : Shared) (Q : Value → Shared → Prop) (E : Value → Shared → Prop), s.heap = hb →
    (∀ I h₂ fp P S, Walks C.prog C.w A I fp [I] N P S → (∀ i h, S i h → ∃ o, h.get? I = some o ∧ o.cls ≠ .type "tuple") → Keep hb h₂ → hb.get? I = none → (∀ b ∈ fp, b < h₂.objs.size) → S 0 h₂ → (∀ i v, i < N → P i v → Rep hb v (qf i)) → Q (.ref I) { s with heap := h₂ }) →
    wpAny C.M A (pyIter v) Q E s
def EvSrc (C : Cx) (sc : Scope) (n : Nat) (ρ : Loc) (e : Expr) (ψ : Nat → (Nat → PV) → Prop) : Prop :=
  ∀ (env : Env) (A : Around) (s : Shared) (Q : Value → Shared → Prop) (E : Value → Shared → Prop), env.scope = sc → Plain env → Room n A → Ok C s.heap → Names env s.heap ρ →
    (∀ h' tk' v N qf, ψ N qf → N ≤ 1000 → Keep s.heap h' → SrcOK C A v h' N qf → Q v { s with heap := h', toks := tk' }) → wpAny C.M A (eval e env) Q E s

theorem EvSrc.list {e : Expr} {ψ : Nat → (Nat → PV) → Prop} (h : Ev C sc n ρ e fun p => ∃ l, p = .list l ∧ l.length ≤ 1000 ∧ ψ l.length fun i => l[i]?.getD .none) : EvSrc C sc n ρ e ψ := by
  intro env A s Q E hs hp hr ho hn k
  refine h env A s Q E hs hp hr ho hn fun h1 t1 v p hq k1 r1 => ?_
  obtain ⟨l, rfl, hl, hψ⟩ := hq
  refine k h1 t1 v _ _ hψ hl k1 ?_
  cases r1 with
  | list hL rs =>
    rename_i ax vs
    rintro s Q E rfl kq
    have hlt : ax < s.heap.objs.size := let ⟨_, live, _⟩ := hL; Heap.lt_size live
    have hlen : vs.length = l.length := rs.length
    refine wpAny_pyIter_list hL ?_
    have W := Walks.list (prog := C.prog) (w := C.w) hr.hh s.heap.objs.size ax (Nat.ne_of_lt hlt) vs.toArray
    rw [show vs.toArray.size = l.length by rw [List.size_toArray, hlen]] at W
    refine kq s.heap.objs.size _ _ _ _ W (fun i h st => ?_) (Keep.push _ _) (Heap.get?_none_of_le (Nat.le_refl _)) ?_ ⟨⟨_, Heap.get?_push_size _ rfl, rfl, rfl⟩, hL.push _⟩ ?_
    · obtain ⟨o, ho', hc, _⟩ := st.1
      exact ⟨o, ho', by rw [hc]; intro e; injection e with e; exact absurd e (by decide)⟩
    · intro b hb
      cases hb with
      | head => exact Heap.lt_size (Heap.get?_push_size _ rfl)
      | tail _ hb =>
        cases hb with
        | head => exact Nat.lt_of_lt_of_le hlt (by rw [Heap.size_push]; exact Nat.le_succ _)
        | tail _ hb => cases hb
    · intro i v hi hv
      have hv' : vs[i]? = some v := by simpa using hv
      obtain ⟨u, hu, hru⟩ := rs.get (j := i) (p := l[i]) (List.getElem?_eq_getElem hi)
      rw [hv'] at hu; cases hu
      show Rep s.heap v (l[i]?.getD .none)
      rw [List.getElem?_eq_getElem hi]; exact hru

theorem range_size (N : Nat) : Builtin.Range.rangeSize 0 (N : Int) 1 = (N : Int) := by
  rw [rangeSize_one]; split <;> omega
theorem range_small (N : Nat) (h : N ≤ 1000) : Builtin.Range.small 0 (N : Int) 1 = true :=
  small_one (by decide) (by decide) (by omega) (by omega)
theorem pure_inj' {α : Type} {a b : α} (h : (pure a : Sem α) = pure b) : a = b := by
  injection h
theorem EvSrc.range {e : Expr} {p1 pos : Pos} {ψ : Nat → (Nat → PV) → Prop} (F : Facts C) (hx : sc.names.lookup (Str.ofString "range") = some .globalImplicit)
    (h : Ev C sc n ρ e fun p => ∃ N : Nat, p = .int N ∧ N ≤ 1000 ∧ ψ N fun i => .int i)
    (he : ∀ env, starEach [e] env = (false, eval e env) :: starEach [] env := by intro _; rfl) :
    EvSrc C sc n ρ (.Call (.Name (Str.ofString "range") p1) [e] [] pos) ψ := by
  intro env A s Q E hs hp hr ho hnm k
  refine wpAny_Call_Name_kw (bname hs hp ho hx (F.built "range" _ rfl).1 (F.built "range" _ rfl).2 (by decide) (by decide) ?_)
  show wpAny C.M A (callWith pos (.type "range") [] (backTo pos (starEach [e] env)) []) Q E s
  have hs2 := (Evs.cons (es := []) (φ := fun ps => ∃ N : Nat, ps = [.int N] ∧ N ≤ 1000 ∧ ψ N fun i => .int i) (e := e) (C := C) (sc := sc) (n := n) (ρ := ρ) (by
    intro env A s Q E a b c d f k
    refine h env A s Q E a b c d f fun h' tk' v p hq kk rr => k h' tk' v p ?_ kk rr
    obtain ⟨N, rfl, h1, h2⟩ := hq
    exact Evs.nil ⟨N, rfl, h1, h2⟩) he) env A s (fun vs s₁ => wpAny C.M A (PySem.call (.type "range") ([] ++ vs) []) Q E s₁) E pos hs hp hr ho hnm fun h1 t1 vs ps hq k1 r1 => by
      obtain ⟨N, rfl, hN, hψ⟩ := hq
      obtain ⟨v, rfl, r⟩ := reps1 r1
      cases r
      rename_i t
      refine call_range_1 ?_
      refine k _ _ _ N _ hψ hN (k1.trans (.push _ _)) ?_
      rintro s' Q E hs' kq
      have hr' : IsRange s'.heap h1.objs.size 0 N 1 t1 t (t1 + 1) := by rw [hs']; exact Heap.get?_push_size _ rfl
      refine wpAny_pyIter_range hr' (range_small N hN) ?_
      rw [range_size]
      have W := LCg.range_walks (prog := C.prog) (w := C.w) (I := s'.heap.objs.size) hr.hh 0 N
      rw [← hs'] at kq
      refine kq s'.heap.objs.size _ _ _ _ W (fun i h st => ?_) (Keep.push _ _) (Heap.get?_none_of_le (Nat.le_refl _)) ?_ ?_ ?_
      · have st' : h.get? s'.heap.objs.size = some _ := st
        exact ⟨_, st', by intro e; injection e with e; exact absurd e (by decide)⟩
      · intro b hb
        show b < (s'.heap.push _).objs.size
        rw [Heap.size_push, List.mem_singleton.mp hb]; exact Nat.lt_succ_self _
      · show IsRangeIter _ _ _ _ _
        simpa using Heap.get?_push_size _ rfl
      · rintro i v hi ⟨t, rfl⟩
        rw [Int.zero_add]; exact .int _ _
  rw [he] at hs2 ⊢
  exact PyProof.Rows.callWith_type (by rfl) (evalArgs_plain hs2)

/-- the captured names, as the display finds them -/
def capsOk (scope sc : Scope) (ρ ρc : Loc) : Prop :=
  (scope.names.all fun z => z.2 != .free || ρc.any fun yp => z.1 == Str.ofString yp.1) = true ∧
  ∀ yp ∈ ρc, look ρ yp.1 = some yp.2 ∧ scope.names.lookup (Str.ofString yp.1) = some .free ∧ sc.names.lookup (Str.ofString yp.1) = some .cell
theorem look_mem : ∀ {ρ : Loc} {y : String} {p : PV}, look ρ y = some p → (y, p) ∈ ρ
  | (x, q) :: ρ, y, p, h => by
    unfold look at h
    rw [List.lookup_cons] at h
    by_cases e : y = x
    · subst e; simp at h; subst h; exact .head _
    · have hb : (y == x) = false := by simpa using e
      rw [hb] at h
      exact .tail _ (look_mem (ρ := ρ) h)
  | [], _, _, h => by simp [look] at h
theorem caps_env {scope : Scope} {env : Env} {h : Heap} {ρ ρc : Loc} (hk : env.scope.kind = .function) (hc : capsOk scope env.scope ρ ρc) (hn : Names env h ρ) :
    ∃ cl, closureFor scope env = pure cl ∧ ∀ y p, look ρc y = some p → (Str.ofString y == Str.ofString "__debug__") = false ∧ ∃ c v, (relS scope env.scope).names.lookup (Str.ofString y) = some .cell ∧ cl.lookup (Str.ofString y) = some c ∧ h.IsCell c (some v) ∧ Rep h v p := by
  have cellAt : ∀ yp ∈ ρc, (Str.ofString yp.1 == Str.ofString "__debug__") = false ∧ ∃ c v, env.cells.lookup (Str.ofString yp.1) = some c ∧ h.IsCell c (some v) ∧ Rep h v yp.2 := by
    intro yp hy
    obtain ⟨l1, _, l3⟩ := hc.2 yp hy
    obtain ⟨hd, v, hv, r⟩ := hn _ _ l1
    refine ⟨hd, ?_⟩
    cases hv with
    | loc m a b c => exact absurd (a.symm.trans l3) (by decide)
    | cell c a b d => exact ⟨c, v, b, d, r⟩
  obtain ⟨cl, e, hcl⟩ := closure_ok (scope := scope) (env := env) (fun z hz hzf => by
    have := List.all_eq_true.mp hc.1 z hz
    rw [hzf] at this
    simp only [bne_self_eq_false, Bool.false_or, List.any_eq_true] at this
    obtain ⟨yp, hyp, he⟩ := this
    have he : z.1 = Str.ofString yp.1 := by simpa using he
    obtain ⟨_, c, v, l1, _⟩ := cellAt yp hyp
    exact ⟨c, by rw [he]; exact l1⟩)
  refine ⟨cl, e, fun y p hy => ?_⟩
  have hm := look_mem hy
  obtain ⟨hd, c, v, l1, l2, l3⟩ := cellAt (y, p) hm
  obtain ⟨_, l5, l6⟩ := hc.2 (y, p) hm
  refine ⟨hd, c, v, lookup_relS_cell hk l5 l6, ?_, l2, l3⟩
  rw [hcl _ (mem_of_lookup l5) rfl]; exact l1
def scopeOk (scope : Scope) : Bool := scope.kind == .function && scope.names.all fun z => z.2 != .cell && (z.2 != .local || scope.names.lookup z.1 == some .local)
theorem scopeOk_kind {scope : Scope} (h : scopeOk scope = true) : scope.kind = .function := by
  unfold scopeOk at h; simp only [Bool.and_eq_true, beq_iff_eq] at h; exact h.1
theorem scopeOk_cell {scope : Scope} (h : scopeOk scope = true) : ∀ y ∈ scope.names, y.2 ≠ .cell := by
  unfold scopeOk at h; simp only [Bool.and_eq_true, List.all_eq_true] at h
  intro y hy; have := (h.2 y hy).1; simpa using this
theorem scopeOk_names {scope : Scope} (h : scopeOk scope = true) : ∀ y ∈ scope.names, y.2 = .local → scope.names.lookup y.1 = some .local := by
  unfold scopeOk at h; simp only [Bool.and_eq_true, List.all_eq_true] at h
  intro y hy hl; have := (h.2 y hy).2; rw [hl] at this; simpa using this

theorem Ev.comp {elt iter : Expr} {x : String} {px pos : Pos} {ifs : List Expr} {scope : Scope} (ρc : Loc) (J : Nat → List PV → Prop)
    (h : EvSrc C sc n ρ iter fun N qf => J 0 [] ∧ (∀ i acc, i < N → J i acc → Turn C (relS scope sc) n ((x, qf i) :: ρc) ifs elt (stepJ J i acc)) ∧ ∀ acc, (∀ p ∈ acc, Flat p) → J N acc → φ (.list acc))
    (hsc : scopeOk scope = true) (hcap : capsOk scope sc ρ ρc) (hx : scope.names.lookup (Str.ofString x) = some .local) (hxd : (Str.ofString x == Str.ofString "__debug__") = false)
    (hs : ∀ env v, foldedSetIterable iter env v = pure v := by intro _ _; rfl) :
    Ev C sc n ρ (.ListComp elt [⟨.Name (Str.ofString x) px, iter, ifs, 0⟩] scope pos) φ := by
  intro env A s Q E he hp hr ho hn k
  subst he
  obtain ⟨cl, hcl, -⟩ := caps_env hp.k hcap hn
  rw [eval_ListComp]
  refine wpAny_comprehension_free (use := none) (cl := cl) rfl (hs env) hcl (scopeOk_kind hsc) (scopeOk_names hsc) ?_
  refine h env A s _ E rfl hp hr ho hn fun h1 t1 v N qf hψ hN k1 src => ?_
  obtain ⟨J0, turn, fin⟩ := hψ
  obtain ⟨cl', hcl', hc⟩ := caps_env hp.k hcap (hn.keep k1)
  have hcc : cl' = cl := by
    have := hcl'.symm.trans hcl
    exact pure_inj' this
  subst hcc
  refine src _ _ _ rfl fun I h₂ fp P S W hI kb hIb hfp hS hP => ?_
  refine comp_block (RR := fun acc Cc => compPost C.M A E none Q acc Cc) hp hr W hN hI kb hIb hfp hS (ho.keep k1) hP (scopeOk_cell hsc) (scopeOk_kind hsc) hx hxd hc J0 turn ?_
  intro D Cc h' tk acc ys m' hD hC hDC kb' hnC hL rs fl hJ
  refine ⟨m', hnC, fun h'' hs'' => ?_⟩
  have kk : ∀ b o, b ≠ Cc → h'.get? b = some o → h''.get? b = some o := fun b o hb e => hs''.extBut b o hb e
  refine k h'' tk (.ref D) (.list acc) (fin acc fl hJ) (k1.trans fun b o e => kk b o (ne_of_none hC e) (kb' b o e)) ?_
  refine .list (vs := ys.toList) (by simpa using hL.extBut hs''.extBut hDC) (flat_reps (TupKeep.but (ns_no_tup hnC) kk) fl rs)
end
section
variable {C : Cx} {sc : Scope} {n : Nat} {ρ : Loc} {φ : PV → Prop} {Φ : Out → Prop}
/-- a change of a namespace that is none of the frame's -/
theorem St.but {env : Env} {h₀ h h' : Heap} {a : Addr} {m : Str → Option Value} (x : St C env h₀ h ρ) (hn : h.Ns a m) (ha : a ≠ env.locals) (h0 : h₀.get? a = none) (kb : ∀ b o, b ≠ a → h.get? b = some o → h'.get? b = some o) : St C env h₀ h' ρ := by
  obtain ⟨m', F⟩ := x.fr
  have sk : SeqKeep h h' := SeqKeep.extBut hn kb
  refine ⟨⟨m', F.ns.at' (fun o e => kb _ o (Ne.symm ha) e), fun b o e => kb b o (ne_of_none h0 e) (F.keep b o e), F.above⟩, x.ok, fun y q e => ?_⟩
  obtain ⟨d, u, hv, hr⟩ := x.names y q e
  refine ⟨d, u, ?_, hr.sk sk⟩
  cases hv with
  | loc m₂ a' b c => exact .loc m₂ a' (b.at' fun o e => kb _ o (Ne.symm ha) e) c
  | cell c a' b dd =>
    obtain ⟨o, ho, hdat⟩ := dd
    refine .cell c a' b ⟨o, kb _ o ?_ ho, hdat⟩
    rintro rfl
    obtain ⟨o', es, ep, ho', hd', _⟩ := hn
    rw [ho] at ho'; cases ho'; rw [hdat] at hd'; cases hd'
theorem St.nk₀ {env : Env} {h₀ h : Heap} (x : St C env h₀ h ρ) {a : Addr} (e : h.get? a = none) : h₀.get? a = none ∧ a ≠ env.locals := by
  obtain ⟨m', F⟩ := x.fr
  refine ⟨none_of_keep F.keep e, ?_⟩
  rintro rfl
  obtain ⟨o, es, ep, ho, _⟩ := F.ns
  rw [e] at ho; cases ho

/-- y = [a display], the display's names let go of after the store -/
theorem Ex1.assignComp {y : String} {elt iter : Expr} {x : String} {px py pos spos : Pos} {ifs : List Expr} {scope : Scope} (ρc : Loc) (J : Nat → List PV → Prop)
    (h : EvSrc C sc n ρ iter fun N qf => J 0 [] ∧ (∀ i acc, i < N → J i acc → Turn C (relS scope sc) n ((x, qf i) :: ρc) ifs elt (stepJ J i acc)) ∧ ∀ acc, (∀ p ∈ acc, Flat p) → J N acc → Φ (.next ((y, .list acc) :: ρ)))
    (hsc : scopeOk scope = true) (hcap : capsOk scope sc ρ ρc) (hx : scope.names.lookup (Str.ofString x) = some .local) (hxd : (Str.ofString x == Str.ofString "__debug__") = false)
    (hy : sc.names.lookup (Str.ofString y) = some .local) (hyd : (Str.ofString y == Str.ofString "__debug__") = false)
    (hsw : ∀ env : Env, env.scope = sc → swapsWith (.ListComp elt [⟨.Name (Str.ofString x) px, iter, ifs, 0⟩] scope pos) (some (.Name (Str.ofString y) py)) spos.line env = pure true)
    (hs : ∀ env v, foldedSetIterable iter env v = pure v := by intro _ _; rfl) :
    Ex1 C sc n ρ (.Assign [.Name (Str.ofString y) py] (.ListComp elt [⟨.Name (Str.ofString x) px, iter, ifs, 0⟩] scope pos) spos) Φ := by
  intro env A h₀ s Q E he hp hr hst kn kr
  have hn := hst.names
  rw [exec_Assign_Name_used _ _ _ _ (hsw env he)]
  subst he
  obtain ⟨cl, hcl, -⟩ := caps_env hp.k hcap hn
  -- the display with its store behind it; the rest of the statement does nothing more
  suffices used : ∀ at_, wpAny C.M A (comprehension (.ListComp elt [⟨.Name (Str.ofString x) px, iter, ifs, 0⟩] scope pos) scope env at_ (newList []) false (eval iter env) (some (PySem.assign (.Name (Str.ofString y) py) env))) (fun _ => Q .next) E s from
    wpAny_bind (wpAny_standAt (wpAny_bind (wpAny_bind (wpAny_mono (used _) (fun _ _ q => wpAny_pure (wpAny_pure q)) fun _ _ z => z))))
  intro at_
  refine wpAny_comprehension_free (cl := cl) rfl (hs env) hcl (scopeOk_kind hsc) (scopeOk_names hsc) ?_
  refine h env A s _ E rfl hp hr hst.okh hn fun h1 t1 v N qf hψ hN k1 src => ?_
  obtain ⟨J0, turn, fin⟩ := hψ
  have hst1 := hst.keep k1
  obtain ⟨cl', hcl', hc⟩ := caps_env hp.k hcap hst1.names
  have hcc : cl' = cl := pure_inj' (hcl'.symm.trans hcl)
  subst hcc
  refine src _ _ _ rfl fun I h₂ fp P S W hI kb hIb hfp hS hP => ?_
  refine comp_block (RR := fun acc Cc => compPost C.M A E (some (PySem.assign (.Name (Str.ofString y) py) env)) (fun _ s' => Q .next s') acc Cc) hp hr W hN hI kb hIb hfp hS hst1.okh hP (scopeOk_cell hsc) (scopeOk_kind hsc) hx hxd hc J0 turn ?_
  intro D Cc h' tk acc ys m' hD hC hDC kb' hnC hL rs fl hJ
  show wpAny _ A (PySem.assign (.Name (Str.ofString y) py) env (.ref D)) _ _ _
  have hst' := hst1.keep kb'
  obtain ⟨hC0, hCL⟩ := hst1.nk₀ hC
  have rep : Rep h' (.ref D) (.list acc) := .list (vs := ys.toList) (by simpa using hL) rs
  refine PyProof.Rows.assign_Name (store_ rfl hp hst' hy hyd rep fun h3 t3 hst3 sk3 kf3 => ?_)
  have hnC3 : h3.Ns Cc m' := hnC.at' fun o e => kf3 _ o hCL (fun v e' => by
    obtain ⟨o', es, ep, ho', hd', _⟩ := hnC
    rw [e] at ho'; cases ho'; rw [hd'] at e'; cases e') e
  refine ⟨m', hnC3, fun h'' hs'' => ?_⟩
  have kk : ∀ b o, b ≠ Cc → h3.get? b = some o → h''.get? b = some o := fun b o hb e => hs''.extBut b o hb e
  refine kn h'' t3 _ (fin acc fl hJ) (hst3.but hnC3 hCL hC0 kk) fun b o e1 e2 e3 => ?_
  have e4 := kf3 b o e1 e2 (kb' b o (k1 b o e3))
  exact kk b o (ne_of_none hC (k1 b o e3)) e4

/-! min of a list, len of a list -/
/-- values that stand for ints, as numbers with their marks -/
theorem marked {h : Heap} : ∀ {ns : List Int} {vs : List Value}, Reps h vs (ns.map .int) → ∃ xs : List (Int × Tok), vs.toArray = intItems xs.toArray ∧ xs.map (·.1) = ns
  | [], _, r => by cases r; exact ⟨[], by simp [intItems], rfl⟩
  | a :: ns, _, r => by
    cases r with
    | cons r1 rs =>
      cases r1 with
      | int i t =>
        obtain ⟨xs, e1, e2⟩ := marked rs
        have e3 := congrArg Array.toList e1
        refine ⟨(a, t) :: xs, ?_, by rw [List.map_cons, e2]⟩
        apply Array.toList_inj.mp
        simpa [intItems] using e3
theorem b_minlist {ns : List Int} (hne : 0 < ns.length) (h : ∀ M, M ∈ ns → (∀ a ∈ ns, M ≤ a) → φ (.int M)) : BuiltOK C (.builtin "min") [.list (ns.map .int)] φ := by
  intro A s Q E us hh hu ho r k
  obtain ⟨u, rfl, r1⟩ := reps1 r
  cases r1 with
  | list isL rs =>
    obtain ⟨xs, ea, rfl⟩ := marked rs
    rw [ea] at isL
    have len : (xs.map (·.1)).length = xs.length := List.length_map ..
    have nth : ∀ j, (xs.map (·.1))[j]?.getD 0 = numAt xs.toArray j := fun j => by simp [numAt]
    have some_ : ∀ j, j < xs.length → (xs.map (·.1))[j]? = some (numAt xs.toArray j) := fun j hj => by
      rw [← nth, List.getElem?_eq_getElem (len.symm ▸ hj)]; rfl
    have some1 : 0 < xs.toArray.size := by rw [List.size_toArray]; omega
    refine min_intList hh isL some1 fun v h' tk is kept => ?_
    obtain ⟨t, rfl⟩ := intItems_at is
    have low := argBest_lt (numAt xs.toArray) (xs.toArray.size - 1)
    have size : xs.toArray.size = xs.length := List.size_toArray ..
    have inner := low.1
    refine k h' tk _ _ (h _ (List.mem_of_getElem? (some_ _ (by omega))) fun a ha => ?_) kept (.int _ _)
    obtain ⟨j, hj, e⟩ := List.mem_iff_getElem.mp ha
    have e' := some_ j (by omega)
    rw [List.getElem?_eq_getElem hj, e] at e'
    rw [Option.some.inj e']
    exact low.2 j (by omega)
theorem b_len {l : List PV} (hl : l.length ≤ 1000) (h : φ (.int l.length)) : BuiltOK C (.builtin "len") [.list l] φ := by
  intro A s Q E vs hh hu ho r k
  obtain ⟨v, rfl, r1⟩ := reps1 r
  cases r1 with
  | list hL rs =>
    rename_i a vs
    have e : vs.toArray.size = l.length := by rw [List.size_toArray, rs.length]
    refine PyProof.Rows.len_list hL (by rw [e]; omega) ?_
    rw [e]
    exact k s.heap _ _ _ h (.refl _) (.int _ _)
end
theorem bindsD {x : String} {params : Arguments} {body : List Stmt} {scope : Scope} {ps dfl : List PV} {ρ₀ : Loc} (xs : List String) {args : List Arg} {kd : List (Option Expr)} {de : List Expr}
    (hp : params = { posonlyargs := [], args := args, vararg := none, kwonlyargs := [], kw_defaults := kd, kwarg := none, defaults := de }) (hxs : args.map (·.arg) = xs.map Str.ofString) (hnd : xs.Nodup)
    (h1 : ps.length.ble xs.length = true) (h2 : dfl.length.ble xs.length = true) (h3 : xs.length.ble (ps.length + dfl.length) = true) (hρ : ρ₀ = (xs.zip (ps ++ dfl.drop (ps.length + dfl.length - xs.length))).reverse) : Binds x params body scope ps dfl ρ₀ := by
  have h1 := Nat.le_of_ble_eq_true h1
  have h2 := Nat.le_of_ble_eq_true h2
  have h3 := Nat.le_of_ble_eq_true h3
  intro dV kV doc pm an cdv ct s vs r hdv
  have hal : args.length = xs.length := by have := congrArg List.length hxs; simpa using this
  have hnd' : (args.map (·.arg)).Nodup := by
    rw [hxs, List.nodup_iff_pairwise_ne, List.pairwise_map]
    rw [List.nodup_iff_pairwise_ne] at hnd
    exact hnd.imp fun a b => a (ofString_inj b)
  have hvl := r.length
  obtain ⟨opt, ds, ho, hsq, rds⟩ : ∃ (opt : Option (Array Value)) (ds : List Value), (opt.getD #[]).toList = ds ∧
      (∀ (M : Model) (A : Around) (E : Value → Shared → Prop) (Q : Option (Array Value) → Shared → Prop), Q opt s → wpAny M A (seqItems? dV) Q E s) ∧ Reps s.heap ds dfl := by
    rcases hdv with ⟨rfl, rfl⟩ | ⟨_, T, o, ds, m, rfl, e2, e3, e4⟩
    · exact ⟨none, [], rfl, fun M A E Q hq => wpAny_pure hq, .nil⟩
    · exact ⟨some ds.toArray, ds, by simp, fun M A E Q hq => wpAny_seqItems e2 e3 hq, e4⟩
  have hdl := rds.length
  refine ⟨_, bind_gen (fd := fnOf (Str.ofString x) (Str.ofString x) params body scope dV kV doc pm an cdv ct) (args := args) (opt := opt) (ds := ds) hp hnd' (by omega) (by omega) (by omega) ho hsq, ?_⟩
  rw [hρ, hxs]
  have e : vs.length + ds.length - args.length = ps.length + dfl.length - xs.length := by omega
  rw [e]
  exact BRep.zip xs (r.append (rds.drop _)) (by rw [List.length_append, List.length_drop]; omega)

theorem bindL_is (kd : Str → Option NameKind) (y : Str) (hy : kd y = some .local) : ∀ (bs : List (Str × Value)) (m : Str → Option Value), bindL kd bs m y = (match bs.reverse.lookup y with | some v => some v | none => m y)
  | [], m => by simp [bindL]
  | (n, v) :: r, m => by
    unfold bindL
    rw [bindL_is kd y hy r, List.reverse_cons, List.lookup_append]
    cases hq : List.lookup y r.reverse with
    | some u => simp
    | none =>
      by_cases e : y = n
      · subst e; simp [hy]
      · have hb : (y == n) = false := by simpa using e
        simp only [Option.none_or, List.lookup_cons, hb, List.lookup_nil]
        split
        · simp [e]
        · rfl
theorem bindC_is (kd : Str → Option NameKind) (y : Str) (hy : kd y = some .cell) : ∀ (bs : List (Str × Value)) (m : Str → Option Value), bindC kd bs m y = (match bs.reverse.lookup y with | some v => some v | none => m y)
  | [], m => by simp [bindC]
  | (n, v) :: r, m => by
    unfold bindC
    rw [bindC_is kd y hy r, List.reverse_cons, List.lookup_append]
    cases hq : List.lookup y r.reverse with
    | some u => simp
    | none =>
      by_cases e : y = n
      · subst e
        have : ¬ kd y = some .local := by rw [hy]; decide
        simp [this]
      · have hb : (y == n) = false := by simpa using e
        simp only [Option.none_or, List.lookup_cons, hb, List.lookup_nil]
        split
        · rfl
        · simp [e]
theorem cells_some {names : List (Str × NameKind)} {n n' : Nat} {y : Str} (h : ((cellsFrom n names []).lookup y).isSome = true) : ((cellsFrom n' names []).lookup y).isSome = true := by
  have e := cellsFrom_names names n n' [] [] rfl
  have : y ∈ (cellsFrom n names []).map (·.1) := by
    obtain ⟨c, hc⟩ := Option.isSome_iff_exists.mp h
    exact List.mem_map.mpr ⟨_, mem_of_lookup hc, rfl⟩
  rw [e] at this
  obtain ⟨⟨a, b⟩, hm, rfl⟩ := List.mem_map.mp this
  have gen : ∀ (l : List (Str × Addr)), (a, b) ∈ l → (l.lookup a).isSome = true := by
    intro l
    induction l with
    | nil => intro h; cases h
    | cons q l ih =>
      intro h
      obtain ⟨u, w⟩ := q
      rw [List.lookup_cons]
      split
      · rfl
      · rename_i hb
        rcases List.mem_cons.mp h with e | h
        · cases e; simp at hb
        · exact ih h
  exact gen _ hm
def namesOkC (sc : Scope) (ρ : Loc) : Bool := ρ.all fun y => (sc.names.lookup (Str.ofString y.1) == some .local || (sc.names.lookup (Str.ofString y.1) == some .cell && ((cellsFrom 0 sc.names []).lookup (Str.ofString y.1)).isSome)) && !(Str.ofString y.1 == Str.ofString "__debug__")
theorem look_okC {sc : Scope} {ρ : Loc} {x : String} {p : PV} (hn : namesOkC sc ρ = true) (e : look ρ x = some p) :
    (sc.names.lookup (Str.ofString x) = some .local ∨ sc.names.lookup (Str.ofString x) = some .cell ∧ ((cellsFrom 0 sc.names []).lookup (Str.ofString x)).isSome = true) ∧ (Str.ofString x == Str.ofString "__debug__") = false := by
  have hm := look_mem e
  have := List.all_eq_true.mp hn _ hm
  simp only [Bool.and_eq_true, Bool.or_eq_true, beq_iff_eq, Bool.not_eq_true'] at this
  exact this
theorem brep_locsC {sc : Scope} {h : Heap} {bs : List (Str × Value)} {ρ : Loc} (b : BRep h bs ρ) : namesOkC sc ρ = true → ∀ y ∈ bs, sc.names.lookup y.1 = some .local ∨ (sc.names.lookup y.1 = some .cell ∧ ((cellsFrom 0 sc.names []).lookup y.1).isSome = true) := by
  induction b with
  | nil => intro _ y hy; cases hy
  | cons _ _ ih =>
    intro hn y hy
    rcases List.mem_cons.mp hy with rfl | hy
    · have := List.all_eq_true.mp hn _ (.head _)
      simp only [Bool.and_eq_true, Bool.or_eq_true, beq_iff_eq, Bool.not_eq_true'] at this
      exact this.1
    · exact ih (by unfold namesOkC at hn ⊢; rw [List.all_cons, Bool.and_eq_true] at hn; exact hn.2) y hy

/-- a def with cells -/
theorem callC {C : Cx} {n : Nat} {x : String} {params : Arguments} {body : List Stmt} {scope : Scope} {ps dfl : List PV} {ρ₀ : Loc} {φ : PV → Prop} (hd : DefAt C x params body scope dfl) (hb : Binds x params body scope ps dfl ρ₀)
    (hn : namesOkC scope ρ₀ = true) (hco : scope.isCoroutine = false) (hgen : scope.isGenerator = false) (hk : scope.kind = .function)
    (h : ∀ (env : Env) (A : Around) (h₀ : Heap) (s : Shared) (Q : Flow → Shared → Prop) (E : Value → Shared → Prop), env.scope = scope → Plain env → Room n A → St C env h₀ s.heap ρ₀ →
      (∀ y, ((cellsFrom 0 scope.names []).lookup y).isSome = true → ∃ c v₀, env.cells.lookup y = some c ∧ s.heap.IsCell c v₀ ∧ h₀.get? c = none ∧ c ≠ env.locals) →
      (∀ h' tk' ρ', toRet φ (.next ρ') → St C env h₀ h' ρ' → Q .next { s with heap := h', toks := tk' }) →
      (∀ h' tk' v p, toRet φ (.ret p) → Keep h₀ h' → Rep h' v p → Q (.ret v) { s with heap := h', toks := tk' }) → wpAny C.M A (execs body env) Q E s) : CallOK C (n + 1) x ps φ := by
  intro f' hf' A s Q E vs hr ho r k
  obtain ⟨f, oc, od, osl, dV, kV, doc, pm, an, cdv, ct, h1, h2, h3, h4⟩ := hd
  rw [h1] at hf'; cases hf'
  obtain ⟨binds, hbt, brep⟩ := hb dV kV doc pm an cdv ct s vs r (by
    rcases h4 with h4 | ⟨e0, T, o, ds, m, e1, e2, e3, e4⟩
    · exact .inl h4
    · exact .inr ⟨e0, T, o, ds, m, e1, ho.X _ _ e2, e3, e4 _ ho.X⟩)
  have hlocs := brep_locsC brep hn
  refine wpAny_call (codeAny_call_function (fd := fnOf (Str.ofString x) (Str.ofString x) params body scope dV kV doc pm an cdv ct) (by have := hr.d; omega) (ho.X _ _ h2) rfl hco hgen rfl (codeRec_of ho.X h3) (hbt _ _ _ _ ?_))
  refine wpAny_newFunctionEnv_cells hk (fun y hy => ?_) fun env' he s' X => ?_
  · rcases hlocs y (List.mem_reverse.mpr hy) with h | ⟨h, h'⟩
    · exact .inl h
    · exact .inr ⟨h, cells_some h'⟩
  subst he
  refine ⟨ho.T.nolimit.keeps X.toInCall.keep, codeAny_func ?_⟩
  obtain ⟨h₁, tk, rfl, _⟩ := X.done
  have hk₁ := X.toInCall.keep
  refine h _ (A.deeper _) s.heap { s with heap := h₁, toks := tk } _ _ rfl ⟨rfl, rfl, hk⟩ (hr.deeper _) ⟨⟨_, ⟨X.toInCall.ns, hk₁, Nat.le_refl _⟩⟩, ho, ?_⟩ ?_ (fun h' tk' ρ' hq hst => ?_) fun h' tk' v p hq kk rr => ?_
  · intro y p e
    obtain ⟨v, hv, hr'⟩ := (brep.keep hk₁).look e
    obtain ⟨l1, l2⟩ := look_okC hn e
    refine ⟨l2, v, ?_, hr'⟩
    rcases l1 with l1 | ⟨l1, l3⟩
    · exact .loc _ l1 X.toInCall.ns (by rw [bindL_is _ _ l1, hv])
    · obtain ⟨c, hc⟩ := Option.isSome_iff_exists.mp (cells_some (n' := s.heap.objs.size + 1) l3)
      refine .cell c l1 hc ?_
      have := X.cell _ c hc
      rw [bindC_is _ _ l1, hv] at this
      exact this
  · intro y hy
    obtain ⟨c, hc⟩ := Option.isSome_iff_exists.mp (cells_some (n' := s.heap.objs.size + 1) hy)
    have hab := X.above _ c (mem_of_lookup hc)
    refine ⟨c, _, hc, X.cell _ c hc, Heap.get?_none_of_le ?_, Ne.symm (Nat.ne_of_lt hab)⟩
    exact Nat.le_trans (Nat.le_refl _) (Nat.le_of_lt hab)
  · exact k h' tk' .none .none hq hst.keep₀ .none
  · exact k h' tk' v p hq kk rr
theorem callCd {C : Cx} {n : Nat} {x : String} {params : Arguments} {body : List Stmt} {scope : Scope} {ps dfl : List PV} {ρ₀ : Loc} {φ : PV → Prop} (hd : DefAt C x params body scope dfl) (hb : Binds x params body scope ps dfl ρ₀)
    (hn : namesOkC scope ρ₀ = true) (hco : scope.isCoroutine = false) (hgen : scope.isGenerator = false) (hk : scope.kind = .function) (h : Ex C scope n ρ₀ body (toRet φ)) : CallOK C (n + 1) x ps φ :=
  callC hd hb hn hco hgen hk fun env A h₀ s Q E a b c d _ k1 k2 => h env A h₀ s Q E a b c d (fun h' tk' ρ' p q _ => k1 h' tk' ρ' p q) k2
/-- the first statement stores a cell, once -/
theorem callCs {C : Cx} {n : Nat} {x y : String} {params : Arguments} {e : Expr} {rest : List Stmt} {py spos : Pos} {scope : Scope} {ps dfl : List PV} {ρ₀ : Loc} {φ : PV → Prop}
    (hd : DefAt C x params (.Assign [.Name (Str.ofString y) py] e spos :: rest) scope dfl) (hb : Binds x params (.Assign [.Name (Str.ofString y) py] e spos :: rest) scope ps dfl ρ₀)
    (hn : namesOk scope ρ₀ = true) (hco : scope.isCoroutine = false) (hgen : scope.isGenerator = false) (hk : scope.kind = .function)
    (hy : scope.names.lookup (Str.ofString y) = some .cell) (hyc : ((cellsFrom 0 scope.names []).lookup (Str.ofString y)).isSome = true) (hyd : (Str.ofString y == Str.ofString "__debug__") = false)
    (hsw : ∀ env : Env, swapsWith e (some (.Name (Str.ofString y) py)) spos.line env = pure false)
    (h : Ev C scope n ρ₀ e fun p => Ex C scope n ((y, p) :: ρ₀) rest (toRet φ)) : CallOK C (n + 1) x ps φ := by
  have hnC : namesOkC scope ρ₀ = true := by
    unfold namesOkC
    rw [List.all_eq_true]
    intro z hz
    have := List.all_eq_true.mp hn z hz
    simp only [Bool.and_eq_true, beq_iff_eq, Bool.not_eq_true'] at this
    simp only [Bool.and_eq_true, Bool.or_eq_true, beq_iff_eq, Bool.not_eq_true']
    exact ⟨.inl this.1, this.2⟩
  refine callC hd hb hnC hco hgen hk fun env A h₀ s Q E hs hp hr hst hcells k1 k2 => ?_
  refine wpAny_execs_cons ?_
  refine wpAny_Assign_Name (h env A s _ E hs hp hr hst.okh hst.names fun h1 t1 v p hq kk rr => ?_) (hsw env)
  obtain ⟨c, v₀, hc, hcv, hc0, hcL⟩ := hcells _ hyc
  have hst1 := hst.keep kk
  obtain ⟨oc, hoc, hdc⟩ := hcv
  have hkc : env.kindOf (Str.ofString y) = some .cell := by unfold Env.kindOf; rw [hs]; exact hy
  refine wpAny_storeName_cell hp.k hkc hc ⟨oc, kk _ _ hoc, hdc⟩ fun h2 hv2 hs2 => ?_
  have kb : ∀ b o, b ≠ c → h1.get? b = some o → h2.get? b = some o := fun b o hb e => hs2.extBut b o hb e
  have sk : SeqKeep h1 h2 := fun b o its q e d => kb b o (by rintro rfl; rw [kk _ _ hoc] at e; cases e; rw [hdc] at d; cases d) e
  have hst2 : St C env h₀ h2 ((y, p) :: ρ₀) := by
    obtain ⟨m', F⟩ := hst1.fr
    refine ⟨⟨m', F.ns.at' (fun o e => kb _ o (Ne.symm hcL) e), fun b o e => kb b o (ne_of_none hc0 e) (F.keep b o e), F.above⟩, hst1.ok, fun z q e => ?_⟩
    unfold look at e
    rw [List.lookup_cons] at e
    by_cases ez : z = y
    · subst ez
      simp only [beq_self_eq_true] at e
      cases e
      exact ⟨hyd, v, .cell c hkc hc hv2, rr.sk sk⟩
    · have hbq : (z == y) = false := by simpa using ez
      rw [hbq] at e
      obtain ⟨d, u, hv, hr'⟩ := hst1.names z q e
      have hzl := (look_ok hn e).1
      refine ⟨d, u, ?_, hr'.sk sk⟩
      cases hv with
      | loc m₂ a' b cc => exact .loc m₂ a' (b.at' fun o e => kb _ o (Ne.symm hcL) e) cc
      | cell c' a' b dd =>
        have : env.kindOf (Str.ofString z) = some .local := by unfold Env.kindOf; rw [hs]; exact hzl
        rw [this] at a'; cases a'
  exact hq env A h₀ { s with heap := h2, toks := t1 } Q E hs hp hr hst2 (fun h' tk' ρ' a b _ => k1 h' tk' ρ' a b) k2
theorem fd2 (a : Int) {b c : Int} (hb : 0 < b) (hc : 0 < c) : (a.fdiv b).fdiv c = a.fdiv (b * c) := by
  rw [Int.fdiv_eq_ediv_of_nonneg _ (Int.le_of_lt hb), Int.fdiv_eq_ediv_of_nonneg _ (Int.le_of_lt hc), Int.fdiv_eq_ediv_of_nonneg _ (Int.le_of_lt (Int.mul_pos hb hc)), Int.ediv_ediv, if_neg (fun h => absurd h.1 (by omega)), Int.sub_zero]
theorem fdiv_signs {s t : Int} (hs : s = 0 ∨ s = 1) (ht : t = 0 ∨ t = 1) (M B : Nat) : (sgn s M).fdiv (sgn t B) = (sgn (if s = t then 0 else 1) M).fdiv (B : Int) := by
  rcases hs with rfl | rfl <;> rcases ht with rfl | rfl
  · rfl
  · show ((M : Int)).fdiv (-(B : Int)) = (-(M : Int)).fdiv (B : Int)
    have := Int.neg_fdiv_neg (M : Int) (-(B : Int))
    rw [Int.neg_neg] at this
    exact this.symm
  · rfl
  · show (-(M : Int)).fdiv (-(B : Int)) = ((M : Int)).fdiv (B : Int)
    exact Int.neg_fdiv_neg _ _
theorem div_core {s : Int} (hs : s = 0 ∨ s = 1) {m i l j X q r : Nat} (hq : m * 2 ^ X = q * l + r) (hr : r < l) (hi : i ≤ X) :
    (r = 0 → (sgn s q).fdiv (2 ^ (j + X - i)) = (sgn s (m * 2 ^ i)).fdiv ((l * 2 ^ j : Nat) : Int)) ∧ (r ≠ 0 → (sgn s (2 * q + 1)).fdiv (2 ^ (j + X + 1 - i)) = (sgn s (m * 2 ^ i)).fdiv ((l * 2 ^ j : Nat) : Int)) := by
  have hl : (0 : Int) < (l : Int) := by omega
  have hD := pow_pos_int (j + X - i)
  have key : (sgn s (m * 2 ^ i)).fdiv ((l * 2 ^ j : Nat) : Int) = ((sgn s (q * l + r)).fdiv l).fdiv (2 ^ (j + X - i)) := by
    rw [fd2 _ hl hD, ← hq]
    have e1 := Int.mul_fdiv_mul_of_pos_left (sgn s (m * 2 ^ i)) ((l * 2 ^ j : Nat) : Int) (pow_pos_int X)
    have e2 := Int.mul_fdiv_mul_of_pos_left (sgn s (m * 2 ^ X)) ((l : Int) * 2 ^ (j + X - i)) (pow_pos_int i)
    rw [← e1, ← e2]
    congr 1
    · rw [sgn_mul_pow, sgn_mul_pow, Int.mul_assoc, Int.mul_assoc, Int.mul_comm (2 ^ i)]
    · push_cast
      rw [Int.mul_assoc, Int.mul_assoc, ← Int.pow_add, ← Int.pow_add, show j + X - i + i = j + X by omega]
  rw [key]
  have hlq : ((q * l + r : Nat) : Int) = (q : Int) * l + r := by push_cast; rfl
  refine ⟨fun h0 => ?_, fun h0 => ?_⟩
  · subst h0
    congr 1
    rcases hs with rfl | rfl
    · show (q : Int) = ((q * l + 0 : Nat) : Int).fdiv l
      rw [hlq, Int.fdiv_eq_ediv_of_nonneg _ (by omega)]
      simp [Int.mul_ediv_cancel _ (show (l : Int) ≠ 0 by omega)]
    · show -(q : Int) = (-((q * l + 0 : Nat) : Int)).fdiv l
      rw [hlq, Int.fdiv_eq_ediv_of_nonneg _ (by omega)]
      rw [show -((q : Int) * l + (0 : Nat)) = (-(q : Int)) * l by rw [Int.neg_mul]; omega, Int.mul_ediv_cancel _ (show (l : Int) ≠ 0 by omega)]
  · rw [show j + X + 1 - i = (j + X - i) + 1 by omega, Int.pow_succ, Int.mul_comm, ← fd2 _ (by decide) hD]
    congr 1
    rcases hs with rfl | rfl
    · show ((2 * q + 1 : Nat) : Int).fdiv 2 = ((q * l + r : Nat) : Int).fdiv l
      rw [hlq, Int.fdiv_eq_ediv_of_nonneg _ (by omega), Int.fdiv_eq_ediv_of_nonneg _ (by omega)]
      rw [Int.add_comm ((q : Int) * l), Int.add_mul_ediv_right _ _ (show (l : Int) ≠ 0 by omega), Int.ediv_eq_zero_of_lt (a := (r : Int)) (b := (l : Int)) (by omega) (by omega)]
      omega
    · show (-((2 * q + 1 : Nat) : Int)).fdiv 2 = (-((q * l + r : Nat) : Int)).fdiv l
      rw [hlq, Int.fdiv_eq_ediv_of_nonneg _ (by omega), Int.fdiv_eq_ediv_of_nonneg _ (by omega)]
      rw [show -((q : Int) * l + r) = ((l : Int) - r) + (-(q : Int) - 1) * l by rw [Int.sub_mul, Int.neg_mul]; omega, Int.add_mul_ediv_right _ _ (show (l : Int) ≠ 0 by omega), Int.ediv_eq_zero_of_lt (a := (l : Int) - r) (b := (l : Int)) (by omega) (by omega)]
      omega
theorem rdN_le {s : Int} (hs : s = 0 ∨ s = 1) (Q k : Nat) (hQ : Q ≠ 0) : rdN sf s Q k ≤ Q := by
  rcases hs with rfl | rfl
  · rw [rdN_f0]; exact Nat.div_le_self _ _
  · rw [rdN_f1]
    unfold upN
    have hp := Nat.two_pow_pos k
    generalize 2 ^ k = d at *
    obtain ⟨d, rfl⟩ : ∃ x, d = x + 1 := ⟨d - 1, by omega⟩
    obtain ⟨Q, rfl⟩ : ∃ x, Q = x + 1 := ⟨Q - 1, by omega⟩
    refine Nat.div_le_of_le_mul ?_
    rw [Nat.add_mul, Nat.mul_add]
    have := Nat.zero_le (d * Q)
    omega
theorem ok_div {C : Cx} (F : Facts C) (n : Nat) {a b e : Int} (hb0 : b ≠ 0) (ha : bits a ≤ 1500) (hb : bits b ≤ 1500) {φ : PV → Prop} (h : ∀ (x : Int) (k : Nat), x.fdiv (2 ^ k) = a.fdiv b → bits x ≤ 30000 → k ≤ 30000 → φ (mk x (-(k : Int)))) :
    CallOK C (n + 4) "mpf_div" [mk a e, mk b e, .int 2000, .str sf] φ := by
  refine callD (show DefAt C "mpf_div" _ _ _ _ from F.defs "mpf_div" _ rfl) ["s", "t", "prec", "rnd"] (ρ₀ := [("rnd", .str sf), ("prec", .int 2000), ("t", mk b e), ("s", mk a e)]) rfl rfl (by decide) rfl rfl rfl rfl rfl (by decide) rfl rfl rfl ?_
  obtain ⟨tg, l, j, ht, hl, rfl⟩ := raw b hb0
  have hbj : bits (l : Int) + j ≤ 1500 := by rw [bits_sgn, bits_mul_pow (by omega)] at hb; exact hb
  by_cases ha0 : a = 0
  · subst ha0
    have h0 := h 0 0 (by rw [Int.zero_fdiv, Int.zero_fdiv]) (by have := bits_zero; omega) (by omega)
    rw [mk_zero] at h0
    rw [mk_zero, mk_sgn ht hl]
    repeat (walk_at "mine auto")
    refine And.intro (fun g => absurd (of_decide_eq_true g) (by simp <;> omega)) (fun _ => ?_)
    repeat (walk_at "mine auto")
    refine And.intro (fun g => absurd (of_decide_eq_true g) (by simp <;> omega)) (fun _ => ?_)
    repeat (walk_at "mine auto")
    exact h0
  · obtain ⟨sg, m, i, hs, hm, rfl⟩ := raw a ha0
    have hbi : bits (m : Int) + i ≤ 1500 := by rw [bits_sgn, bits_mul_pow (by omega)] at ha; exact ha
    rw [mk_sgn hs hm, mk_sgn ht hl]
    obtain ⟨s2, hs2, hx⟩ : ∃ s2 : Int, (s2 = 0 ∨ s2 = 1) ∧ (if sg = tg then (0 : Int) else 1) = s2 := ⟨_, ite01 _, rfl⟩
    have hfd : (sgn sg (m * 2 ^ i)).fdiv (sgn tg (l * 2 ^ j)) = (sgn s2 (m * 2 ^ i)).fdiv ((l * 2 ^ j : Nat) : Int) := by rw [fdiv_signs hs ht, hx]
    rw [hfd] at h
    have tail : ∀ (Q X : Nat), Q ≠ 0 → bits (Q : Int) ≤ 2010 → i + 100 ≤ X → X ≤ 5000 → (sgn s2 Q).fdiv (2 ^ (j + X - i)) = (sgn s2 (m * 2 ^ i)).fdiv ((l * 2 ^ j : Nat) : Int) → ∀ ρ, look ρ "sign" = some (.int s2) → look ρ "quot" = some (.int Q) → look ρ "sexp" = some (.int (e + i)) → look ρ "texp" = some (.int (e + j)) → look ρ "extra" = some (.int X) → look ρ "prec" = some (.int 2000) → look ρ "rnd" = some (.str sf) → (match stOf "mpf_div" with
        | .FunctionDef _ params body _ _ _ scope _ _ _ => Ex C scope (n + 3) ρ (body.drop 9) (toRet φ)
        | _ => True) := by
      intro Q X hQ hbQ hiX hX hF ρ l1 l2 l3 l4 l5 l6 l7
      show Ex C _ (n + 3) ρ (List.drop 9 _) (toRet φ)
      refine Ex.cons (st := ?_) (ss := ?_) ?_
      repeat (walk_at "mine auto")
      refine CallOK.mono (ok_normalize F n rfl hs2 (fun _ => ?_) (fun k _ hk hk1 => ⟨.inr (.inl rfl), by decide, by omega, ?_⟩) (φ := φ)) fun p hp => ?_
      · have := h (sgn s2 Q) (j + X - i) hF (by rw [bits_sgn]; omega) (by omega)
        rw [show e + (i : Int) - (e + (j : Int)) - (X : Int) = -((j + X - i : Nat) : Int) by omega]
        exact this
      · have hRI := RI_f (sgn s2 Q) k
        rw [RI_sgn hs2 hQ (by omega)] at hRI
        have := h (sgn s2 (rdN sf s2 Q k)) (j + X - i - k) (by
          rw [hRI, fd2 _ (pow_pos_int k) (pow_pos_int _), ← Int.pow_add, show k + (j + X - i - k) = j + X - i by omega]; exact hF) (by
          rw [bits_sgn]
          have := bits_mono (x := ((rdN sf s2 Q k : Nat) : Int)) (y := (Q : Int)) (by simpa using rdN_le hs2 Q k hQ)
          omega) (by omega)
        rw [show e + (i : Int) - (e + (j : Int)) - (X : Int) + (k : Int) = -((j + X - i - k : Nat) : Int) by omega]
        exact this
      · repeat (walk_at "mine auto")
        exact hp
    repeat (walk_at "mine auto")
    rw [odd_int hm]
    repeat (walk_at "mine auto")
    rw [odd_int hl]
    repeat (walk_at "mine auto")
    rw [xor_sign hs ht, hx]
    repeat (walk_at "mine auto")
    refine And.intro (fun g => ?_) (fun g => ?_)
    · have hl1 : l = 1 := by have := of_decide_eq_true g; omega
      subst hl1
      repeat (walk_at "mine auto")
      refine CallOK.mono (ok_norm0 F n rfl hs2 (.inr (by omega)) (φ := φ) ?_) fun p hp => ?_
      · have := h (sgn s2 m * 2 ^ i) j (by rw [← sgn_mul_pow]; congr 1; push_cast; omega) (by rw [← sgn_mul_pow, bits_sgn, bits_mul_pow (by omega)]; omega) (by omega)
        rw [mk_shift] at this
        rw [show e + (i : Int) - (e + (j : Int)) = -(j : Int) + (i : Int) by omega]
        exact this
      · repeat (walk_at "mine auto")
        exact hp
    · repeat (walk_at "mine auto")
      obtain ⟨X, hX⟩ := Int.eq_ofNat_of_zero_le (a := (2000 : Int) - (bits (m : Int) : Nat) + (bits (l : Int) : Nat) + 5) (by omega)
      rw [hX]
      refine And.intro (fun g => absurd (of_decide_eq_true g) (by omega)) (fun _ => ?_)
      repeat (walk_at "mine auto")
      refine s_shl (by omega) (by unfold bits at *; omega) ?_
      rw [shl_nat]
      repeat (walk_at "mine auto")
      have hm0 : m ≠ 0 := by omega
      have hbX := bits_mul_pow hm0 X
      have lt1 : l < 2 ^ bits (l : Int) := by have := @bits_le (l : Int) (bits (l : Int)); rw [Int.natAbs_natCast] at this; exact this.mp (Nat.le_refl _)
      refine b_divmod (by omega) ?_ ?_
      · rw [Int.natAbs_natCast]
        exact Nat.lt_of_lt_of_le lt1 (Nat.pow_le_pow_right (by decide) (by omega))
      · have ed : Int.fdiv ((m * 2 ^ X : Nat) : Int) (l : Int) = ((m * 2 ^ X / l : Nat) : Int) := by
          rw [Int.fdiv_eq_ediv_of_nonneg _ (by omega)]; push_cast; rfl
        have em : Int.fmod ((m * 2 ^ X : Nat) : Int) (l : Int) = ((m * 2 ^ X % l : Nat) : Int) := by
          rw [Int.fmod_eq_emod_of_nonneg _ (by omega)]; push_cast; rfl
        rw [ed, em]
        have hdm := Nat.div_add_mod (m * 2 ^ X) l
        have hrl := Nat.mod_lt (m * 2 ^ X) (show 0 < l by omega)
        have hge : l ≤ m * 2 ^ X := by
          refine Nat.le_trans (Nat.le_of_lt lt1) (Nat.le_trans (Nat.pow_le_pow_right (by decide) (show bits (l : Int) ≤ X by omega)) (Nat.le_mul_of_pos_left _ (by omega)))
        have hq0 : m * 2 ^ X / l ≠ 0 := by have := Nat.div_pos hge (show 0 < l by omega); omega
        have hqb : bits ((m * 2 ^ X / l : Nat) : Int) ≤ 2006 := by
          refine bits_le.mpr ?_
          rw [Int.natAbs_natCast]
          have b1 : 2 ^ (bits (l : Int) - 1) ≤ l := bits_lt.mp (by have := @bits_lt l 0; omega)
          have b2 : m * 2 ^ X < 2 ^ (bits (m : Int) + X) := by
            have := @bits_le ((m * 2 ^ X : Nat) : Int) (bits (m : Int) + X); rw [Int.natAbs_natCast] at this; exact this.mp (by omega)
          rw [Nat.div_lt_iff_lt_mul (by omega)]
          refine Nat.lt_of_lt_of_le b2 (Nat.le_trans ?_ (Nat.mul_le_mul_left (2 ^ 2006) b1))
          rw [← Nat.pow_add]
          have hl0 := @bits_lt l 0
          exact Nat.pow_le_pow_right (by decide) (by omega)
        generalize m * 2 ^ X / l = q at *
        generalize m * 2 ^ X % l = r at *
        have core := div_core hs2 (m := m) (l := l) (X := X) (i := i) (j := j) (q := q) (r := r) (by rw [Nat.mul_comm q l]; exact hdm.symm) hrl (show i ≤ X by omega)
        repeat (walk_at "mine auto")
        refine And.intro (fun g => ?_) (fun g => ?_)
        · have g1 : r ≠ 0 := by have := bne_t g; omega
          refine Ex.cons ?_
          repeat (walk_at "mine expr")
          refine s_shl (by decide) (by unfold bits at hqb; omega) ?_
          repeat (walk_at "mine expr")
          refine Ex.cons ?_
          repeat (walk_at "mine expr")
          rw [show (q : Int) * 2 ^ (1 : Int).toNat + 1 = ((2 * q + 1 : Nat) : Int) by rw [show (1 : Int).toNat = 1 from rfl]; omega, show (X : Int) + 1 = ((X + 1 : Nat) : Int) by omega]
          have hb2 : bits ((2 * q + 1 : Nat) : Int) ≤ 2007 := by
            have h3 := bits_le.mp hqb
            rw [Int.natAbs_natCast] at h3
            refine bits_le.mpr ?_
            rw [Int.natAbs_natCast, Nat.pow_succ]
            omega
          exact tail (2 * q + 1) (X + 1) (by omega) (by omega) (by omega) (by omega) (core.2 g1) _ rfl rfl rfl rfl rfl rfl rfl
        · have g1 : r = 0 := by have := bne_f g; omega
          repeat (walk_at "mine expr")
          exact tail q X hq0 (by omega) (by omega) (by omega) (core.1 g1) _ rfl rfl rfl rfl rfl rfl rfl
theorem sum_take (as : List Int) (i : Nat) (h : i < as.length) : (as.take (i + 1)).sum = (as.take i).sum + as[i] := by
  rw [List.take_succ_eq_append_getElem h, List.sum_append]; simp
theorem ok_sum {C : Cx} (F : Facts C) (n : Nat) {as : List Int} (hl : as.length ≤ 1000) (hb : ∀ a ∈ as, bits a ≤ 30000) {φ : PV → Prop} (h : φ (mk as.sum 0)) : CallOK C (n + 3) "mpf_sum" [.list (as.map fun a => mk a 0)] φ := by
  refine callD (show DefAt C "mpf_sum" _ _ _ _ from F.defs "mpf_sum" _ rfl) ["xs", "prec", "rnd", "absolute"] (ρ₀ := [("absolute", .bool false), ("rnd", .str sd), ("prec", .int 0), ("xs", .list (as.map fun a => mk a 0))]) rfl rfl (by decide) rfl rfl rfl rfl rfl (by decide) rfl rfl rfl ?_
  repeat (walk_at "mine auto")
  refine b_int ?_
  repeat (walk_at "mine auto")
  refine s_mul ?_ (by decide)
  repeat (walk_at "mine auto")
  refine Ex1.for (fun i ρ => look ρ "man" = some (.int (as.take i).sum) ∧ look ρ "exp" = some (.int 0) ∧ look ρ "max_extra_prec" = some (.int 1000000) ∧ look ρ "special" = some .none ∧ look ρ "absolute" = some (.bool false) ∧ look ρ "prec" = some (.int 0) ∧ look ρ "rnd" = some (.str sd)) ?_ rfl (by decide)
  repeat (walk_at "mine auto")
  refine ⟨by rw [List.length_map]; exact hl, ⟨rfl, rfl, rfl, rfl, rfl, rfl, rfl⟩, ?_, ?_⟩
  · rintro i q ρ hq ⟨l1, l2, l3, l4, l5, l6, l7⟩
    have hi : i < as.length := by
      rcases Nat.lt_or_ge i as.length with g | g
      · exact g
      · rw [List.getElem?_eq_none (by rw [List.length_map]; exact g)] at hq; cases hq
    rw [List.getElem?_map, List.getElem?_eq_getElem hi] at hq
    have hq' : mk as[i] 0 = q := by simpa using hq
    subst hq'
    have hbi := hb as[i] (List.getElem_mem hi)
    have hsum := sum_take as i hi
    generalize as[i] = a at *
    generalize (as.take i).sum = S at *
    by_cases ha : a = 0
    · subst ha
      rw [mk_zero]
      repeat (walk_at "mine auto")
      exact ⟨by rw [hsum, Int.add_zero]; exact l1, l2, l3, l4, l5, l6, l7⟩
    · obtain ⟨sg, m, j, hs, hm, rfl⟩ := raw a ha
      have hbj : bits (m : Int) + j ≤ 30000 := by rw [bits_sgn, bits_mul_pow (by omega)] at hbi; exact hbi
      rw [mk_sgn hs hm]
      repeat (walk_at "mine auto")
      rw [odd_int hm]
      refine k_t ?_
      refine Ex.cut (fun ρ => look ρ "xman" = some (.int (sgn sg m)) ∧ look ρ "xexp" = some (.int (0 + j)) ∧ look ρ "man" = some (.int S) ∧ look ρ "exp" = some (.int 0) ∧ look ρ "max_extra_prec" = some (.int 1000000) ∧ look ρ "special" = some .none ∧ look ρ "absolute" = some (.bool false) ∧ look ρ "prec" = some (.int 0) ∧ look ρ "rnd" = some (.str sd)) ?_ ?_
      · rcases hs with rfl | rfl
        · repeat (walk_at "mine auto")
          exact ⟨rfl, rfl, l1, l2, l3, l4, l5, l6, l7⟩
        · repeat (walk_at "mine auto")
          exact ⟨rfl, rfl, l1, l2, l3, l4, l5, l6, l7⟩
      · rintro ρ ⟨k1, k2, k3, k4, k5, k6, k7, k8, k9⟩
        repeat (walk_at "mine step")
        refine And.intro (fun _ => ?_) (fun g => absurd (of_decide_eq_false g) (by omega))
        repeat (walk_at "mine step")
        refine And.intro (fun g => absurd (of_decide_eq_true g) (by omega)) (fun _ => ?_)
        repeat (walk_at "mine step")
        refine s_shl (by omega) (by have := bits_sgn sg m; unfold bits at *; omega) ?_
        rw [show ((0 : Int) + (j : Int) - 0).toNat = j by omega, ← sgn_mul_pow]
        repeat (walk_at "mine step")
        exact ⟨by rw [hsum]; rfl, k4, k5, k6, k7, k8, k9⟩
  · rintro ρ ⟨l1, l2, l3, l4, l5, l6, l7⟩
    rw [List.length_map, List.take_length] at l1
    repeat (walk_at "mine auto")
    refine CallOK.mono (ok_fme F n h) fun p hp => ?_
    repeat (walk_at "mine auto")
    exact hp
theorem intBits_big (x : Int) (k : Nat) (h : bits x ≤ k) : x.natAbs < 2 ^ k := bits_le.mp h
theorem bits_add_small {x y : Int} {k j : Nat} (hx : bits x ≤ k) (hy : bits y ≤ j) : bits (x + y) ≤ max k j + 1 := by
  have := intBits_add_le hx hy
  exact this
theorem ok_mixed {C : Cx} (F : Facts C) (n : Nat) {l : List Int} {k : Nat} (hl : l.length ≤ 1000) (hb : ∀ a ∈ l, bits a ≤ 1100000) (hk : k ≤ 100) {φ : PV → Prop} (h : ∀ r : Int, 0 ≤ r → bits r ≤ 1100000 → φ (.int r)) :
    CallOK C (n + 1) "_law_mixed" [.list (l.map .int), .int k] φ := by
  refine callD (show DefAt C "_law_mixed" _ _ _ _ from F.defs "_law_mixed" _ rfl) ["script", "k"] (ρ₀ := [("k", .int k), ("script", .list (l.map .int))]) rfl rfl (by decide) rfl rfl rfl rfl rfl (by decide) rfl rfl rfl ?_
  refine Ex.cut (fun ρ => ∃ N : Int, bits N ≤ 1100000 ∧ look ρ "n" = some (.int N) ∧ look ρ "k" = some (.int k)) ?_ ?_
  · repeat (walk_at "mine auto")
    refine b_len (by rw [List.length_map]; exact hl) ?_
    repeat (walk_at "mine auto")
    rw [List.length_map]
    refine And.intro (fun g => ?_) (fun _ => ?_)
    · have g1 : k < l.length := by have := of_decide_eq_true g; omega
      refine Ev.index ?_
      repeat (walk_at "mine auto")
      refine ⟨_, k, .int l[k], rfl, rfl, by omega, by omega, ?_, ?_⟩
      · rw [Int.toNat_natCast, List.getElem?_map, List.getElem?_eq_getElem g1]; rfl
      · repeat (walk_at "mine auto")
        exact ⟨_, hb _ (List.getElem_mem g1), rfl, rfl⟩
    · repeat (walk_at "mine auto")
      exact ⟨0, by have := bits_zero; omega, rfl, rfl⟩
  · rintro ρ ⟨N, hN, l1, l2⟩
    repeat (walk_at "mine auto")
    refine s_pow2 (by decide) (by decide) ?_
    repeat (walk_at "mine auto")
    refine And.intro (fun g => ?_) (fun _ => ?_)
    · repeat (walk_at "mine auto")
      refine h N ?_ hN
      have g1 := of_decide_eq_true g
      have := pow_pos_int (64 : Int).toNat
      omega
    · have e1 : Builtin.Int.intBits (6364136223846793005 : Int) ≤ 64 := by have : bits (6364136223846793005 : Int) ≤ 64 := bits_le.mpr (by decide); exact this
      have e2 : Builtin.Int.intBits (1442695040888963407 : Int) ≤ 64 := by have : bits (1442695040888963407 : Int) ≤ 64 := bits_le.mpr (by decide); exact this
      have e3 : Builtin.Int.intBits ((k : Int) + 1) ≤ 7 := by
        have : bits ((k : Int) + 1) ≤ 7 := bits_le.mpr (by rw [show ((k : Int) + 1).natAbs = k + 1 by omega]; omega)
        exact this
      unfold bits at hN
      repeat (walk_at "mine auto")
      refine s_mul ?_ (by omega)
      repeat (walk_at "mine auto")
      refine s_mul ?_ (by omega)
      repeat (walk_at "mine auto")
      refine s_pow2 (by decide) (by decide) ?_
      repeat (walk_at "mine auto")
      have hp := pow_pos_int (190 : Int).toNat
      refine s_mod (by omega) ?_
      repeat (walk_at "mine auto")
      have hb2 := fmod_bounds (N * 6364136223846793005 + ((k : Int) + 1) * 1442695040888963407) (190 : Int).toNat
      refine h _ hb2.1 ?_
      have := bits_fmod (N * 6364136223846793005 + ((k : Int) + 1) * 1442695040888963407) (190 : Int).toNat
      exact Nat.le_trans this (by decide)
theorem ok_raw {C : Cx} (F : Facts C) (n : Nat) {r : Int} (h0 : 0 ≤ r) (hb : bits r ≤ 1100000) {φ : PV → Prop} (h : ∀ a e, bits a ≤ 41 → -30 ≤ e → e ≤ 30 → φ (mk a e)) :
    CallOK C (n + 1) "_law_raw" [.int r, .int 40, .int 30] φ := by
  refine callD (show DefAt C "_law_raw" _ _ _ _ from F.defs "_law_raw" _ rfl) ["rich", "bits", "spread"] (ρ₀ := [("spread", .int 30), ("bits", .int 40), ("rich", .int r)]) rfl rfl (by decide) rfl rfl rfl rfl rfl (by decide) rfl rfl rfl ?_
  refine Ex.cut (fun ρ => ∃ K e m : Int, -30 ≤ e ∧ e ≤ 30 ∧ 0 ≤ m ∧ look ρ "kind" = some (.int K) ∧ look ρ "e" = some (.int e) ∧ look ρ "m" = some (.int m) ∧ look ρ "rich" = some (.int r) ∧ look ρ "bits" = some (.int 40)) ?_ ?_
  · refine Ex1.swap (xs := ["kind", "e", "m"]) ?_ (by decide) (by intro _; rfl) (by rintro ⟨⟩ h; cases h; rfl)
    repeat (walk_at "mine auto")
    refine s_div (by decide) (by decide) ?_
    repeat (walk_at "mine auto")
    refine s_mod (by decide) ?_
    repeat (walk_at "mine auto")
    refine s_div (by decide) (by decide) ?_
    repeat (walk_at "mine auto")
    refine s_mul ?_ (by decide)
    repeat (walk_at "mine auto")
    refine s_mod (by decide) ?_
    repeat (walk_at "mine auto")
    refine s_pow2 (by decide) (by decide) ?_
    repeat (walk_at "mine auto")
    refine s_div (by decide) (by decide) ?_
    repeat (walk_at "mine auto")
    refine ⟨_, .inl rfl, rfl, k_next ?_⟩
    refine ⟨_, _, _, ?_, ?_, ?_, rfl, rfl, rfl, rfl, rfl⟩
    · have := Int.fmod_nonneg_of_pos (r.fdiv 16) (b := 2 * 30 + 1) (by decide); omega
    · have := Int.fmod_lt_of_pos (r.fdiv 16) (b := 2 * 30 + 1) (by decide); omega
    · rw [Int.fdiv_eq_ediv_of_nonneg _ (by decide)]; exact Int.ediv_nonneg h0 (by decide)
  · rintro ρ ⟨K, e, m, he1, he2, hm0, l1, l2, l3, l4, l5⟩
    repeat (walk_at "mine step")
    refine And.intro (fun g => ?_) (fun _ => ?_)
    · repeat (walk_at "mine auto")
      have := h 0 0 (by decide) (by decide) (by decide)
      rw [mk_zero] at this
      exact this
    · refine Ex.nil ?_
      refine k_next ?_
      have hm40 := Int.fmod_nonneg_of_pos m (b := 40) (by decide)
      have hm40' := Int.fmod_lt_of_pos m (b := 40) (by decide)
      have hm39 := Int.fmod_nonneg_of_pos m (b := 40 - 1) (by decide)
      have hm39' := Int.fmod_lt_of_pos m (b := 40 - 1) (by decide)
      obtain ⟨x, hx⟩ := Int.eq_ofNat_of_zero_le hm40
      obtain ⟨y, hy⟩ := Int.eq_ofNat_of_zero_le hm39
      have hpx : (2 : Nat) ^ (x + 1) ≤ 2 ^ 40 := Nat.pow_le_pow_right (by decide) (by omega)
      have hpy : (2 : Nat) ^ (y + 1) ≤ 2 ^ 40 := Nat.pow_le_pow_right (by decide) (by omega)
      have epx : (2 : Int) ^ ((1 : Int) + (x : Int)).toNat = ((2 ^ (x + 1) : Nat) : Int) := by rw [show ((1 : Int) + (x : Int)).toNat = x + 1 by omega]; push_cast; rfl
      have epy : (2 : Int) ^ ((1 : Int) + (y : Int)).toNat = ((2 ^ (y + 1) : Nat) : Int) := by rw [show ((1 : Int) + (y : Int)).toNat = y + 1 by omega]; push_cast; rfl
      refine Ex.cut (fun ρ => ∃ M : Nat, M % 2 = 1 ∧ M < 2 ^ 41 ∧ look ρ "man" = some (.int M) ∧ look ρ "kind" = some (.int K) ∧ look ρ "e" = some (.int e) ∧ look ρ "m" = some (.int m) ∧ look ρ "rich" = some (.int r) ∧ look ρ "bits" = some (.int 40)) ?_ ?_
      · repeat (walk_at "mine step")
        refine s_mod (by decide) ?_
        rw [hx]
        repeat (walk_at "mine step")
        refine s_pow2 (by omega) (by omega) ?_
        rw [epx]
        repeat (walk_at "mine step")
        have hp0 := Nat.two_pow_pos (x + 1)
        refine s_mod (by omega) ?_
        have hf1 := Int.fmod_nonneg_of_pos m (b := ((2 ^ (x + 1) : Nat) : Int)) (by omega)
        have hf2 := Int.fmod_lt_of_pos m (b := ((2 ^ (x + 1) : Nat) : Int)) (by omega)
        generalize m.fmod ((2 ^ (x + 1) : Nat) : Int) = u at *
        repeat (walk_at "mine step")
        refine s_div (by decide) (by decide) ?_
        rw [Int.fdiv_eq_ediv_of_nonneg _ (by decide)]
        repeat (walk_at "mine step")
        refine s_mul ?_ ?_
        · repeat (walk_at "mine step")
          exact ⟨(u / 2 * 2 + 1).toNat, by omega, by omega, by rw [show (((u / 2 * 2 + 1).toNat : Nat) : Int) = u / 2 * 2 + 1 by omega]; rfl, l1, l2, l3, l4, l5⟩
        · have h2 : bits (u / 2) ≤ 40 := bits_le.mpr (by omega)
          have h3 : Builtin.Int.intBits 2 ≤ 2 := by decide
          unfold bits at h2; omega
      · rintro ρ ⟨M, hM1, hM2, k1, k2, k3, k4, k5, k6⟩
        refine Ex.cut (fun ρ => ∃ M : Nat, M % 2 = 1 ∧ M < 2 ^ 41 ∧ look ρ "man" = some (.int M) ∧ look ρ "e" = some (.int e) ∧ look ρ "rich" = some (.int r)) ?_ ?_
        · repeat (walk_at "mine step")
          refine And.intro (fun g => ?_) (fun _ => ?_)
          · repeat (walk_at "mine step")
            exact ⟨1, by decide, by decide, rfl, k3, k5⟩
          · repeat (walk_at "mine step")
            refine And.intro (fun g => ?_) (fun _ => ?_)
            · repeat (walk_at "mine step")
              refine s_mod (by decide) ?_
              rw [hx]
              repeat (walk_at "mine step")
              refine s_pow2 (by omega) (by omega) ?_
              rw [epx]
              repeat (walk_at "mine step")
              have hp0 := Nat.two_pow_pos x
              have e2 : 2 ^ (x + 1) = 2 * 2 ^ x := by rw [Nat.pow_succ]; omega
              exact ⟨2 ^ (x + 1) - 1, by omega, by omega, by rw [show ((2 ^ (x + 1) - 1 : Nat) : Int) = ((2 ^ (x + 1) : Nat) : Int) - 1 by omega]; rfl, k3, k5⟩
            · repeat (walk_at "mine step")
              refine And.intro (fun g => ?_) (fun _ => ?_)
              · repeat (walk_at "mine auto")
                refine s_mod (by decide) ?_
                rw [hy]
                repeat (walk_at "mine step")
                refine s_pow2 (by omega) (by omega) ?_
                rw [epy]
                repeat (walk_at "mine step")
                have e2 : 2 ^ (y + 1) = 2 * 2 ^ y := by rw [Nat.pow_succ]; omega
                exact ⟨2 ^ (y + 1) + 1, by omega, by omega, by rw [show ((2 ^ (y + 1) + 1 : Nat) : Int) = ((2 ^ (y + 1) : Nat) : Int) + 1 by omega]; rfl, k3, k5⟩
              · repeat (walk_at "mine step")
                exact ⟨M, hM1, hM2, k1, k3, k5⟩
        · rintro ρ ⟨M, hM1, hM2, k1, k2, k3⟩
          repeat (walk_at "mine step")
          refine s_mod (by decide) ?_
          repeat (walk_at "mine step")
          have hs : r.fmod 2 = 0 ∨ r.fmod 2 = 1 := by
            have := Int.fmod_nonneg_of_pos r (b := 2) (by decide)
            have := Int.fmod_lt_of_pos r (b := 2) (by decide)
            omega
          have := h (sgn (r.fmod 2) (M * 2 ^ 0)) e (by rw [bits_sgn]; refine bits_le.mpr ?_; rw [Int.natAbs_natCast]; simpa using hM2) he1 he2
          rw [mk_sgn hs hM1, show e + ((0 : Nat) : Int) = e by omega] at this
          exact this
theorem Ev.cstr {C : Cx} {sc : Scope} {n : Nat} {ρ : Loc} {φ : PV → Prop} {x : Str} {k : Nat} {pos : Pos} (h : φ (.str x)) : Ev C sc n ρ (.Constant (.str x) k pos) φ :=
  fun env A s Q E hs hp hr ho hn q => wpAny_Constant_str (q s.heap _ _ _ h (.refl _) (.str _ _))
theorem ne_mk {C : Cx} {φ : PV → Prop} {a b e f : Int} (he : mk a e = mk b f) (h : φ (.bool false)) : Step2 C (compareOp .NotEq) (mk a e) (mk b f) φ := by
  rw [he]
  obtain ⟨x, y, z, w, e1, _⟩ := mk_nums b f
  rw [e1]
  exact c_net (by rw [decide_eq_true rfl]; exact h)
theorem eq_mk {C : Cx} {φ : PV → Prop} {a b e f : Int} (he : mk a e = mk b f) (h : φ (.bool true)) : Step2 C (compareOp .Eq) (mk a e) (mk b f) φ := by
  rw [he]
  obtain ⟨x, y, z, w, e1, _⟩ := mk_nums b f
  rw [e1]
  exact c_eqt (by rw [decide_eq_true rfl]; exact h)
theorem fdiv_natAbs_le (a b : Int) (hb : b ≠ 0) : (a.fdiv b).natAbs ≤ a.natAbs + 1 := by
  have h1 := Int.mul_fdiv_add_fmod a b
  have h2 := fmod_natAbs_lt a b hb
  generalize hq : a.fdiv b = q at *
  generalize a.fmod b = r at *
  rcases Nat.lt_or_ge (a.natAbs + 1) q.natAbs with g | g
  · exfalso
    have h3 : (b * q).natAbs ≤ a.natAbs + r.natAbs := by omega
    rw [Int.natAbs_mul] at h3
    have h4 : b.natAbs * (a.natAbs + 2) ≤ b.natAbs * q.natAbs := Nat.mul_le_mul_left _ (by omega)
    rw [Nat.mul_add] at h4
    have h5 : a.natAbs ≤ b.natAbs * a.natAbs := Nat.le_mul_of_pos_left _ (by omega)
    omega
  · exact g
theorem bits_fdiv (a b : Int) (hb : b ≠ 0) : bits (a.fdiv b) ≤ bits a + 1 := by
  refine bits_le.mpr ?_
  have h1 := fdiv_natAbs_le a b hb
  have h2 := bits_le.mp (Nat.le_refl (bits a))
  rw [Nat.pow_succ]; omega
theorem bits_mul_le {x y : Int} {j k : Nat} (hx : bits x ≤ j) (hy : bits y ≤ k) : bits (x * y) ≤ j + k := intBits_mul_le hx hy
theorem fmod_neg_neg (a b : Int) : (-a).fmod (-b) = -(a.fmod b) := Int.neg_fmod_neg a b
theorem sign_fmod (a b : Int) (hb : b ≠ 0) : ¬ (a.fmod b).sign * b.sign < 0 := by
  have key : ∀ r c : Int, 0 ≤ r → 0 < c → ¬ r.sign * c.sign < 0 := by
    intro r c h1 h
    rw [Int.sign_eq_one_of_pos h]
    have := Int.sign_nonneg_iff.mpr h1
    omega
  rcases Int.lt_or_gt_of_ne hb with h | h
  · have h1 := Int.fmod_nonneg_of_pos (-a) (b := -b) (by omega)
    rw [Int.neg_fmod_neg] at h1
    have := key _ _ h1 (show 0 < -b by omega)
    rw [Int.sign_neg, Int.sign_neg, Int.neg_mul_neg] at this
    exact this
  · exact key _ _ (Int.fmod_nonneg_of_pos a h) h
theorem ok_rest {C : Cx} (F : Facts C) (n : Nat) {a b c e f N : Int} (hb0 : b ≠ 0) (hc : 0 < c) (ha : bits a ≤ 400) (hb : bits b ≤ 400) (hcb : bits c ≤ 100) (he : -1000 ≤ e ∧ e ≤ 1000) (hf : -1000 ≤ f ∧ f ≤ 1000) (hN : bits N ≤ 100) {φ : PV → Prop} (h : φ (.bool true)) :
    CallOK C (n + 8) "_law_rest_right" [mk a e, mk b e, .int N, mk c f] φ := by
  refine callD (show DefAt C "_law_rest_right" _ _ _ _ from F.defs "_law_rest_right" _ rfl) ["s", "t", "n", "w"] (ρ₀ := [("w", mk c f), ("n", .int N), ("t", mk b e), ("s", mk a e)]) rfl rfl (by decide) rfl rfl rfl rfl rfl (by decide) rfl rfl rfl ?_
  have hr1 : bits (a.fmod b) ≤ 400 := Nat.le_trans (bits_mono (Nat.le_of_lt (fmod_natAbs_lt a b hb0))) hb
  have hq1 : bits (a.fdiv b) ≤ 401 := Nat.le_trans (bits_fdiv a b hb0) (by omega)
  repeat (walk_at "mine auto")
  refine ok_mod F (n + 3) hb0 (by omega) (by omega) (by omega) ?_
  repeat (walk_at "mine auto")
  refine Ev.cstr ?_
  repeat (walk_at "mine auto")
  refine ok_div F (n + 3) hb0 (by omega) (by omega) fun x k hx hbx hk => ?_
  repeat (walk_at "mine auto")
  refine Ev.cstr ?_
  repeat (walk_at "mine auto")
  refine ok_to_int F (n + 4) (by omega) (by omega) (.inr (.inr rfl)) (.inl rfl) ?_
  rw [RI_f, hx]
  repeat (walk_at "mine auto")
  refine Ev.cstr ?_
  repeat (walk_at "mine auto")
  refine ok_div F (n + 3) hb0 (by omega) (by omega) fun x2 k2 hx2 hbx2 hk2 => ?_
  repeat (walk_at "mine auto")
  refine ok_floor F (n + 1) (by omega) ?_
  rw [hx2]
  repeat (walk_at "mine auto")
  refine ok_from_int F (n + 4) ?_
  refine ne_mk rfl ?_
  repeat (walk_at "mine auto")
  have hsz : bits b + bits (a.fdiv b) ≤ 1900 := by omega
  have hmb := bits_mul_le hb hq1
  refine ok_mul_int F (n + 3) hb0 hsz ?_
  repeat (walk_at "mine auto")
  refine ok_add F (n + 3) (prec := 0) (sub := 0) (rnd := sd) (by omega) (by omega) (.inl rfl) (.inl rfl) (.inr ⟨rfl, rfl, rfl, rfl⟩) fun p hp => ?_
  rw [hp.1 rfl, if_pos rfl, Int.mul_fdiv_add_fmod]
  repeat (walk_at "mine auto")
  refine ne_mk rfl ?_
  repeat (walk_at "mine auto")
  refine ok_abs F (n + 6) ?_
  repeat (walk_at "mine auto")
  refine ok_abs F (n + 6) ?_
  repeat (walk_at "mine auto")
  refine ok_lt F n (by rw [bits_natAbs]; omega) (by rw [bits_natAbs]; omega) ?_
  rw [decide_eq_true (show (((a.fmod b).natAbs : Nat) : Int) < ((b.natAbs : Nat) : Int) by have := fmod_natAbs_lt a b hb0; omega)]
  repeat (walk_at "mine auto")
  refine ok_sign F (n + 6) ?_
  repeat (walk_at "mine auto")
  refine ok_sign F (n + 6) ?_
  have hsb : ∀ z : Int, Builtin.Int.intBits z.sign ≤ 1 := by
    intro z
    have : bits z.sign ≤ 1 := bits_le.mpr (by
      rcases Int.lt_trichotomy z 0 with g | g | g
      · rw [Int.sign_eq_neg_one_of_neg g]; decide
      · subst g; decide
      · rw [Int.sign_eq_one_of_pos g]; decide)
    exact this
  refine s_mul ?_ (by have := hsb (a.fmod b); have := hsb b; omega)
  repeat (walk_at "mine auto")
  rw [decide_eq_false (sign_fmod a b hb0)]
  repeat (walk_at "mine auto")
  have hbN := bits_mul_le hb hN
  refine ok_mul_int F (n + 3) hb0 (by omega) ?_
  repeat (walk_at "mine auto")
  refine ok_add F (n + 3) (prec := 0) (sub := 0) (rnd := sd) (by omega) (by omega) (.inl rfl) (.inl rfl) (.inr ⟨rfl, rfl, rfl, rfl⟩) fun p hp => ?_
  rw [hp.1 rfl, if_pos rfl]
  have hs1 := bits_add_small ha hbN
  repeat (walk_at "mine auto")
  refine ok_mod F (n + 3) hb0 (by omega) (by omega) (by omega) ?_
  rw [Int.add_mul_fmod_self_left]
  repeat (walk_at "mine auto")
  refine ne_mk rfl ?_
  repeat (walk_at "mine auto")
  refine ok_neg F (n + 6) ?_
  repeat (walk_at "mine auto")
  refine ok_neg F (n + 6) ?_
  repeat (walk_at "mine auto")
  refine ok_mod F (n + 3) (by omega) (by rw [bits_neg]; omega) (by rw [bits_neg]; omega) (by omega) ?_
  rw [fmod_neg_neg]
  repeat (walk_at "mine auto")
  refine ok_neg F (n + 6) ?_
  refine ne_mk rfl ?_
  repeat (walk_at "mine auto")
  refine ok_mul F (n + 6) (by omega) (by omega) ?_
  repeat (walk_at "mine auto")
  refine ok_mul F (n + 6) (by omega) (by omega) ?_
  have ha2 := bits_mul_le ha hcb
  have hb2 := bits_mul_le hb hcb
  repeat (walk_at "mine auto")
  refine ok_mod F (n + 3) (Int.mul_ne_zero hb0 (by omega)) (by omega) (by omega) (by omega) ?_
  rw [Int.mul_comm a c, Int.mul_comm b c, Int.mul_fmod_mul_of_pos _ _ hc, Int.mul_comm c]
  repeat (walk_at "mine auto")
  refine ok_mul F (n + 6) (by omega) (by omega) ?_
  refine eq_mk rfl ?_
  repeat (walk_at "mine auto")
  exact h
theorem Ex.test {C : Cx} {sc : Scope} {n : Nat} {ρ : Loc} {Φ : Out → Prop} {st : Stmt} {ss : List Stmt} (h : Ex1 C sc n ρ st fun o => (∀ ρ', o = .next ρ' → ρ' = ρ) ∧ (∀ p, o = .ret p → Φ (.ret p))) (ht : Ex C sc n ρ ss Φ) : Ex C sc n ρ (st :: ss) Φ :=
  Ex.cut (fun ρ' => ρ' = ρ) h fun ρ' e => e ▸ ht
theorem flat_mk (a e : Int) : Flat (mk a e) := by
  obtain ⟨x, y, z, w, h, _⟩ := mk_nums a e
  exact .inr ⟨_, h⟩
theorem neN_facts (m k : Nat) (hk : k ≠ 0) : -(2 ^ k : Int) ≤ 2 * ((m : Int) - (neN m k : Int) * 2 ^ k) ∧ 2 * ((m : Int) - (neN m k : Int) * 2 ^ k) ≤ 2 ^ k ∧
    ((2 * ((m : Int) - (neN m k : Int) * 2 ^ k) = 2 ^ k ∨ 2 * ((m : Int) - (neN m k : Int) * 2 ^ k) = -(2 ^ k)) → neN m k % 2 = 0) := by
  obtain ⟨k, rfl⟩ : ∃ j, k = j + 1 := ⟨k - 1, by omega⟩
  unfold neN
  rw [Nat.add_sub_cancel]
  have hp := Nat.two_pow_pos k
  have e2 : (2 : Int) ^ (k + 1) = 2 * ((2 ^ k : Nat) : Int) := by rw [Int.pow_succ]; push_cast; omega
  rw [e2]
  generalize 2 ^ k = d at *
  have h1 := Nat.div_add_mod m d
  have h2 := Nat.mod_lt m hp
  generalize m / d = t at *
  generalize m % d = r at *
  obtain ⟨u, hu⟩ : ∃ u, t / 2 = u := ⟨_, rfl⟩
  rw [hu]
  have key : ∀ x : Nat, ((x : Int)) * (2 * (d : Int)) = 2 * ((d * x : Nat) : Int) := by
    intro x; push_cast; rw [Int.mul_comm, Int.mul_assoc]
  rcases Nat.mod_two_eq_zero_or_one t with hb | hb
  · have et : t = 2 * u := by omega
    have e3 : d * t = 2 * (d * u) := by rw [et, Nat.mul_left_comm]
    rw [if_neg (by omega), key]
    generalize d * u = q at *
    rw [e3] at h1
    refine ⟨by omega, by omega, fun h => by omega⟩
  · have et : t = 2 * u + 1 := by omega
    have e3 : d * t = 2 * (d * u) + d := by rw [et, Nat.mul_add, Nat.mul_left_comm, Nat.mul_one]
    by_cases c : t % 2 = 1 ∧ (u % 2 = 1 ∨ r ≠ 0)
    · rw [if_pos c, key]
      have e4 : d * (u + 1) = d * u + d := Nat.mul_succ _ _
      rw [e4]
      generalize d * u = q at *
      rw [e3] at h1
      refine ⟨by omega, by omega, fun h => by omega⟩
    · rw [if_neg c, key]
      generalize d * u = q at *
      rw [e3] at h1
      refine ⟨by omega, by omega, fun h => by omega⟩
theorem nint_facts (a : Int) (K : Nat) : 2 * (((a - RI sn a K * 2 ^ K).natAbs : Nat) : Int) ≤ 2 ^ K ∧ (2 * (((a - RI sn a K * 2 ^ K).natAbs : Nat) : Int) = 2 ^ K → (RI sn a K).fmod 2 = 0) := by
  rw [Int.fmod_eq_emod_of_nonneg _ (by decide)]
  have hpk := pow_pos_int K
  unfold RI
  by_cases hK : K = 0
  · subst hK
    rw [if_pos rfl]
    rw [show a - a * 2 ^ 0 = 0 by simp]
    exact ⟨by decide, fun h => absurd h (by decide)⟩
  · rw [if_neg hK]
    by_cases ha : a < 0
    · rw [if_pos ha, rdN_n]
      obtain ⟨f1, f2, f3⟩ := neN_facts a.natAbs K hK
      rw [Int.neg_mul]
      generalize (neN a.natAbs K : Int) * 2 ^ K = z at *
      refine ⟨by omega, fun h => ?_⟩
      have := f3 (by omega)
      omega
    · rw [if_neg ha, rdN_n]
      obtain ⟨f1, f2, f3⟩ := neN_facts a.natAbs K hK
      generalize (neN a.natAbs K : Int) * 2 ^ K = z at *
      refine ⟨by omega, fun h => ?_⟩
      have := f3 (by omega)
      omega
theorem hermite_term (y : Int) (k K p : Nat) : (y + (k : Int) * 2 ^ K).fdiv (2 ^ (K + p)) = (y.fdiv (2 ^ K) + k).fdiv (2 ^ p) := by
  rw [Int.pow_add, ← fd2 _ (pow_pos_int K) (pow_pos_int p)]
  congr 1
  have h := pow_pos_int K
  rw [Int.fdiv_eq_ediv_of_nonneg _ (Int.le_of_lt h), Int.fdiv_eq_ediv_of_nonneg _ (Int.le_of_lt h), Int.add_mul_ediv_right _ _ (by omega)]
theorem herm4 (z : Int) : (z + ((0 : Nat) : Int)) / 2 ^ 2 + ((z + ((1 : Nat) : Int)) / 2 ^ 2 + ((z + ((2 : Nat) : Int)) / 2 ^ 2 + ((z + ((3 : Nat) : Int)) / 2 ^ 2 + 0))) = z := by
  have t : ∀ q c : Int, (4 * q + c) / 4 = q + c / 4 := fun q c => by rw [Int.add_comm, Int.add_mul_ediv_left _ _ (by decide), Int.add_comm]
  obtain ⟨q, r, hz, hr0, hr1⟩ : ∃ q r : Int, z = 4 * q + r ∧ 0 ≤ r ∧ r < 4 := ⟨z / 4, z % 4, by omega, by omega, by omega⟩
  subst hz
  rw [show (2 : Int) ^ 2 = 4 from rfl]
  simp only [Int.add_assoc, t]
  have hr : r = 0 ∨ r = 1 ∨ r = 2 ∨ r = 3 := by omega
  rcases hr with rfl | rfl | rfl | rfl
  all_goals (first | omega | (simp; omega))
theorem herm8 (z : Int) : (z + ((0 : Nat) : Int)) / 2 ^ 3 + ((z + ((1 : Nat) : Int)) / 2 ^ 3 + ((z + ((2 : Nat) : Int)) / 2 ^ 3 + ((z + ((3 : Nat) : Int)) / 2 ^ 3 + ((z + ((4 : Nat) : Int)) / 2 ^ 3 + ((z + ((5 : Nat) : Int)) / 2 ^ 3 + ((z + ((6 : Nat) : Int)) / 2 ^ 3 + ((z + ((7 : Nat) : Int)) / 2 ^ 3 + 0))))))) = z := by
  have t : ∀ q c : Int, (8 * q + c) / 8 = q + c / 8 := fun q c => by rw [Int.add_comm, Int.add_mul_ediv_left _ _ (by decide), Int.add_comm]
  obtain ⟨q, r, hz, hr0, hr1⟩ : ∃ q r : Int, z = 8 * q + r ∧ 0 ≤ r ∧ r < 8 := ⟨z / 8, z % 8, by omega, by omega, by omega⟩
  subst hz
  rw [show (2 : Int) ^ 3 = 8 from rfl]
  simp only [Int.add_assoc, t]
  have hr : r = 0 ∨ r = 1 ∨ r = 2 ∨ r = 3 ∨ r = 4 ∨ r = 5 ∨ r = 6 ∨ r = 7 := by omega
  rcases hr with rfl | rfl | rfl | rfl | rfl | rfl | rfl | rfl
  all_goals (first | omega | (simp; omega))
theorem hermite (y : Int) (K p : Nat) (hp : p = 1 ∨ p = 2 ∨ p = 3) : ((List.range (2 ^ p)).map fun k => (y + ((k : Nat) : Int) * 2 ^ K).fdiv (2 ^ (K + p))).sum = y.fdiv (2 ^ K) := by
  have e : (fun k : Nat => (y + ((k : Nat) : Int) * 2 ^ K).fdiv (2 ^ (K + p))) = fun k : Nat => (y.fdiv (2 ^ K) + k) / (2 ^ p) := by
    funext k; rw [hermite_term, Int.fdiv_eq_ediv_of_nonneg _ (Int.le_of_lt (pow_pos_int p))]
  rw [e]
  generalize y.fdiv (2 ^ K) = z
  rcases hp with rfl | rfl | rfl
  · rw [show List.range (2 ^ 1) = [0, 1] from rfl]
    simp only [List.map_cons, List.map_nil, List.sum_cons, List.sum_nil]
    omega
  · rw [show List.range (2 ^ 2) = [0, 1, 2, 3] from rfl]
    simp only [List.map_cons, List.map_nil, List.sum_cons, List.sum_nil]
    exact herm4 z
  · rw [show List.range (2 ^ 3) = [0, 1, 2, 3, 4, 5, 6, 7] from rfl]
    simp only [List.map_cons, List.map_nil, List.sum_cons, List.sum_nil]
    exact herm8 z
theorem ok_sub' {C : Cx} (F : Facts C) (n : Nat) {a b e : Int} {p q : PV} (hp : p = mk a e) (hq : q = mk b e) (ha : bits a ≤ 40000) (hb : bits b ≤ 40000) {φ : PV → Prop} (h : φ (mk (a - b) e)) : CallOK C (n + 5) "mpf_sub" [p, q] φ := by
  subst hp; subst hq; exact ok_sub F n ha hb h
theorem ok_add' {C : Cx} (F : Facts C) (n : Nat) {a b e : Int} {p q : PV} (hp : p = mk a e) (hq : q = mk b e) (ha : bits a ≤ 40000) (hb : bits b ≤ 40000) {φ : PV → Prop} (h : φ (mk (a + b) e)) : CallOK C (n + 4) "mpf_add" [p, q] φ := by
  subst hp; subst hq
  refine ok_add F n (prec := 0) (sub := 0) (rnd := sd) ha hb (.inl rfl) (.inl rfl) (.inr ⟨rfl, rfl, rfl, rfl⟩) fun p hp => ?_
  rw [hp.1 rfl, if_pos rfl]; exact h
theorem ok_mod' {C : Cx} (F : Facts C) (n : Nat) {a b e : Int} {p q : PV} (hp : p = mk a e) (hq : q = mk b e) (hb0 : b ≠ 0) (ha : bits a ≤ 30000) (hb : bits b ≤ 1900) (he : -10000 ≤ e ∧ e ≤ 10000) {φ : PV → Prop} (h : φ (mk (a.fmod b) e)) : CallOK C (n + 4) "mpf_mod" [p, q, .int 2000] φ := by
  subst hp; subst hq; exact ok_mod F n hb0 ha hb he h
theorem ok_le' {C : Cx} (F : Facts C) (n : Nat) {a b e : Int} {p q : PV} (hp : p = mk a e) (hq : q = mk b e) (ha : bits a ≤ 40000) (hb : bits b ≤ 40000) {φ : PV → Prop} (h : φ (.bool (decide (a ≤ b)))) : CallOK C (n + 7) "mpf_le" [p, q] φ := by
  subst hp; subst hq; exact ok_le F n ha hb h
theorem ok_cmp' {C : Cx} (F : Facts C) (n : Nat) {a b e : Int} {p q : PV} (hp : p = mk a e) (hq : q = mk b e) (ha : bits a ≤ 40000) (hb : bits b ≤ 40000) {φ : PV → Prop} (h1 : a < b → φ (.int (-1))) (h0 : a = b → φ (.int 0)) (h2 : b < a → φ (.int 1)) : CallOK C (n + 6) "mpf_cmp" [p, q] φ := by
  subst hp; subst hq; exact ok_cmp F n ha hb h1 h0 h2
theorem ok_floor' {C : Cx} (F : Facts C) (n : Nat) {a : Int} {K : Nat} {p : PV} (hp : p = mk a (-K)) (hb : bits a ≤ 100000) {φ : PV → Prop} (h : φ (mk (Int.fdiv a (2 ^ K)) 0)) : CallOK C (n + 6) "mpf_floor" [p] φ := by
  subst hp; exact ok_floor F n hb h
theorem ok_frac' {C : Cx} (F : Facts C) (n : Nat) {a : Int} {K : Nat} {p : PV} (hp : p = mk a (-K)) (ha : bits a ≤ 30000) (hK : K ≤ 30000) {φ : PV → Prop} (h : φ (mk (a.fmod (2 ^ K)) (-K))) : CallOK C (n + 7) "mpf_frac" [p] φ := by
  subst hp; exact ok_frac F n ha hK h
/-- a whole number's int -/
theorem ok_int0 {C : Cx} (F : Facts C) (n : Nat) {a : Int} {p : PV} (hp : p = mk a 0) (hb : bits a ≤ 100000) {φ : PV → Prop} (h : φ (.int a)) : CallOK C (n + 3) "to_int" [p] φ := by
  have e : p = mk a (-((0 : Nat) : Int)) := by rw [hp]; rfl
  subst e
  exact ok_to_int F n hb (by omega) (.inl rfl) (.inr ⟨rfl, rfl⟩) (by unfold RI; rw [if_pos rfl]; exact h)
theorem bits_pow_int (K : Nat) : bits (2 ^ K : Int) = K + 1 := by
  have := bits_pow K
  push_cast at this; exact this
theorem bits_RI (a : Int) (K : Nat) : bits (RI sn a K) ≤ bits a + 2 := by
  have h := (nint_facts a K).1
  have hp := pow_pos_int K
  refine bits_le.mpr ?_
  have h2 := bits_le.mp (Nat.le_refl (bits a))
  generalize RI sn a K = N at *
  have h3 : ((N * 2 ^ K).natAbs : Int) * 2 ≤ 2 * a.natAbs + 2 ^ K := by omega
  have h4 : (N * 2 ^ K).natAbs = N.natAbs * 2 ^ K := by rw [Int.natAbs_mul]; congr 1
  rw [h4] at h3
  have h5 : N.natAbs ≤ a.natAbs + 1 := by
    rcases Nat.lt_or_ge (a.natAbs + 1) N.natAbs with g | g
    · exfalso
      have hp2 := Nat.two_pow_pos K
      have e : (2 : Int) ^ K = ((2 ^ K : Nat) : Int) := by push_cast; rfl
      rw [e] at h3
      have h6 : (a.natAbs + 2) * 2 ^ K ≤ N.natAbs * 2 ^ K := Nat.mul_le_mul_right _ g
      rw [Nat.add_mul] at h6
      have h7 : a.natAbs ≤ a.natAbs * 2 ^ K := Nat.le_mul_of_pos_right _ hp2
      generalize 2 ^ K = d at *
      omega
    · exact g
  rw [Nat.pow_add]; omega
theorem ok_parts {C : Cx} (F : Facts C) (n : Nat) {a : Int} {K p : Nat} (hp : p = 1 ∨ p = 2 ∨ p = 3) (ha : bits a ≤ 400) (hK : K ≤ 400) {φ : PV → Prop} (h : φ (.bool true)) :
    CallOK C (n + 8) "_law_parts_right" [mk a (-K), .int p] φ := by
  refine callCd (show DefAt C "_law_parts_right" _ _ _ _ from F.defs "_law_parts_right" _ rfl) (bindsD ["s", "power"] (ρ₀ := [("power", .int p), ("s", mk a (-K))]) rfl rfl (by decide) rfl rfl rfl rfl) rfl rfl rfl rfl ?_
  have hpk := pow_pos_int K
  have hbK : bits (2 ^ K : Int) ≤ 401 := by rw [bits_pow_int]; omega
  have hfd : bits (a.fdiv (2 ^ K)) ≤ 401 := Nat.le_trans (bits_fdiv a _ (by omega)) (by omega)
  have hfm : bits (a.fmod (2 ^ K)) ≤ 400 := Nat.le_trans (bits_fmod a K) hK
  have hna : bits (-a) ≤ 400 := by rw [bits_neg]; exact ha
  have hRI := bits_RI a K
  have eone : mk 1 0 = mk (2 ^ K) (-K) := by
    have := mk_shift' 1 (-(K : Int)) 0 K (by omega)
    rw [Int.one_mul] at this; exact this.symm
  have escale : ∀ N : Int, mk N 0 = mk (N * 2 ^ K) (-K) := fun N => (mk_shift' N (-(K : Int)) 0 K (by omega)).symm
  have bscale : ∀ N : Int, bits N ≤ 1000 → bits (N * 2 ^ K) ≤ 1401 := fun N h => Nat.le_trans (bits_mul_le h hbK) (by omega)
  obtain ⟨n1, n2⟩ := nint_facts a K
  generalize hN : RI sn a K = N at *
  refine Ex.cons ?_
  refine Ex1.swap (xs := ["low", "part", "one"]) ?_ (by decide) (by intro _; rfl) (by rintro ⟨⟩ h; cases h; rfl)
  repeat (walk_at "mine auto")
  refine ok_floor F (n + 1) (by omega) ?_
  repeat (walk_at "mine auto")
  refine ok_frac F n (by omega) (by omega) ?_
  repeat (walk_at "mine auto")
  refine ok_from_int F (n + 4) ?_
  repeat (walk_at "mine auto")
  refine ⟨_, .inl rfl, rfl, k_next ?_⟩
  refine Ex.test ?_ ?_
  · repeat (walk_at "mine auto")
    refine ok_mod' F (n + 3) rfl eone (by omega) (by omega) (by omega) (by omega) ?_
    repeat (walk_at "mine auto")
    refine ne_mk rfl ?_
    repeat (walk_at "mine auto")
    refine ok_add' F (n + 3) (escale _) rfl (by have := bscale _ (show bits (a.fdiv (2 ^ K)) ≤ 1000 by omega); omega) (by omega) ?_
    rw [fdiv_mul_eq, Int.sub_add_cancel]
    repeat (walk_at "mine auto")
    refine ne_mk rfl ?_
    repeat (walk_at "mine auto")
    refine ok_ceil F (n + 1) (by omega) ?_
    repeat (walk_at "mine auto")
    refine ok_neg F (n + 6) ?_
    repeat (walk_at "mine auto")
    refine ok_floor F (n + 1) (by omega) ?_
    repeat (walk_at "mine auto")
    refine ok_neg F (n + 6) ?_
    refine ne_mk rfl ?_
    repeat (walk_at "mine auto")
    rfl
  refine Ex.cons ?_
  repeat (walk_at "mine expr")
  refine ok_nint F (n + 1) (by omega) ?_
  rw [hN]
  repeat (walk_at "mine expr")
  refine Ex.cons ?_
  repeat (walk_at "mine expr")
  refine ok_sub' F (n + 2) rfl (escale N) (by omega) (by have := bscale N (by omega); omega) ?_
  repeat (walk_at "mine expr")
  refine ok_abs F (n + 6) ?_
  repeat (walk_at "mine expr")
  refine ok_shift F (n + 6) ?_
  have eg : mk (((a - N * 2 ^ K).natAbs : Nat) : Int) (-(K : Int) + 1) = mk (2 * (((a - N * 2 ^ K).natAbs : Nat) : Int)) (-K) := by
    have := mk_shift (((a - N * 2 ^ K).natAbs : Nat) : Int) (-(K : Int)) 1
    rw [Int.mul_comm] at this
    exact this.symm
  have hbg : bits (2 * (((a - N * 2 ^ K).natAbs : Nat) : Int)) ≤ 402 := by
    refine Nat.le_trans (bits_mono (y := 2 ^ K) (by omega)) (by omega)
  repeat (walk_at "mine expr")
  refine Ex.test ?_ ?_
  · repeat (walk_at "mine auto")
    refine ok_le' F n eg eone (by omega) (by omega) ?_
    rw [decide_eq_true n1]
    repeat (walk_at "mine auto")
    refine ok_cmp' F (n + 1) eg eone (by omega) (by omega) (fun g => ?_) (fun g => ?_) (fun g => absurd g (by omega))
    · repeat (walk_at "mine auto")
      rfl
    · repeat (walk_at "mine auto")
      refine ok_int0 F (n + 4) rfl (by omega) ?_
      repeat (walk_at "mine auto")
      refine s_mod (by decide) ?_
      rw [n2 g]
      repeat (walk_at "mine auto")
      rfl
  refine Ex.test ?_ ?_
  · repeat (walk_at "mine auto")
    refine Ev.cstr ?_
    repeat (walk_at "mine auto")
    refine ok_to_int F (n + 4) (by omega) (by omega) (.inr (.inl rfl)) (.inl rfl) ?_
    rw [hN]
    repeat (walk_at "mine auto")
    refine ok_int0 F (n + 4) rfl (by omega) ?_
    repeat (walk_at "mine auto")
    rw [decide_eq_true rfl]
    repeat (walk_at "mine auto")
    refine Ev.cstr ?_
    repeat (walk_at "mine auto")
    refine ok_to_int F (n + 4) (by omega) (by omega) (.inr (.inr rfl)) (.inl rfl) ?_
    rw [RI_f]
    repeat (walk_at "mine auto")
    refine ok_int0 F (n + 4) rfl (by omega) ?_
    repeat (walk_at "mine auto")
    rw [decide_eq_true rfl]
    repeat (walk_at "mine auto")
    refine ok_frac' F n (K := 0) (a := N) rfl (by omega) (by omega) ?_
    rw [show N.fmod (2 ^ 0) = 0 by simp, mk_zero]
    repeat (walk_at "mine auto")
    show Step2 _ _ (PV.nums [0, 0, 0, 0]) (PV.nums [0, 0, 0, 0]) _
    refine c_net ?_
    rw [decide_eq_true rfl]
    repeat (walk_at "mine auto")
    rfl
  refine Ex.cons ?_
  refine Ex1.assignComp [("s", mk a (-K)), ("power", .int p)] (fun i acc => acc = (((List.range i).map fun k => (a * 2 ^ p + ((k : Nat) : Int) * 2 ^ K).fdiv (2 ^ (K + p))).map fun x => mk x 0)) ?_ rfl ?_ rfl rfl rfl rfl (by rintro ⟨⟩ h; cases h; rfl)
  · refine EvSrc.range F rfl ?_
    repeat (walk_at "mine expr")
    refine s_pow2 (by omega) (by omega) ?_
    have hpp : 2 ^ p ≤ 8 := by rcases hp with rfl | rfl | rfl <;> decide
    refine ⟨2 ^ p, by rw [Int.toNat_natCast]; push_cast; rfl, by omega, rfl, ?_, ?_⟩
    · rintro i acc hi rfl
      refine .inl ⟨rfl, ?_⟩
      have hbi : bits (i : Int) ≤ 4 := bits_le.mpr (by rw [Int.natAbs_natCast]; omega)
      have hb2p : bits (2 ^ p : Int) ≤ 4 := by rw [bits_pow_int]; omega
      have e1 := bits_mul_le ha hb2p
      have e2 := bits_mul_le hbi hbK
      have e3 := bits_add_small e1 e2
      repeat (walk_at "mine expr")
      refine ok_from_int F (n + 4) ?_
      repeat (walk_at "mine expr")
      refine ok_shift F (n + 6) ?_
      repeat (walk_at "mine expr")
      refine ok_add' F (n + 3) (a := a * 2 ^ p) (b := (i : Int) * 2 ^ K) (e := -((K + p : Nat) : Int)) ?_ ?_ (by omega) (by omega) ?_
      · rw [mk_shift]; congr 1; omega
      · rw [mk_shift]; congr 1; omega
      · repeat (walk_at "mine expr")
        refine ok_floor F (n + 1) (by omega) ?_
        refine ⟨flat_mk _ _, ?_⟩
        dsimp only
        rw [List.range_succ, List.map_append, List.map_append]; rfl
    · rintro acc _ rfl
      refine k_next ?_
      refine Ex.cons ?_
      repeat (walk_at "mine expr")
      refine ok_sum F (n + 4) (by rw [List.length_map, List.length_range]; omega) ?_ ?_
      · intro x hx
        obtain ⟨k, hk, rfl⟩ := List.mem_map.mp hx
        have hk := List.mem_range.mp hk
        have hbi : bits (k : Int) ≤ 4 := bits_le.mpr (by rw [Int.natAbs_natCast]; omega)
        have hb2p : bits (2 ^ p : Int) ≤ 4 := by rw [bits_pow_int]; omega
        have e1 := bits_mul_le ha hb2p
        have e2 := bits_mul_le hbi hbK
        have e3 := bits_add_small e1 e2
        have := bits_fdiv (a * 2 ^ p + (k : Int) * 2 ^ K) (2 ^ (K + p)) (by have := pow_pos_int (K + p); omega)
        omega
      · rw [hermite _ _ _ hp]
        repeat (walk_at "mine expr")
        refine ok_shift F (n + 6) ?_
        repeat (walk_at "mine expr")
        have hb2p : bits (2 ^ p : Int) ≤ 4 := by rw [bits_pow_int]; omega
        have e1 := bits_mul_le ha hb2p
        refine ok_floor' F (n + 1) (a := a * 2 ^ p) (K := K) (by rw [mk_shift]) (by omega) ?_
        refine eq_mk rfl ?_
        repeat (walk_at "mine auto")
        exact h
  · refine ⟨rfl, ?_⟩
    intro yp hy
    simp only [List.mem_cons, List.not_mem_nil, or_false] at hy
    rcases hy with rfl | rfl
    · exact ⟨rfl, rfl, rfl⟩
    · exact ⟨rfl, rfl, rfl⟩
theorem mk_item1 (x y : Int) : ∃ (l : List PV) (z : Int), mk x y = .tup l ∧ l[1]? = some (.int z) ∧ (0 < z ↔ x ≠ 0) := by
  by_cases hx : x = 0
  · subst hx; rw [mk_zero]; exact ⟨_, _, rfl, rfl, by decide⟩
  · obtain ⟨sg, m, j, hs, hm, rfl⟩ := raw x hx
    rw [mk_sgn hs hm]
    exact ⟨_, _, rfl, rfl, by constructor <;> intro _ <;> first | exact hx | omega⟩
theorem gcd_step (x y : Nat) : Nat.gcd y (x % y) = Nat.gcd x y := by rw [Nat.gcd_comm x y, Nat.gcd_rec y x, Nat.gcd_comm]
theorem fmod_nat (x y : Nat) : Int.fmod (x : Int) (y : Int) = ((x % y : Nat) : Int) := by
  rw [Int.fmod_eq_emod_of_nonneg _ (by omega)]; push_cast; rfl
/-- the lowest place held -/
def lowp (a : Int) : Nat := tzN a.natAbs
theorem lowp_dvd (a : Int) (c : Nat) (h : a = 0 ∨ c ≤ lowp a) : ∃ A : Nat, a.natAbs = A * 2 ^ c := by
  by_cases ha : a = 0
  · exact ⟨0, by rw [ha]; simp⟩
  · have hc : c ≤ lowp a := by rcases h with h | h; exact absurd h ha; exact h
    obtain ⟨m, k, e, ho⟩ := split2 a.natAbs (by omega)
    have : lowp a = k := by unfold lowp; rw [e, tzN_split ho]
    obtain ⟨d, rfl⟩ : ∃ d, k = d + c := ⟨k - c, by omega⟩
    exact ⟨m * 2 ^ d, by rw [e, Nat.pow_add, Nat.mul_assoc]⟩
theorem mk_items (x y : Int) : ∃ (l : List PV) (z : Int), mk x y = .tup l ∧ l[1]? = some (.int z) ∧ (0 < z ↔ x ≠ 0) ∧ (x ≠ 0 → l[2]? = some (.int (y + lowp x))) := by
  by_cases hx : x = 0
  · subst hx; rw [mk_zero]; exact ⟨_, _, rfl, rfl, by decide, fun h => absurd rfl h⟩
  · obtain ⟨sg, m, j, hs, hm, e⟩ := raw x hx
    have : lowp x = j := by unfold lowp; rw [e, sgn_natAbs, tzN_split hm]
    rw [this, e, mk_sgn hs hm]
    exact ⟨_, _, rfl, rfl, by rw [← e]; constructor <;> intro _ <;> first | exact hx | omega, fun _ => rfl⟩
theorem bits_natle {x y : Nat} (h : x ≤ y) : bits (x : Int) ≤ bits (y : Int) := bits_mono (by simpa using h)
theorem ok_common {C : Cx} (F : Facts C) (n : Nat) {a b : Int} {K : Nat} (hb0 : b ≠ 0) (ha : bits a ≤ 400) (hb : bits b ≤ 400) (hK : K ≤ 400) {φ : PV → Prop} (h : φ (.bool true)) :
    CallOK C (n + 8) "_law_common_right" [mk a (-K), mk b (-K)] φ := by
  have hlow : ∀ x : Int, bits x ≤ 400 → x ≠ 0 → lowp x ≤ 400 := by
    intro x hx h0
    obtain ⟨m, k, e, ho⟩ := split2 x.natAbs (by omega)
    have e2 : lowp x = k := by unfold lowp; rw [e, tzN_split ho]
    have := bits_mul_pow (n := m) (by omega) k
    rw [← e, bits_natAbs] at this
    omega
  have fin : ∀ c : Nat, c ≤ 400 → (a = 0 ∨ c ≤ lowp a) → c ≤ lowp b → (match stOf "_law_common_right" with
      | .FunctionDef _ params body _ _ _ scope _ _ _ => Ex C scope (n + 7) [("base", .int (-(K : Int) + c)), ("t", mk b (-K)), ("s", mk a (-K))] (body.drop 1) (toRet φ)
      | _ => True) := by
    intro c hc400 hca hcb
    obtain ⟨A, hA⟩ := lowp_dvd a c hca
    obtain ⟨B, hB⟩ := lowp_dvd b c (.inr hcb)
    show Ex C _ (n + 7) _ (List.drop 1 _) (toRet φ)
    have hp2 := Nat.two_pow_pos c
    have hbA : bits (A : Int) ≤ 400 := by
      have := bits_natle (x := A) (y := a.natAbs) (by rw [hA]; exact Nat.le_mul_of_pos_right _ hp2)
      rw [bits_natAbs] at this; omega
    have hbB : bits (B : Int) ≤ 400 := by
      have := bits_natle (x := B) (y := b.natAbs) (by rw [hB]; exact Nat.le_mul_of_pos_right _ hp2)
      rw [bits_natAbs] at this; omega
    have esh : ∀ (x : Int) (X : Nat), x.natAbs = X * 2 ^ c → mk ((x.natAbs : Nat) : Int) (-(K : Int) + -(-(K : Int) + c)) = mk (X : Int) 0 := by
      intro x X hx
      rw [hx]
      push_cast
      exact mk_shift' _ _ _ c (by omega)
    refine Ex.cons (st := ?_) (ss := ?_) ?_
    refine Ex1.unpack (xs := ["a", "b"]) (.cons (.cons .nil)) ?_ (by decide) (by intro _; rfl) (by intro _ _; rfl)
    refine Ev.comp [("base", .int (-(K : Int) + c))] (fun i acc => acc = ([PV.int A, PV.int B].take i)) ?_ rfl ?_ rfl rfl
    · refine EvSrc.list ?_
      repeat (walk_at "mine expr")
      refine ⟨by simp, rfl, ?_, ?_⟩
      · rintro i acc hi rfl
        refine .inl ⟨rfl, ?_⟩
        have hi2 : i = 0 ∨ i = 1 := by have : i < 2 := hi; omega
        rcases hi2 with rfl | rfl
        · repeat (walk_at "mine expr")
          show CallOK C (n + 7) "mpf_abs" [mk a (-K)] _
          refine ok_abs F (n + 6) ?_
          repeat (walk_at "mine expr")
          refine ok_shift F (n + 6) ?_
          rw [esh a A hA]
          repeat (walk_at "mine expr")
          refine ok_int0 F (n + 4) rfl (by omega) ?_
          exact ⟨.inl ⟨_, rfl⟩, rfl⟩
        · repeat (walk_at "mine expr")
          show CallOK C (n + 7) "mpf_abs" [mk b (-K)] _
          refine ok_abs F (n + 6) ?_
          repeat (walk_at "mine expr")
          refine ok_shift F (n + 6) ?_
          rw [esh b B hB]
          repeat (walk_at "mine expr")
          refine ok_int0 F (n + 4) rfl (by omega) ?_
          exact ⟨.inl ⟨_, rfl⟩, rfl⟩
      · rintro acc _ rfl
        refine ⟨[PV.int A, PV.int B], .inr rfl, rfl, k_next ?_⟩
        dsimp only [putAll]
        refine Ex.cut (fun ρ => look ρ "a" = some (.int (Nat.gcd A B : Nat)) ∧ look ρ "base" = some (.int (-(K : Int) + c)) ∧ look ρ "s" = some (mk a (-K)) ∧ look ρ "t" = some (mk b (-K))) ?_ ?_
        · refine Ex1.while (fun k ρ => ∃ x y : Nat, y = k ∧ Nat.gcd x y = Nat.gcd A B ∧ look ρ "a" = some (.int x) ∧ look ρ "b" = some (.int y) ∧ look ρ "base" = some (.int (-(K : Int) + c)) ∧ look ρ "s" = some (mk a (-K)) ∧ look ρ "t" = some (mk b (-K))) B ⟨A, B, rfl, rfl, rfl, rfl, rfl, rfl, rfl⟩ ?_
          rintro k ρ ⟨x, y, rfl, hg, l1, l2, l3, l4, l5⟩
          repeat (walk_at "mine step")
          refine And.intro (fun g => ?_) (fun g => ?_)
          · have hy := of_decide_eq_true g
            refine Ex.cons ?_
            refine Ex1.swap (xs := ["a", "b"]) ?_ (by decide) (by intro _; rfl) (by rintro ⟨⟩ h; cases h; rfl)
            repeat (walk_at "mine step")
            refine s_mod (by omega) ?_
            rw [fmod_nat]
            repeat (walk_at "mine step")
            refine ⟨_, .inl rfl, rfl, k_next ?_⟩
            refine Ex.nil (k_next ⟨x % y, Nat.mod_lt _ (by omega), y, x % y, rfl, (gcd_step x y).trans hg, rfl, rfl, l3, l4, l5⟩)
          · have hy : y = 0 := by have := of_decide_eq_false g; omega
            subst hy
            rw [Nat.gcd_zero_right] at hg
            exact k_next ⟨by rw [← hg]; exact l1, l3, l4, l5⟩
        · rintro ρ ⟨l1, l2, l3, l4⟩
          refine Ex.cons ?_
          refine Ex1.swap (xs := ["s", "t"]) ?_ (by decide) (by intro _; rfl) (by rintro ⟨⟩ h; cases h; rfl)
          repeat (walk_at "mine expr")
          refine ok_abs F (n + 6) ?_
          repeat (walk_at "mine expr")
          refine ok_abs F (n + 6) ?_
          repeat (walk_at "mine expr")
          refine ⟨_, .inl rfl, rfl, k_next ?_⟩
          refine Ex.cut (fun ρ => look ρ "a" = some (.int (Nat.gcd A B : Nat)) ∧ look ρ "base" = some (.int (-(K : Int) + c)) ∧ look ρ "s" = some (mk (Nat.gcd a.natAbs b.natAbs : Nat) (-K))) ?_ ?_
          · refine Ex1.while (fun k ρ => ∃ x y : Nat, y = k ∧ Nat.gcd x y = Nat.gcd a.natAbs b.natAbs ∧ bits (x : Int) ≤ 400 ∧ bits (y : Int) ≤ 400 ∧ look ρ "s" = some (mk x (-K)) ∧ look ρ "t" = some (mk y (-K)) ∧ look ρ "a" = some (.int (Nat.gcd A B : Nat)) ∧ look ρ "base" = some (.int (-(K : Int) + c))) b.natAbs
              ⟨a.natAbs, b.natAbs, rfl, rfl, by rw [bits_natAbs]; exact ha, by rw [bits_natAbs]; exact hb, rfl, rfl, l1, l2⟩ ?_
            rintro k ρ ⟨x, y, rfl, hg, hbx, hby, l1, l2, l3, l4⟩
            obtain ⟨lt, zt, et1, et2, et3, _⟩ := mk_items (y : Int) (-K)
            refine Ts.cmp ?_
            refine Ev.item (k := 1) ?_ (by decide)
            repeat (walk_at "mine step")
            refine ⟨lt, _, et1, et2, ?_⟩
            repeat (walk_at "mine step")
            refine And.intro (fun g => ?_) (fun g => ?_)
            · have hy := et3.mp (of_decide_eq_true g)
              refine Ex.cons ?_
              refine Ex1.swap (xs := ["s", "t"]) ?_ (by decide) (by intro _; rfl) (by rintro ⟨⟩ h; cases h; rfl)
              repeat (walk_at "mine expr")
              refine ok_mod F (n + 3) hy (by omega) (by omega) (by omega) ?_
              rw [fmod_nat]
              repeat (walk_at "mine expr")
              refine ⟨_, .inl rfl, rfl, k_next ?_⟩
              have hlt : x % y < y := Nat.mod_lt _ (by omega)
              refine Ex.nil (k_next ⟨x % y, hlt, y, x % y, rfl, (gcd_step x y).trans hg, hby, Nat.le_trans (bits_natle (Nat.le_of_lt hlt)) hby, rfl, rfl, l3, l4⟩)
            · have hy : y = 0 := by
                rcases Nat.eq_zero_or_pos y with q | q
                · exact q
                · exact absurd (et3.mpr (by omega)) (of_decide_eq_false g)
              subst hy
              rw [Nat.gcd_zero_right] at hg
              exact k_next ⟨l3, l4, by rw [← hg]; exact l1⟩
          · rintro ρ ⟨l1, l2, l3⟩
            repeat (walk_at "mine step")
            refine ok_from_int F (n + 4) ?_
            repeat (walk_at "mine step")
            refine ok_shift F (n + 6) ?_
            refine eq_mk ?_ ?_
            · rw [hA, hB, Nat.gcd_mul_right]
              push_cast
              exact mk_shift' _ _ _ c (by omega)
            · repeat (walk_at "mine step")
              exact h
    · refine ⟨rfl, ?_⟩
      intro yp hy
      simp only [List.mem_cons, List.not_mem_nil, or_false] at hy
      rcases hy with rfl
      exact ⟨rfl, rfl, rfl⟩
  refine callCs (y := "base") (show DefAt C "_law_common_right" _ _ _ _ from F.defs "_law_common_right" _ rfl) (bindsD ["s", "t"] (ρ₀ := [("t", mk b (-K)), ("s", mk a (-K))]) rfl rfl (by decide) rfl rfl rfl rfl) rfl rfl rfl rfl rfl rfl (by decide) (by intro _; rfl) ?_
  obtain ⟨la, za, ea1, ea2, ea3, ea4⟩ := mk_items a (-K)
  obtain ⟨lb, zb, eb1, eb2, eb3, eb4⟩ := mk_items b (-K)
  have hzb : 0 < zb := eb3.mpr hb0
  refine Ev.bcallF F (by rfl) (by rfl) ?_
  refine Evs.cons ?_
  refine Ev.comp [] (fun i acc => (i = 0 ∧ acc = []) ∨ (i = 1 ∧ acc = (if a = 0 then [] else [.int (-(K : Int) + lowp a)])) ∨ (i = 2 ∧ acc = (if a = 0 then [] else [.int (-(K : Int) + lowp a)]) ++ [.int (-(K : Int) + lowp b)])) ?_ rfl ⟨rfl, by intro yp hy; cases hy⟩ rfl rfl
  refine EvSrc.list ?_
  repeat (walk_at "mine expr")
  refine ⟨by simp, .inl ⟨rfl, rfl⟩, ?_, ?_⟩
  · intro i acc hi hJ
    refine .inr ⟨_, rfl, ?_⟩
    rcases hJ with ⟨rfl, rfl⟩ | ⟨rfl, rfl⟩ | ⟨rfl, rfl⟩
    · refine Ts.cmp ?_
      refine Ev.item (k := 1) ?_ (by decide)
      repeat (walk_at "mine expr")
      refine ⟨la, _, ea1, ea2, ?_⟩
      repeat (walk_at "mine expr")
      refine And.intro (fun g => ?_) (fun g => ?_)
      · have ha0 := ea3.mp (of_decide_eq_true g)
        refine Ev.item (k := 2) ?_ (by decide)
        repeat (walk_at "mine expr")
        refine ⟨la, _, ea1, ea4 ha0, .inl ⟨_, rfl⟩, .inr (.inl ⟨rfl, by rw [if_neg ha0]; rfl⟩)⟩
      · have ha0 : a = 0 := by
          rcases Classical.em (a = 0) with q | q
          · exact q
          · exact absurd (ea3.mpr q) (of_decide_eq_false g)
        exact .inr (.inl ⟨rfl, by rw [if_pos ha0]⟩)
    · refine Ts.cmp ?_
      refine Ev.item (k := 1) ?_ (by decide)
      repeat (walk_at "mine expr")
      refine ⟨lb, _, eb1, eb2, ?_⟩
      repeat (walk_at "mine expr")
      rw [decide_eq_true hzb]
      refine k_t ?_
      refine Ev.item (k := 2) ?_ (by decide)
      repeat (walk_at "mine expr")
      exact ⟨lb, _, eb1, eb4 hb0, .inl ⟨_, rfl⟩, .inr (.inr ⟨rfl, rfl⟩)⟩
    · exact absurd hi (by simp)
  · intro acc _ hJ
    have hacc : acc = (if a = 0 then [] else [.int (-(K : Int) + lowp a)]) ++ [.int (-(K : Int) + lowp b)] := by
      rcases hJ with ⟨e, _⟩ | ⟨e, _⟩ | ⟨_, e⟩
      · exact absurd e (by simp)
      · exact absurd e (by simp)
      · exact e
    refine Evs.nil ?_
    by_cases ha0 : a = 0
    · rw [hacc, if_pos ha0]
      refine b_minlist (ns := [-(K : Int) + lowp b]) (by simp) fun M hM _ => ?_
      rw [List.mem_singleton.mp hM]
      exact fin (lowp b) (hlow b hb hb0) (.inl ha0) (Nat.le_refl _)
    · rw [hacc, if_neg ha0]
      refine b_minlist (ns := [-(K : Int) + lowp a, -(K : Int) + lowp b]) (by simp) fun M hM hle => ?_
      have h1 := hle _ (.head _)
      have h2 := hle _ (.tail _ (.head _))
      simp only [List.mem_cons, List.not_mem_nil, or_false] at hM
      rcases hM with rfl | rfl
      · exact fin (lowp a) (hlow a ha ha0) (.inr (Nat.le_refl _)) (by omega)
      · exact fin (lowp b) (hlow b hb hb0) (.inr (by omega)) (Nat.le_refl _)
theorem common30 (a e : Int) (he : -30 ≤ e) (he2 : e ≤ 30) (ha : bits a ≤ 60) : ∃ a', mk a e = mk a' (-((30 : Nat) : Int)) ∧ bits a' ≤ 125 ∧ (a' = 0 ↔ a = 0) := by
  obtain ⟨k, hk⟩ := Int.eq_ofNat_of_zero_le (a := e + 30) (by omega)
  refine ⟨a * 2 ^ k, (mk_shift' a (-((30 : Nat) : Int)) e k (by omega)).symm, ?_, ?_⟩
  · have := bits_mul_le ha (show bits (2 ^ k : Int) ≤ 61 by rw [bits_pow_int]; omega)
    omega
  · have := pow_pos_int k
    constructor
    · intro h
      rcases Int.mul_eq_zero.mp h with h | h
      · exact h
      · omega
    · intro h; rw [h, Int.zero_mul]
theorem mk_forms (x y : Int) : ∃ (s m e b : Int), mk x y = .nums [s, m, e, b] ∧ (m = 0 ↔ x = 0) ∧ (x ≠ 0 → ∃ j : Nat, (s = 0 ∨ s = 1) ∧ ∃ M : Nat, M % 2 = 1 ∧ m = M ∧ x = sgn s (M * 2 ^ j) ∧ e = y + j ∧ b = bits (M : Int)) ∧ (x = 0 → s = 0 ∧ e = 0 ∧ b = 0) := by
  by_cases hx : x = 0
  · subst hx; rw [mk_zero]; exact ⟨_, _, _, _, rfl, by decide, fun h => absurd rfl h, fun _ => ⟨rfl, rfl, rfl⟩⟩
  · obtain ⟨sg, m, j, hs, hm, e⟩ := raw x hx
    rw [e, mk_sgn hs hm, ← e]
    exact ⟨_, _, _, _, rfl, by constructor <;> intro h <;> omega, fun _ => ⟨j, hs, m, hm, rfl, e, rfl, rfl⟩, fun h => absurd h hx⟩
theorem truth_val {C : Cx} {φ : Bool → Prop} {b : Bool} (h : φ b) : Truth C (.bool b) φ := truth_bool h
/-- the law's own body, the script a list of ints -/
theorem law_body {C : Cx} (F : Facts C) (n : Nat) {l : List Int} (hl : l.length ≤ 1000) (hb : ∀ a ∈ l, bits a ≤ 1100000) {φ : PV → Prop} (h : φ (.bool true)) :
    (match stOf "law" with
      | .FunctionDef _ params body _ _ _ scope _ _ _ => Ex C scope (n + 9) [("script", .list (l.map .int))] body (toRet φ)
      | _ => True) := by
  show Ex C _ (n + 9) _ _ (toRet φ)
  refine Ex.cons ?_
  repeat (walk_at "mine expr")
  refine ok_mixed F (n + 8) (k := 0) hl hb (by omega) fun first hf0 hfb => ?_
  repeat (walk_at "mine expr")
  refine Ex.cons ?_
  refine Ex1.unpack (xs := ["s", "t", "w"]) (.cons (.cons (.cons .nil))) ?_ (by decide) (by intro _; rfl) (by intro _ _; rfl)
  refine Ev.comp [("script", .list (l.map .int))] (fun i acc => acc.length = i ∧ ∀ p ∈ acc, ∃ a e, p = mk a e ∧ bits a ≤ 41 ∧ -30 ≤ e ∧ e ≤ 30) ?_ rfl ?_ rfl rfl
  · refine EvSrc.range F rfl ?_
    repeat (walk_at "mine expr")
    refine ⟨by decide, ⟨rfl, by intro p hp; cases hp⟩, ?_, ?_⟩
    · rintro i acc hi ⟨hal, hacc⟩
      have hi : i < 3 := hi
      refine .inl ⟨rfl, ?_⟩
      repeat (walk_at "mine expr")
      rw [show (1 : Int) + (i : Int) = ((1 + i : Nat) : Int) by omega]
      refine ok_mixed F (n + 8) (k := 1 + i) hl hb (by omega) fun r hr0 hrb => ?_
      repeat (walk_at "mine expr")
      refine ok_raw F (n + 8) hr0 hrb fun a e ha he1 he2 => ?_
      refine ⟨flat_mk _ _, by rw [List.length_append, hal]; rfl, ?_⟩
      intro p hp
      rcases List.mem_append.mp hp with hp | hp
      · exact hacc p hp
      · rw [List.mem_singleton.mp hp]; exact ⟨a, e, rfl, ha, he1, he2⟩
    · rintro acc _ ⟨hal, hacc⟩
      match acc, hal, hacc with
      | [p1, p2, p3], _, hacc =>
        obtain ⟨a, e, rfl, ha, he1, he2⟩ := hacc p1 (.head _)
        obtain ⟨b, f, rfl, hb', hf1, hf2⟩ := hacc p2 (.tail _ (.head _))
        obtain ⟨c, g, rfl, hc, hg1, hg2⟩ := hacc p3 (.tail _ (.tail _ (.head _)))
        refine ⟨_, .inr rfl, rfl, k_next ?_⟩
        dsimp only [putAll]
        -- t
        refine Ex.cut (fun ρ => ∃ b f : Int, b ≠ 0 ∧ bits b ≤ 41 ∧ -30 ≤ f ∧ f ≤ 30 ∧ look ρ "t" = some (mk b f) ∧ look ρ "first" = some (.int first) ∧ look ρ "s" = some (mk a e) ∧ look ρ "w" = some (mk c g)) ?_ ?_
        · obtain ⟨s1, m1, e1, b1, eq1, z1, -, -⟩ := mk_forms b f
          repeat (walk_at "mine step")
          refine Ev.item (k := 1) ?_ (by decide)
          repeat (walk_at "mine step")
          refine ⟨_, _, eq1, rfl, ?_⟩
          repeat (walk_at "mine step")
          refine And.intro (fun q => ?_) (fun q => ?_)
          · repeat (walk_at "mine step")
            refine s_div (by decide) (by decide) ?_
            repeat (walk_at "mine step")
            refine s_mod (by decide) ?_
            repeat (walk_at "mine step")
            have hs2 : (first.fdiv 3).fmod 2 = 0 ∨ (first.fdiv 3).fmod 2 = 1 := by
              have := Int.fmod_nonneg_of_pos (first.fdiv 3) (b := 2) (by decide)
              have := Int.fmod_lt_of_pos (first.fdiv 3) (b := 2) (by decide)
              omega
            refine ⟨sgn ((first.fdiv 3).fmod 2) (3 * 2 ^ 0), -1, ?_, ?_, by decide, by decide, ?_, rfl, rfl, rfl⟩
            · unfold sgn; split <;> decide
            · rw [bits_sgn]; exact bits_le.mpr (by decide)
            · rw [mk_sgn hs2 (by decide)]; rfl
          · have hb0 : b ≠ 0 := fun q2 => absurd (z1.mpr q2) (of_decide_eq_false q)
            repeat (walk_at "mine step")
            exact ⟨b, f, hb0, hb', hf1, hf2, rfl, rfl, rfl, rfl⟩
        · clear hf1 hf2 hb' hacc
          rintro ρ ⟨b, f, hb0, hb', hf1, hf2, l1, l2, l3, l4⟩
          -- s
          refine Ex.cut (fun ρ => ∃ a e : Int, bits a ≤ 60 ∧ -30 ≤ e ∧ e ≤ 30 ∧ look ρ "s" = some (mk a e) ∧ look ρ "t" = some (mk b f) ∧ look ρ "first" = some (.int first) ∧ look ρ "w" = some (mk c g)) ?_ ?_
          · repeat (walk_at "mine step")
            refine s_div (by decide) (by decide) ?_
            repeat (walk_at "mine step")
            refine s_mod (by decide) ?_
            repeat (walk_at "mine step")
            refine And.intro (fun q => ?_) (fun q => ?_)
            · repeat (walk_at "mine step")
              refine s_div (by decide) (by decide) ?_
              repeat (walk_at "mine step")
              refine s_mod (by decide) ?_
              repeat (walk_at "mine step")
              have hN : bits ((first.fdiv 24).fmod 99 - 49) ≤ 7 := bits_le.mpr (by
                have := Int.fmod_nonneg_of_pos (first.fdiv 24) (b := 99) (by decide)
                have := Int.fmod_lt_of_pos (first.fdiv 24) (b := 99) (by decide)
                omega)
              have := bits_mul_le hb' hN
              refine ok_mul_int F (n + 5) hb0 (by omega) ?_
              repeat (walk_at "mine step")
              exact ⟨_, f, by omega, hf1, hf2, rfl, l1, l2, l4⟩
            · repeat (walk_at "mine step")
              exact ⟨a, e, by omega, he1, he2, l3, l1, l2, l4⟩
          · clear he1 he2 ha l1 l2 l3 l4
            rintro ρ ⟨a, e, ha, he1, he2, l3, l1, l2, l4⟩
            -- w
            refine Ex.cut (fun ρ => ∃ c g : Int, c ≠ 0 ∧ bits c ≤ 41 ∧ -30 ≤ g ∧ g ≤ 30 ∧ look ρ "w" = some (mk c g) ∧ look ρ "s" = some (mk a e) ∧ look ρ "t" = some (mk b f) ∧ look ρ "first" = some (.int first)) ?_ ?_
            · obtain ⟨s1, m1, e1, b1, eq1, z1, -, -⟩ := mk_forms c g
              repeat (walk_at "mine step")
              refine Ev.item (k := 1) ?_ (by decide)
              repeat (walk_at "mine step")
              refine ⟨_, _, eq1, rfl, ?_⟩
              repeat (walk_at "mine step")
              refine And.intro (fun q => ?_) (fun q => ?_)
              · repeat (walk_at "mine step")
                refine ⟨sgn 0 (1 * 2 ^ 0), 2, by decide, by decide, by decide, by decide, ?_, l3, l1, l2⟩
                rw [mk_sgn (.inl rfl) (by decide)]; rfl
              · have hc0 : c ≠ 0 := fun q2 => absurd (z1.mpr q2) (of_decide_eq_false q)
                repeat (walk_at "mine step")
                exact ⟨c, g, hc0, hc, hg1, hg2, l4, l3, l1, l2⟩
            · clear hg1 hg2 hc l1 l2 l3 l4
              rintro ρ ⟨c, g, hc0, hc, hg1, hg2, l4, l3, l1, l2⟩
              have hp : ∃ p : Nat, first.fmod 3 + 1 = (p : Int) ∧ (p = 1 ∨ p = 2 ∨ p = 3) := by
                have h1 := Int.fmod_nonneg_of_pos first (b := 3) (by decide)
                have h2 := Int.fmod_lt_of_pos first (b := 3) (by decide)
                exact ⟨(first.fmod 3 + 1).toNat, by omega, by omega⟩
              obtain ⟨p, hpe, hp⟩ := hp
              have hn : bits ((first.fdiv 3000).fmod 1001 - 500) ≤ 10 := bits_le.mpr (by
                have := Int.fmod_nonneg_of_pos (first.fdiv 3000) (b := 1001) (by decide)
                have := Int.fmod_lt_of_pos (first.fdiv 3000) (b := 1001) (by decide)
                omega)
              refine Ex.cons ?_
              refine Ex1.swap (xs := ["power", "n"]) ?_ (by decide) (by intro _; rfl) (by rintro ⟨⟩ h; cases h; rfl)
              repeat (walk_at "mine step")
              refine s_mod (by decide) ?_
              repeat (walk_at "mine step")
              refine s_div (by decide) (by decide) ?_
              repeat (walk_at "mine step")
              refine s_mod (by decide) ?_
              repeat (walk_at "mine step")
              rw [hpe]
              refine ⟨_, .inl rfl, rfl, k_next ?_⟩
              obtain ⟨a', ea, hba, _⟩ := common30 a e he1 he2 ha
              obtain ⟨b', eb, hbb, zb⟩ := common30 b f hf1 hf2 (by omega)
              have hb0' : b' ≠ 0 := fun q => hb0 (zb.mp q)
              obtain ⟨s1, m1, e1, b1, eq1, z1, nz1, zz1⟩ := mk_forms a e
              obtain ⟨a2, K2, ea2, hba2, hK2⟩ : ∃ (a2 : Int) (K2 : Nat), mk a (e + (-e1 - b1 + 3)) = mk a2 (-(K2 : Int)) ∧ bits a2 ≤ 400 ∧ K2 ≤ 400 := by
                by_cases ha0 : a = 0
                · subst ha0; exact ⟨0, 0, by rw [mk_zero, mk_zero], by have := bits_zero; omega, by omega⟩
                · obtain ⟨j, hs, M, hM, _, q1, q2, q3⟩ := nz1 ha0
                  have hbM : bits (M : Int) + j = bits a := by rw [q1, bits_sgn, bits_mul_pow (by omega)]
                  refine ⟨a * 2 ^ 3, j + bits (M : Int), ?_, ?_, by omega⟩
                  · rw [mk_shift, q2, q3]; congr 1; omega
                  · have := bits_mul_le ha (show bits (2 ^ 3 : Int) ≤ 4 by decide)
                    omega
              clear nz1 zz1 z1
              have hcn : bits ((c.natAbs : Nat) : Int) ≤ 41 := by rw [bits_natAbs]; exact hc
              have hcp : (0 : Int) < ((c.natAbs : Nat) : Int) := by omega
              repeat (walk_at "mine step")
              refine ok_abs F (n + 8) ?_
              repeat (walk_at "mine step")
              rw [ea, eb]
              refine ok_rest F (n + 1) hb0' hcp (by omega) (by omega) (by omega) (by omega) (by omega) (by omega) ?_
              repeat (walk_at "mine auto")
              rw [ea]
              refine ok_parts F (n + 1) hp (by omega) (by omega) ?_
              repeat (walk_at "mine auto")
              refine Ev.item (k := 2) ?_ (by decide)
              repeat (walk_at "mine auto")
              refine ⟨_, _, eq1, rfl, ?_⟩
              repeat (walk_at "mine auto")
              refine Ev.item (k := 3) ?_ (by decide)
              repeat (walk_at "mine auto")
              refine ⟨_, _, eq1, rfl, ?_⟩
              repeat (walk_at "mine auto")
              refine ok_shift F (n + 8) ?_
              rw [ea2]
              repeat (walk_at "mine auto")
              refine ok_parts F (n + 1) hp (by omega) (by omega) ?_
              repeat (walk_at "mine auto")
              rw [ea, eb]
              refine ok_common F (n + 1) hb0' (by omega) (by omega) (by omega) ?_
              repeat (walk_at "mine auto")
              exact h
  · refine ⟨rfl, ?_⟩
    intro yp hy
    simp only [List.mem_cons, List.not_mem_nil, or_false] at hy
    rcases hy with rfl
    exact ⟨rfl, rfl, rfl⟩
theorem mem_of_look {α : Type} : ∀ {l : List (String × α)} {x : String} {p : α}, l.lookup x = some p → (x, p) ∈ l
  | (y, q) :: l, x, p, h => by
    rw [List.lookup_cons] at h
    by_cases e : x = y
    · subst e; simp at h; subst h; exact .head _
    · have hb : (x == y) = false := by simpa using e
      rw [hb] at h
      exact .tail _ (mem_of_look h)
  | [], _, _, h => by simp at h
theorem glob_str {C : Cx} {x : String} {s : Str} {t : Tok} (h : nsIn C.K mainGlobals (Str.ofString x) = some (some (.str s t))) : GlobIs C x (.str s) := ⟨_, h, fun _ _ => .str _ _⟩
theorem glob_int {C : Cx} {x : String} {i : Int} {t : Tok} (h : nsIn C.K mainGlobals (Str.ofString x) = some (some (.int i t))) : GlobIs C x (.int i) := ⟨_, h, fun _ _ => .int _ _⟩
theorem rep4 {h : Heap} {a : Addr} {i j k l : Int} {t1 t2 t3 t4 : Tok} (x : IsTup h a #[.int i t1, .int j t2, .int k t3, .int l t4]) : Rep h (.ref a) (.nums [i, j, k, l]) :=
  .tup (vs := [.int i t1, .int j t2, .int k t3, .int l t4]) x (.cons (.int _ _) (.cons (.int _ _) (.cons (.int _ _) (.cons (.int _ _) .nil))))
theorem rep2 {h : Heap} {a : Addr} {i j : Int} {t1 t2 : Tok} (x : IsTup h a #[.int i t1, .int j t2]) : Rep h (.ref a) (.nums [i, j]) :=
  .tup (vs := [.int i t1, .int j t2]) x (.cons (.int _ _) (.cons (.int _ _) .nil))
theorem glob_tup {C : Cx} {x : String} {a : Addr} {i j k l : Int} {t1 t2 t3 t4 : Tok} {d : Option Addr} {n : Nat} {sl : Array (Option Value)} (h : nsIn C.K mainGlobals (Str.ofString x) = some (some (.ref a)))
    (h2 : List.lookup a C.K = some ⟨.type "tuple", d, .seq #[.int i t1, .int j t2, .int k t3, .int l t4] n, sl⟩) : GlobIs C x (.nums [i, j, k, l]) :=
  ⟨_, h, fun _ X => rep4 ⟨_, X _ _ h2, rfl, _, rfl⟩⟩
theorem dfl_none {C : Cx} : Dfl C .none [] := .inl ⟨rfl, rfl⟩
theorem dfl_s {C : Cx} {T : Addr} {s : Str} {u : Tok} {oc : Value} {d : Option Addr} {n : Nat} {sl : Array (Option Value)} (h : List.lookup T C.K = some ⟨oc, d, .seq #[.str s u] n, sl⟩) : Dfl C (.ref T) [.str s] :=
  .inr ⟨(fun h => nomatch h), T, _, [.str s u], n, rfl, h, rfl, fun _ _ => .cons (.str _ _) .nil⟩
theorem dfl_is {C : Cx} {T : Addr} {i : Int} {s : Str} {t u : Tok} {oc : Value} {d : Option Addr} {n : Nat} {sl : Array (Option Value)} (h : List.lookup T C.K = some ⟨oc, d, .seq #[.int i t, .str s u] n, sl⟩) : Dfl C (.ref T) [.int i, .str s] :=
  .inr ⟨(fun h => nomatch h), T, _, [.int i t, .str s u], n, rfl, h, rfl, fun _ _ => .cons (.int _ _) (.cons (.str _ _) .nil)⟩
theorem dfl_isi {C : Cx} {T : Addr} {i j : Int} {s : Str} {t u v : Tok} {oc : Value} {d : Option Addr} {n : Nat} {sl : Array (Option Value)} (h : List.lookup T C.K = some ⟨oc, d, .seq #[.int i t, .str s u, .int j v] n, sl⟩) : Dfl C (.ref T) [.int i, .str s, .int j] :=
  .inr ⟨(fun h => nomatch h), T, _, [.int i t, .str s u, .int j v], n, rfl, h, rfl, fun _ _ => .cons (.int _ _) (.cons (.str _ _) (.cons (.int _ _) .nil))⟩
theorem dfl_isb {C : Cx} {T : Addr} {i : Int} {b : Bool} {s : Str} {t u : Tok} {oc : Value} {d : Option Addr} {n : Nat} {sl : Array (Option Value)} (h : List.lookup T C.K = some ⟨oc, d, .seq #[.int i t, .str s u, .bool b] n, sl⟩) : Dfl C (.ref T) [.int i, .str s, .bool b] :=
  .inr ⟨(fun h => nomatch h), T, _, [.int i t, .str s u, .bool b], n, rfl, h, rfl, fun _ _ => .cons (.int _ _) (.cons (.str _ _) (.cons (.bool _) .nil))⟩
theorem def_at {C : Cx} {x : String} {params : Arguments} {body : List Stmt} {scope : Scope} {dfl : List PV} {f : Addr} {oc : Value} {od : Option Addr} {osl : Array (Option Value)} {dV kV doc pm : Value} {an : Option Addr} {cdv ct : Value}
    (h1 : nsIn C.K mainGlobals (Str.ofString x) = some (some (.ref f))) (h2 : List.lookup f C.K = some ⟨oc, od, .func (fnOf (Str.ofString x) (Str.ofString x) params body scope dV kV doc pm an cdv ct), osl⟩) (h3 : codeIn C.K cdv (Str.ofString x) = true) (h4 : Dfl C dV dfl) : DefAt C x params body scope dfl :=
  ⟨f, oc, od, osl, dV, kV, doc, pm, an, cdv, ct, h1, h2, h3, h4⟩
theorem tab_at {C : Cx} {a : Addr} {x : Str} {es : Array DictEntry} {k : Nat} {T : Addr} {i j : Int} {t1 t2 : Tok} {d : Option Addr} {n : Nat} {sl : Array (Option Value)} (h1 : List.lookup a C.K = some ⟨.type "dict", none, .dict es k, #[]⟩) (h2 : KeysLit C.w.params es.toList)
    (h3 : nsIn C.K a x = some (some (.ref T))) (h4 : List.lookup T C.K = some ⟨.type "tuple", d, .seq #[.int i t1, .int j t2] n, sl⟩) : TabAt C a x (.nums [i, j]) :=
  ⟨es, k, h1, h2, _, h3, fun _ X => rep2 ⟨_, X _ _ h4, rfl, _, rfl⟩⟩
theorem sd_at {C : Cx} {a : Addr} {p q : PV} (h : nsIn C.K mainGlobals (Str.ofString "shifts_down") = some (some (.ref a))) (h1 : TabAt C a sf p) (h2 : TabAt C a scc q) : ∃ a, nsIn C.K mainGlobals (Str.ofString "shifts_down") = some (some (.ref a)) ∧ TabAt C a sf p ∧ TabAt C a scc q := ⟨a, h, h1, h2⟩
theorem ints_rep {h : Heap} {vs : List Value} {ns : List Int} (x : IntsAre vs ns) : Reps h vs (ns.map .int) := by
  induction x with
  | nil => exact .nil
  | cons n t _ ih => exact .cons (.int _ _) ih
theorem names_one {env : Env} {h : Heap} {c : Addr} {v : Value} {p : PV} (hk : env.kindOf (Str.ofString "script") = some .cell) (hc : env.cells.lookup (Str.ofString "script") = some c) (hv : h.IsCell c (some v)) (r : Rep h v p) : Names env h [("script", p)] := by
  intro x q e
  have hm := look_mem e
  rw [List.mem_singleton] at hm
  cases hm
  exact ⟨by decide, v, .cell c hk hc hv, r⟩
theorem law_ex {C : Cx} (F : Facts C) {l : List Int} (hl : l.length ≤ 63) (hb : PyData.layable0 (.list (l.map .int)) = true) {params : Arguments} {body : List Stmt} {scope : Scope} {nm : Str} {ds : List Expr} {rt : Option Expr} {tp : _} {ts : _} {bd : _} {pos : Pos} (hst : stOf "law" = .FunctionDef nm params body ds rt tp scope ts bd pos) :
    Ex C scope 9 [("script", .list (l.map .int))] body (toRet fun p => p = .bool true) := by
  have := law_body F 0 (l := l) (by omega) (fun a ha => by have := intBits_le_of_item ha hb; unfold bits; omega) (φ := fun p => p = .bool true) rfl
  rw [hst] at this
  exact this
end Mine
theorem PySem.Challenge.cw_aj5014_01_holds : PySem.Challenge.rw_aj5014_01.Holds :=
  Mine.hd (by
  k_go0
  rename Frag.In _ _ => kx
  rename Top _ _ _ _ _ _ => kt
  rename World => w
  have hF : ∀ C : Mine.Cx, C.K = Mine.hd.heap_39 w.params → C.w = w → Mine.Facts C := by
    rintro ⟨c1, c2, c3, c4, c5, c6, c7, c8⟩ e1 e2
    dsimp only at e1 e2
    subst e1 e2
    refine ⟨?_, ?_, ?_, ?_⟩
    · suffices all : ∀ yp ∈ Mine.gtab, Mine.GlobIs _ yp.1 yp.2 from fun x p h => all (x, p) (Mine.mem_of_look h)
      unfold Mine.gtab
      refine List.forall_mem_cons.mpr (And.intro ?_ ?_)
      · exact Mine.glob_str (x := "round_nearest") (by (show nsIn (Mine.hd.heap_39 _) _ _ = _); k_is)
      refine List.forall_mem_cons.mpr (And.intro ?_ ?_)
      · exact Mine.glob_str (x := "round_floor") (by (show nsIn (Mine.hd.heap_39 _) _ _ = _); k_is)
      refine List.forall_mem_cons.mpr (And.intro ?_ ?_)
      · exact Mine.glob_str (x := "round_ceiling") (by (show nsIn (Mine.hd.heap_39 _) _ _ = _); k_is)
      refine List.forall_mem_cons.mpr (And.intro ?_ ?_)
      · exact Mine.glob_str (x := "round_down") (by (show nsIn (Mine.hd.heap_39 _) _ _ = _); k_is)
      refine List.forall_mem_cons.mpr (And.intro ?_ ?_)
      · exact Mine.glob_str (x := "round_fast") (by (show nsIn (Mine.hd.heap_39 _) _ _ = _); k_is)
      refine List.forall_mem_cons.mpr (And.intro ?_ ?_)
      · exact Mine.glob_int (x := "MPZ_ONE") (by (show nsIn (Mine.hd.heap_39 _) _ _ = _); k_is)
      refine List.forall_mem_cons.mpr (And.intro ?_ ?_)
      · exact Mine.glob_int (x := "MPZ_ZERO") (by (show nsIn (Mine.hd.heap_39 _) _ _ = _); k_is)
      refine List.forall_mem_cons.mpr (And.intro ?_ ?_)
      · exact Mine.glob_tup (x := "fzero") (by (show nsIn (Mine.hd.heap_39 _) _ _ = _); k_is) (by (show List.lookup _ (Mine.hd.heap_39 _) = _); k_is)
      refine List.forall_mem_cons.mpr (And.intro ?_ ?_)
      · exact Mine.glob_tup (x := "fone") (by (show nsIn (Mine.hd.heap_39 _) _ _ = _); k_is) (by (show List.lookup _ (Mine.hd.heap_39 _) = _); k_is)
      refine List.forall_mem_cons.mpr (And.intro ?_ ?_)
      · exact Mine.glob_tup (x := "fnone") (by (show nsIn (Mine.hd.heap_39 _) _ _ = _); k_is) (by (show List.lookup _ (Mine.hd.heap_39 _) = _); k_is)
      refine List.forall_mem_cons.mpr (And.intro ?_ ?_)
      · exact Mine.glob_tup (x := "fnan") (by (show nsIn (Mine.hd.heap_39 _) _ _ = _); k_is) (by (show List.lookup _ (Mine.hd.heap_39 _) = _); k_is)
      refine List.forall_mem_cons.mpr (And.intro ?_ ?_)
      · exact Mine.glob_tup (x := "finf") (by (show nsIn (Mine.hd.heap_39 _) _ _ = _); k_is) (by (show List.lookup _ (Mine.hd.heap_39 _) = _); k_is)
      refine List.forall_mem_cons.mpr (And.intro ?_ ?_)
      · exact Mine.glob_tup (x := "fninf") (by (show nsIn (Mine.hd.heap_39 _) _ _ = _); k_is) (by (show List.lookup _ (Mine.hd.heap_39 _) = _); k_is)
      intro _ h; cases h
    · suffices all : ∀ yp ∈ Mine.btab, Mine.BuiltIs _ yp.1 yp.2 from fun x p h => all (x, p) (Mine.mem_of_look h)
      unfold Mine.btab
      refine List.forall_mem_cons.mpr (And.intro ?_ ?_)
      · exact ⟨(by (show nsIn (Mine.hd.heap_39 _) _ _ = _); k_is), by (show bootBuiltins (Str.ofString "min") = some _); boot_fast⟩
      refine List.forall_mem_cons.mpr (And.intro ?_ ?_)
      · exact ⟨(by (show nsIn (Mine.hd.heap_39 _) _ _ = _); k_is), by (show bootBuiltins (Str.ofString "divmod") = some _); boot_fast⟩
      refine List.forall_mem_cons.mpr (And.intro ?_ ?_)
      · exact ⟨(by (show nsIn (Mine.hd.heap_39 _) _ _ = _); k_is), by (show bootBuiltins (Str.ofString "isinstance") = some _); boot_fast⟩
      refine List.forall_mem_cons.mpr (And.intro ?_ ?_)
      · exact ⟨(by (show nsIn (Mine.hd.heap_39 _) _ _ = _); k_is), by (show bootBuiltins (Str.ofString "int") = some _); boot_fast⟩
      refine List.forall_mem_cons.mpr (And.intro ?_ ?_)
      · exact ⟨(by (show nsIn (Mine.hd.heap_39 _) _ _ = _); k_is), by (show bootBuiltins (Str.ofString "range") = some _); boot_fast⟩
      refine List.forall_mem_cons.mpr (And.intro ?_ ?_)
      · exact ⟨(by (show nsIn (Mine.hd.heap_39 _) _ _ = _); k_is), by (show bootBuiltins (Str.ofString "len") = some _); boot_fast⟩
      intro _ h; cases h
    · suffices all : ∀ yp ∈ Mine.dtab, Mine.DefSt _ yp.1 yp.2 (Mine.stOf yp.1) from fun x p h => all (x, p) (Mine.mem_of_look h)
      unfold Mine.dtab
      refine List.forall_mem_cons.mpr (And.intro ?_ ?_)
      · (show Mine.DefAt _ "trailing" _ _ _ _); exact Mine.def_at (by (show nsIn (Mine.hd.heap_39 _) _ _ = _); k_is) (by (show List.lookup _ (Mine.hd.heap_39 _) = _); k_is) (by (show codeIn (Mine.hd.heap_39 _) _ _ = _); k_is) (by exact Mine.dfl_none)
      refine List.forall_mem_cons.mpr (And.intro ?_ ?_)
      · (show Mine.DefAt _ "round_int" _ _ _ _); exact Mine.def_at (by (show nsIn (Mine.hd.heap_39 _) _ _ = _); k_is) (by (show List.lookup _ (Mine.hd.heap_39 _) = _); k_is) (by (show codeIn (Mine.hd.heap_39 _) _ _ = _); k_is) (by exact Mine.dfl_none)
      refine List.forall_mem_cons.mpr (And.intro ?_ ?_)
      · (show Mine.DefAt _ "_normalize" _ _ _ _); exact Mine.def_at (by (show nsIn (Mine.hd.heap_39 _) _ _ = _); k_is) (by (show List.lookup _ (Mine.hd.heap_39 _) = _); k_is) (by (show codeIn (Mine.hd.heap_39 _) _ _ = _); k_is) (by exact Mine.dfl_none)
      refine List.forall_mem_cons.mpr (And.intro ?_ ?_)
      · (show Mine.DefAt _ "normalize" _ _ _ _); exact Mine.def_at (by (show nsIn (Mine.hd.heap_39 _) _ _ = _); k_is) (by (show List.lookup _ (Mine.hd.heap_39 _) = _); k_is) (by (show codeIn (Mine.hd.heap_39 _) _ _ = _); k_is) (by exact Mine.dfl_none)
      refine List.forall_mem_cons.mpr (And.intro ?_ ?_)
      · (show Mine.DefAt _ "from_man_exp" _ _ _ _); exact Mine.def_at (by (show nsIn (Mine.hd.heap_39 _) _ _ = _); k_is) (by (show List.lookup _ (Mine.hd.heap_39 _) = _); k_is) (by (show codeIn (Mine.hd.heap_39 _) _ _ = _); k_is) (by exact Mine.dfl_is (by (show List.lookup _ (Mine.hd.heap_39 _) = _); k_is))
      refine List.forall_mem_cons.mpr (And.intro ?_ ?_)
      · (show Mine.DefAt _ "from_int" _ _ _ _); exact Mine.def_at (by (show nsIn (Mine.hd.heap_39 _) _ _ = _); k_is) (by (show List.lookup _ (Mine.hd.heap_39 _) = _); k_is) (by (show codeIn (Mine.hd.heap_39 _) _ _ = _); k_is) (by exact Mine.dfl_is (by (show List.lookup _ (Mine.hd.heap_39 _) = _); k_is))
      refine List.forall_mem_cons.mpr (And.intro ?_ ?_)
      · (show Mine.DefAt _ "to_int" _ _ _ _); exact Mine.def_at (by (show nsIn (Mine.hd.heap_39 _) _ _ = _); k_is) (by (show List.lookup _ (Mine.hd.heap_39 _) = _); k_is) (by (show codeIn (Mine.hd.heap_39 _) _ _ = _); k_is) (by exact Mine.dfl_s (by (show List.lookup _ (Mine.hd.heap_39 _) = _); k_is))
      refine List.forall_mem_cons.mpr (And.intro ?_ ?_)
      · (show Mine.DefAt _ "mpf_round_int" _ _ _ _); exact Mine.def_at (by (show nsIn (Mine.hd.heap_39 _) _ _ = _); k_is) (by (show List.lookup _ (Mine.hd.heap_39 _) = _); k_is) (by (show codeIn (Mine.hd.heap_39 _) _ _ = _); k_is) (by exact Mine.dfl_none)
      refine List.forall_mem_cons.mpr (And.intro ?_ ?_)
      · (show Mine.DefAt _ "mpf_floor" _ _ _ _); exact Mine.def_at (by (show nsIn (Mine.hd.heap_39 _) _ _ = _); k_is) (by (show List.lookup _ (Mine.hd.heap_39 _) = _); k_is) (by (show codeIn (Mine.hd.heap_39 _) _ _ = _); k_is) (by exact Mine.dfl_is (by (show List.lookup _ (Mine.hd.heap_39 _) = _); k_is))
      refine List.forall_mem_cons.mpr (And.intro ?_ ?_)
      · (show Mine.DefAt _ "mpf_ceil" _ _ _ _); exact Mine.def_at (by (show nsIn (Mine.hd.heap_39 _) _ _ = _); k_is) (by (show List.lookup _ (Mine.hd.heap_39 _) = _); k_is) (by (show codeIn (Mine.hd.heap_39 _) _ _ = _); k_is) (by exact Mine.dfl_is (by (show List.lookup _ (Mine.hd.heap_39 _) = _); k_is))
      refine List.forall_mem_cons.mpr (And.intro ?_ ?_)
      · (show Mine.DefAt _ "mpf_nint" _ _ _ _); exact Mine.def_at (by (show nsIn (Mine.hd.heap_39 _) _ _ = _); k_is) (by (show List.lookup _ (Mine.hd.heap_39 _) = _); k_is) (by (show codeIn (Mine.hd.heap_39 _) _ _ = _); k_is) (by exact Mine.dfl_is (by (show List.lookup _ (Mine.hd.heap_39 _) = _); k_is))
      refine List.forall_mem_cons.mpr (And.intro ?_ ?_)
      · (show Mine.DefAt _ "mpf_frac" _ _ _ _); exact Mine.def_at (by (show nsIn (Mine.hd.heap_39 _) _ _ = _); k_is) (by (show List.lookup _ (Mine.hd.heap_39 _) = _); k_is) (by (show codeIn (Mine.hd.heap_39 _) _ _ = _); k_is) (by exact Mine.dfl_is (by (show List.lookup _ (Mine.hd.heap_39 _) = _); k_is))
      refine List.forall_mem_cons.mpr (And.intro ?_ ?_)
      · (show Mine.DefAt _ "mpf_cmp" _ _ _ _); exact Mine.def_at (by (show nsIn (Mine.hd.heap_39 _) _ _ = _); k_is) (by (show List.lookup _ (Mine.hd.heap_39 _) = _); k_is) (by (show codeIn (Mine.hd.heap_39 _) _ _ = _); k_is) (by exact Mine.dfl_none)
      refine List.forall_mem_cons.mpr (And.intro ?_ ?_)
      · (show Mine.DefAt _ "mpf_lt" _ _ _ _); exact Mine.def_at (by (show nsIn (Mine.hd.heap_39 _) _ _ = _); k_is) (by (show List.lookup _ (Mine.hd.heap_39 _) = _); k_is) (by (show codeIn (Mine.hd.heap_39 _) _ _ = _); k_is) (by exact Mine.dfl_none)
      refine List.forall_mem_cons.mpr (And.intro ?_ ?_)
      · (show Mine.DefAt _ "mpf_le" _ _ _ _); exact Mine.def_at (by (show nsIn (Mine.hd.heap_39 _) _ _ = _); k_is) (by (show List.lookup _ (Mine.hd.heap_39 _) = _); k_is) (by (show codeIn (Mine.hd.heap_39 _) _ _ = _); k_is) (by exact Mine.dfl_none)
      refine List.forall_mem_cons.mpr (And.intro ?_ ?_)
      · (show Mine.DefAt _ "mpf_pos" _ _ _ _); exact Mine.def_at (by (show nsIn (Mine.hd.heap_39 _) _ _ = _); k_is) (by (show List.lookup _ (Mine.hd.heap_39 _) = _); k_is) (by (show codeIn (Mine.hd.heap_39 _) _ _ = _); k_is) (by exact Mine.dfl_is (by (show List.lookup _ (Mine.hd.heap_39 _) = _); k_is))
      refine List.forall_mem_cons.mpr (And.intro ?_ ?_)
      · (show Mine.DefAt _ "mpf_neg" _ _ _ _); exact Mine.def_at (by (show nsIn (Mine.hd.heap_39 _) _ _ = _); k_is) (by (show List.lookup _ (Mine.hd.heap_39 _) = _); k_is) (by (show codeIn (Mine.hd.heap_39 _) _ _ = _); k_is) (by exact Mine.dfl_is (by (show List.lookup _ (Mine.hd.heap_39 _) = _); k_is))
      refine List.forall_mem_cons.mpr (And.intro ?_ ?_)
      · (show Mine.DefAt _ "mpf_abs" _ _ _ _); exact Mine.def_at (by (show nsIn (Mine.hd.heap_39 _) _ _ = _); k_is) (by (show List.lookup _ (Mine.hd.heap_39 _) = _); k_is) (by (show codeIn (Mine.hd.heap_39 _) _ _ = _); k_is) (by exact Mine.dfl_is (by (show List.lookup _ (Mine.hd.heap_39 _) = _); k_is))
      refine List.forall_mem_cons.mpr (And.intro ?_ ?_)
      · (show Mine.DefAt _ "mpf_sign" _ _ _ _); exact Mine.def_at (by (show nsIn (Mine.hd.heap_39 _) _ _ = _); k_is) (by (show List.lookup _ (Mine.hd.heap_39 _) = _); k_is) (by (show codeIn (Mine.hd.heap_39 _) _ _ = _); k_is) (by exact Mine.dfl_none)
      refine List.forall_mem_cons.mpr (And.intro ?_ ?_)
      · (show Mine.DefAt _ "mpf_add" _ _ _ _); exact Mine.def_at (by (show nsIn (Mine.hd.heap_39 _) _ _ = _); k_is) (by (show List.lookup _ (Mine.hd.heap_39 _) = _); k_is) (by (show codeIn (Mine.hd.heap_39 _) _ _ = _); k_is) (by exact Mine.dfl_isi (by (show List.lookup _ (Mine.hd.heap_39 _) = _); k_is))
      refine List.forall_mem_cons.mpr (And.intro ?_ ?_)
      · (show Mine.DefAt _ "mpf_sub" _ _ _ _); exact Mine.def_at (by (show nsIn (Mine.hd.heap_39 _) _ _ = _); k_is) (by (show List.lookup _ (Mine.hd.heap_39 _) = _); k_is) (by (show codeIn (Mine.hd.heap_39 _) _ _ = _); k_is) (by exact Mine.dfl_is (by (show List.lookup _ (Mine.hd.heap_39 _) = _); k_is))
      refine List.forall_mem_cons.mpr (And.intro ?_ ?_)
      · (show Mine.DefAt _ "mpf_sum" _ _ _ _); exact Mine.def_at (by (show nsIn (Mine.hd.heap_39 _) _ _ = _); k_is) (by (show List.lookup _ (Mine.hd.heap_39 _) = _); k_is) (by (show codeIn (Mine.hd.heap_39 _) _ _ = _); k_is) (by exact Mine.dfl_isb (by (show List.lookup _ (Mine.hd.heap_39 _) = _); k_is))
      refine List.forall_mem_cons.mpr (And.intro ?_ ?_)
      · (show Mine.DefAt _ "mpf_mul" _ _ _ _); exact Mine.def_at (by (show nsIn (Mine.hd.heap_39 _) _ _ = _); k_is) (by (show List.lookup _ (Mine.hd.heap_39 _) = _); k_is) (by (show codeIn (Mine.hd.heap_39 _) _ _ = _); k_is) (by exact Mine.dfl_is (by (show List.lookup _ (Mine.hd.heap_39 _) = _); k_is))
      refine List.forall_mem_cons.mpr (And.intro ?_ ?_)
      · (show Mine.DefAt _ "mpf_mul_int" _ _ _ _); exact Mine.def_at (by (show nsIn (Mine.hd.heap_39 _) _ _ = _); k_is) (by (show List.lookup _ (Mine.hd.heap_39 _) = _); k_is) (by (show codeIn (Mine.hd.heap_39 _) _ _ = _); k_is) (by exact Mine.dfl_s (by (show List.lookup _ (Mine.hd.heap_39 _) = _); k_is))
      refine List.forall_mem_cons.mpr (And.intro ?_ ?_)
      · (show Mine.DefAt _ "mpf_shift" _ _ _ _); exact Mine.def_at (by (show nsIn (Mine.hd.heap_39 _) _ _ = _); k_is) (by (show List.lookup _ (Mine.hd.heap_39 _) = _); k_is) (by (show codeIn (Mine.hd.heap_39 _) _ _ = _); k_is) (by exact Mine.dfl_none)
      refine List.forall_mem_cons.mpr (And.intro ?_ ?_)
      · (show Mine.DefAt _ "mpf_div" _ _ _ _); exact Mine.def_at (by (show nsIn (Mine.hd.heap_39 _) _ _ = _); k_is) (by (show List.lookup _ (Mine.hd.heap_39 _) = _); k_is) (by (show codeIn (Mine.hd.heap_39 _) _ _ = _); k_is) (by exact Mine.dfl_s (by (show List.lookup _ (Mine.hd.heap_39 _) = _); k_is))
      refine List.forall_mem_cons.mpr (And.intro ?_ ?_)
      · (show Mine.DefAt _ "mpf_mod" _ _ _ _); exact Mine.def_at (by (show nsIn (Mine.hd.heap_39 _) _ _ = _); k_is) (by (show List.lookup _ (Mine.hd.heap_39 _) = _); k_is) (by (show codeIn (Mine.hd.heap_39 _) _ _ = _); k_is) (by exact Mine.dfl_s (by (show List.lookup _ (Mine.hd.heap_39 _) = _); k_is))
      refine List.forall_mem_cons.mpr (And.intro ?_ ?_)
      · (show Mine.DefAt _ "_law_mixed" _ _ _ _); exact Mine.def_at (by (show nsIn (Mine.hd.heap_39 _) _ _ = _); k_is) (by (show List.lookup _ (Mine.hd.heap_39 _) = _); k_is) (by (show codeIn (Mine.hd.heap_39 _) _ _ = _); k_is) (by exact Mine.dfl_none)
      refine List.forall_mem_cons.mpr (And.intro ?_ ?_)
      · (show Mine.DefAt _ "_law_raw" _ _ _ _); exact Mine.def_at (by (show nsIn (Mine.hd.heap_39 _) _ _ = _); k_is) (by (show List.lookup _ (Mine.hd.heap_39 _) = _); k_is) (by (show codeIn (Mine.hd.heap_39 _) _ _ = _); k_is) (by exact Mine.dfl_none)
      refine List.forall_mem_cons.mpr (And.intro ?_ ?_)
      · (show Mine.DefAt _ "_law_rest_right" _ _ _ _); exact Mine.def_at (by (show nsIn (Mine.hd.heap_39 _) _ _ = _); k_is) (by (show List.lookup _ (Mine.hd.heap_39 _) = _); k_is) (by (show codeIn (Mine.hd.heap_39 _) _ _ = _); k_is) (by exact Mine.dfl_none)
      refine List.forall_mem_cons.mpr (And.intro ?_ ?_)
      · (show Mine.DefAt _ "_law_parts_right" _ _ _ _); exact Mine.def_at (by (show nsIn (Mine.hd.heap_39 _) _ _ = _); k_is) (by (show List.lookup _ (Mine.hd.heap_39 _) = _); k_is) (by (show codeIn (Mine.hd.heap_39 _) _ _ = _); k_is) (by exact Mine.dfl_none)
      refine List.forall_mem_cons.mpr (And.intro ?_ ?_)
      · (show Mine.DefAt _ "_law_common_right" _ _ _ _); exact Mine.def_at (by (show nsIn (Mine.hd.heap_39 _) _ _ = _); k_is) (by (show List.lookup _ (Mine.hd.heap_39 _) = _); k_is) (by (show codeIn (Mine.hd.heap_39 _) _ _ = _); k_is) (by exact Mine.dfl_none)
      intro _ h; cases h
    · exact Mine.sd_at (by (show nsIn (Mine.hd.heap_39 _) _ _ = _); k_is) (by exact Mine.tab_at (by (show List.lookup _ (Mine.hd.heap_39 _) = _); k_is) (by k_keys) (by (show nsIn (Mine.hd.heap_39 _) _ _ = _); k_is) (by (show List.lookup _ (Mine.hd.heap_39 _) = _); k_is)) (by exact Mine.tab_at (by (show List.lookup _ (Mine.hd.heap_39 _) = _); k_is) (by k_keys) (by (show nsIn (Mine.hd.heap_39 _) _ _ = _); k_is) (by (show List.lookup _ (Mine.hd.heap_39 _) = _); k_is))
  rename Fr _ _ _ _ => kF
  rename News _ _ _ _ => kN
  rename IntsAre _ _ => kI
  rename Heap.IsList _ _ _ => kL
  rename _ = Data.cell _ => kD
  rename (PyData.layable0 _ = true) => kl
  rename (_ = (#[] : Array _)) => kg
  rename List Int => l
  have hlen : l.length ≤ 63 := by omega
  refine Mine.law_ex (hF ⟨_, w, Mine.hd.heap_39 w.params, _, _, _, _, _⟩ rfl rfl) hlen kl rfl _ _ _ _ _ _ rfl ⟨rfl, rfl, rfl⟩ ?_ ⟨⟨_, kF⟩, ⟨kx, kt⟩, ?_⟩ ?_ ?_
  · exact ⟨by (show callerA.depth + 1 + 9 < _); decide, by (show callerA.units + 3 + 8 * 9 + 80 < _); decide, rfl⟩
  · exact Mine.names_one rfl rfl ⟨_, (kN _ (.head _)).1, kD⟩ (.list (Mine.IsList.sk kL (Mine.Keep.seq (fun b o e => kF.keep b o e))) (Mine.ints_rep kI))
  · intro h' tk' ρ' hp _ _
    cases hp
  · intro h' tk' v p hp hk hr
    cases hp
    cases hr
    refine ⟨.inl ⟨_, _, [], rfl, fun _ => rfl, .bool _, ?_, fun _ => ⟨List.nodup_nil, fun a ha => by cases ha⟩⟩, hk, rfl, kg⟩
    first | rfl | with_unfolding_all rfl | kernel_rfl | (show (_ && _) = true; rw [Bool.and_eq_true]; exact ⟨by with_unfolding_all rfl, by with_unfolding_all rfl⟩) | (unfold Challenge.rw_aj5014_01; trace_state; simp))
