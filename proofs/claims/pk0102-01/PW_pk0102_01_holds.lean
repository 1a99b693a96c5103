import PyProof.Rows.All
import Wide.All
import OpenK.AllK
import Wide.FinOn
import PySem.Challenge.RW_pk0102_01
section PartB0
open PySem PySem.W PyProof.Rows PySem.Calls
set_option Elab.async false
set_option maxRecDepth 100000
set_option linter.unusedVariables false
namespace Mine
abbrev p0 : Program := PySem.Challenge.pw_pk0102_01

/-! ## pure data, and how a heap bears it -/
inductive PV where
  | none
  | bool (b : Bool)
  | int (i : Int)
  | str (x : Str)
  | tup (l : List PV)
  | lst (l : List PV)
  | raw (v : Value)

abbrev Ext (h h' : Heap) : Prop := ∀ b o, h.get? b = some o → h'.get? b = some o
theorem Ext.refl (h : Heap) : Ext h h := fun _ _ e => e
theorem Ext.trans {a b c : Heap} (x : Ext a b) (y : Ext b c) : Ext a c := fun d o e => y d o (x d o e)
theorem Ext.push (h : Heap) (o : Obj) : Ext h (h.push o) := fun _ _ e => Heap.get?_push_of_some o e
/-- what bears a sequence stays -/
abbrev ExtS (h h' : Heap) : Prop := ∀ b o, h.get? b = some o → (∃ vs n, o.data = .seq vs n) → h'.get? b = some o
theorem Ext.s {h h' : Heap} (x : Ext h h') : ExtS h h' := fun b o e _ => x b o e

mutual
def Rep (h : Heap) : PV → Value → Prop
  | .none, v => v = .none
  | .bool b, v => v = .bool b
  | .int i, v => ∃ t, v = .int i t
  | .str x, v => ∃ t, v = .str x t
  | .tup l, v => ∃ a vs, v = .ref a ∧ IsTup h a vs.toArray ∧ RepL h l vs
  | .lst l, v => ∃ a vs, v = .ref a ∧ h.IsList a vs.toArray ∧ RepL h l vs
  | .raw u, v => v = u
def RepL (h : Heap) : List PV → List Value → Prop
  | [], vs => vs = []
  | p :: l, vs => ∃ v r, vs = v :: r ∧ Rep h p v ∧ RepL h l r
end

mutual
theorem Rep.keepS {h h' : Heap} (k : ExtS h h') : ∀ (p : PV) {v : Value}, Rep h p v → Rep h' p v
  | .none, _, x => x
  | .bool _, _, x => x
  | .int _, _, x => x
  | .str _, _, x => x
  | .tup l, _, x => by
    unfold Rep at x ⊢
    obtain ⟨a, vs, e, ⟨o, ho, hc, n, hd⟩, r⟩ := x
    exact ⟨a, vs, e, ⟨o, k a o ho ⟨_, _, hd⟩, hc, n, hd⟩, RepL.keepS k l r⟩
  | .lst l, _, x => by
    unfold Rep at x ⊢
    obtain ⟨a, vs, e, ⟨o, ho, hc, n, hd⟩, r⟩ := x
    exact ⟨a, vs, e, ⟨o, k a o ho ⟨_, _, hd⟩, hc, n, hd⟩, RepL.keepS k l r⟩
  | .raw _, _, x => x
theorem RepL.keepS {h h' : Heap} (k : ExtS h h') : ∀ (l : List PV) {vs : List Value}, RepL h l vs → RepL h' l vs
  | [], _, x => x
  | p :: l, _, x => by
    unfold RepL at x ⊢
    obtain ⟨v, r, e, a, b⟩ := x
    exact ⟨v, r, e, Rep.keepS k p a, RepL.keepS k l b⟩
end
theorem Rep.ext {h h' : Heap} {p : PV} {v : Value} (x : Rep h p v) (k : Ext h h') : Rep h' p v := Rep.keepS k.s p x
theorem RepL.ext {h h' : Heap} {l : List PV} {vs : List Value} (x : RepL h l vs) (k : Ext h h') : RepL h' l vs := RepL.keepS k.s l x
theorem RepL.length {h : Heap} : ∀ {l : List PV} {vs : List Value}, RepL h l vs → vs.length = l.length
  | [], _, x => by unfold RepL at x; subst x; rfl
  | _ :: l, _, x => by
    unfold RepL at x
    obtain ⟨v, r, rfl, _, b⟩ := x
    simp [RepL.length b]
theorem RepL.get {h : Heap} : ∀ {l : List PV} {vs : List Value} {i : Nat} {p : PV}, RepL h l vs → l[i]? = some p → ∃ v, vs[i]? = some v ∧ Rep h p v
  | [], _, _, _, _, e => by simp at e
  | q :: l, _, 0, p, x, e => by
    unfold RepL at x
    obtain ⟨v, r, rfl, a, b⟩ := x
    simp at e; subst e
    exact ⟨v, by simp, a⟩
  | q :: l, _, i + 1, p, x, e => by
    unfold RepL at x
    obtain ⟨v, r, rfl, a, b⟩ := x
    simp at e
    obtain ⟨u, hu, hr⟩ := RepL.get b e
    exact ⟨u, by simpa using hu, hr⟩
theorem RepL.snoc {h : Heap} {p : PV} {v : Value} : ∀ {l : List PV} {vs : List Value}, RepL h l vs → Rep h p v → RepL h (l ++ [p]) (vs ++ [v])
  | [], _, x, y => by unfold RepL at x; subst x; unfold RepL; exact ⟨v, [], rfl, y, by unfold RepL; rfl⟩
  | q :: l, _, x, y => by
    unfold RepL at x
    obtain ⟨u, r, rfl, a, b⟩ := x
    show RepL h (q :: (l ++ [p])) (u :: (r ++ [v]))
    unfold RepL
    exact ⟨u, r ++ [v], rfl, a, RepL.snoc b y⟩
theorem RepL.append {h : Heap} : ∀ {l l' : List PV} {vs vs' : List Value}, RepL h l vs → RepL h l' vs' → RepL h (l ++ l') (vs ++ vs')
  | [], _, _, _, x, y => by unfold RepL at x; subst x; exact y
  | q :: l, l', _, vs', x, y => by
    unfold RepL at x
    obtain ⟨u, r, rfl, a, b⟩ := x
    show RepL h (q :: (l ++ l')) (u :: (r ++ vs'))
    unfold RepL
    exact ⟨u, r ++ vs', rfl, a, RepL.append b y⟩
theorem RepL.take {h : Heap} (n : Nat) : ∀ {l : List PV} {vs : List Value}, RepL h l vs → RepL h (l.take n) (vs.take n) := by
  induction n with
  | zero => intro l vs _; simp; unfold RepL; rfl
  | succ n ih =>
    intro l vs x
    cases l with
    | nil => unfold RepL at x; subst x; simp; unfold RepL; rfl
    | cons q l =>
      unfold RepL at x
      obtain ⟨u, r, rfl, a, b⟩ := x
      show RepL h (q :: l.take n) (u :: r.take n)
      unfold RepL
      exact ⟨u, r.take n, rfl, a, ih b⟩
theorem RepL.drop {h : Heap} (n : Nat) : ∀ {l : List PV} {vs : List Value}, RepL h l vs → RepL h (l.drop n) (vs.drop n) := by
  induction n with
  | zero => intro l vs x; simpa using x
  | succ n ih =>
    intro l vs x
    cases l with
    | nil => unfold RepL at x; subst x; simp; unfold RepL; rfl
    | cons q l =>
      unfold RepL at x
      obtain ⟨u, r, rfl, a, b⟩ := x
      exact ih b

/-! ## what stands behind the top -/
/-- the def of that name stands at that address -/
def FnAt (h : Heap) (a : Addr) (f : Str) : Prop :=
  ∃ o pm cd doc params body scope, p0.theDef f = some (params, body, scope) ∧ h.get? a = some o ∧ o.data = .func (docDef f params body scope pm cd doc) ∧ h.CodeRec cd f
theorem FnAt.ext {h h' : Heap} {a : Addr} {f : Str} (x : FnAt h a f) (k : Ext h h') : FnAt h' a f :=
  let ⟨o, pm, cd, doc, ps, b, sc, e, ho, hd, hc⟩ := x
  ⟨o, pm, cd, doc, ps, b, sc, e, k _ _ ho, hd, hc.keeps k⟩
end Mine

end PartB0
section PartB1
open PySem PySem.W PyProof.Rows PySem.Calls
set_option Elab.async false
set_option maxRecDepth 100000
set_option linter.unusedVariables false
namespace Mine

/-! ## the tables of the text, as plain functions -/
def inB1 (c : Int) : Bool := c == 173 || c == 847 || c == 6150 || (6155 ≤ c && c ≤ 6157) || (8203 ≤ c && c ≤ 8205) || c == 8288 || c == 65279 || (65024 ≤ c && c ≤ 65039)
def inC6 (c : Int) : Bool := 65529 ≤ c && c ≤ 65533
def inC7 (c : Int) : Bool := 12272 ≤ c && c ≤ 12283
def inC8 (c : Int) : Bool := c == 832 || c == 833 || c == 8206 || c == 8207 || (8234 ≤ c && c ≤ 8238) || (8298 ≤ c && c ≤ 8303)
def inC9 (c : Int) : Bool := c == 917505 || (917536 ≤ c && c ≤ 917631)
def setList : List (Str × (Int → Bool)) := [("b1_set", inB1), ("c6_set", inC6), ("c7_set", inC7), ("c8_set", inC8), ("c9_set", inC9)]
/-- the ints and texts of a written table -/
def pairsOf : List (Option Expr) → List Expr → List (Int × Str)
  | some (.Constant (.int i) _ _) :: ks, .Constant (.str x) _ _ :: vs => (i, x) :: pairsOf ks vs
  | _, _ => []
def pairsIn : List Stmt → List (Int × Str)
  | .Assign _ (.Dict ks vs _) _ :: _ => pairsOf ks vs
  | _ => []
def b3Pairs : List (Int × Str) := pairsIn (p0.main.body.drop 7)
def b3Look (k : Int) : Option Str := b3Pairs.lookup k
def fnNames : List Str := ["parse257", "in_table_b1", "map_table_b3", "in_table_c11", "in_table_c4", "in_table_c6", "in_table_c7", "in_table_c8", "in_table_c9", "_law_runs", "_law_piece", "_law_left", "_law_refused", "_law_deeds", "law"]
def freeNames : List Str := ["len", "ord", "chr", "min", "str", "sum", "range"]
def excTail : List Value := [.type "Exception", .type "BaseException", .type "object"]

/-- how `str` finds its way from the class -/
def LookStr (C : Addr) (h : Heap) : Prop := ∀ (M : Model) (A : Around) (E : Value → Shared → Prop) (h' : Heap) (g : Array GenState) (d : Drawn) (t : Nat) (os : OsState) (Q : Option Value → Shared → Prop), Ext h h' →
  Q (some (.builtin "BaseException.__str__")) ⟨h', g, d, t, os⟩ → wpAny M A (typeLookup (.ref C) "__str__") Q E ⟨h', g, d, t, os⟩
theorem LookStr.ext {C : Addr} {h h' : Heap} (x : LookStr C h) (k : Ext h h') : LookStr C h' := fun M A E h₂ g d t os Q k₂ hq => x M A E h₂ g d t os Q (k.trans k₂) hq

/-- what holds behind the top, and stays -/
structure W0 (w : World) (mg : Str → Option Value) (h : Heap) : Prop where
  g : h.Ns mainGlobals mg
  b : ∃ mb, h.Ns builtinsNs mb ∧ ∀ x : Str, x ≠ "__name__" → mb x = bootBuiltins x
  nolimit : h.NoLimit
  nodigits : ∃ mc, h.Ns cStatics mc ∧ mc "sys.int_max_str_digits" = none
  nb : NoneBooked h
  free : ∀ x ∈ freeNames, mg x = none
  fn : ∀ f ∈ fnNames, ∃ a, mg f = some (.ref a) ∧ FnAt h a f
  sets : ∀ q ∈ setList, ∃ a n, mg q.1 = some (.ref a) ∧ h.SetOf (intKind p0 w) a q.2 n
  b3 : ∃ a f, mg "b3_exceptions" = some (.ref a) ∧ (a == sysModules) = false ∧ h.MapOf (intKind p0 w) a f ∧
    ∀ k : Int, match b3Look k with | some x => ∃ t, f k = some (.str x t) | none => f k = none
  err : ∃ C, OwnClsQ "error_reply" C excTail "Exception.__new__" mg h ∧ LookStr C h

theorem setOf_ext {prog : Program} {w : World} {h h' : Heap} {a : Addr} {S : Int → Bool} {n : Nat} (x : h.SetOf (intKind prog w) a S n) (k : Ext h h') : h'.SetOf (intKind prog w) a S n :=
  let ⟨o, es, ep, t, ho, r⟩ := x; ⟨o, es, ep, t, k _ _ ho, r⟩
theorem mapOf_ext {prog : Program} {w : World} {h h' : Heap} {a : Addr} {f : Int → Option Value} (x : h.MapOf (intKind prog w) a f) (k : Ext h h') : h'.MapOf (intKind prog w) a f :=
  let ⟨o, es, ep, ho, r⟩ := x; ⟨o, es, ep, k _ _ ho, r⟩
theorem W0.ext {w : World} {mg : Str → Option Value} {h h' : Heap} (x : W0 w mg h) (k : Ext h h') : W0 w mg h' where
  g := x.g.keeps k
  b := let ⟨mb, a, b⟩ := x.b; ⟨mb, a.keeps k, b⟩
  nolimit := x.nolimit.keeps k
  nodigits := let ⟨mc, a, b⟩ := x.nodigits; ⟨mc, a.keeps k, b⟩
  nb := let ⟨mc, a, b⟩ := x.nb; ⟨mc, a.keeps k, b⟩
  free := x.free
  fn := fun f hf => let ⟨a, e, r⟩ := x.fn f hf; ⟨a, e, r.ext k⟩
  sets := fun q hq => let ⟨a, n, e, r⟩ := x.sets q hq; ⟨a, n, e, setOf_ext r k⟩
  b3 := let ⟨a, f, e, lo, r, t⟩ := x.b3; ⟨a, f, e, lo, mapOf_ext r k, t⟩
  err := let ⟨C, r, l⟩ := x.err; ⟨C, r.keeps k, l.ext k⟩

/-! ## frames -/
structure AOk (n : Nat) (A : Around) : Prop where
  handled : A.handled = none
  depth : A.depth + n < recursionLimit
  units : A.units + 8 * n + 16 < cLine
theorem AOk.mono {n m : Nat} {A : Around} (x : AOk n A) (h : m ≤ n) : AOk m A := ⟨x.handled, by have := x.depth; omega, by have := x.units; omega⟩
theorem AOk.deeper {n : Nat} {A : Around} (x : AOk (n + 1) A) (env : Env) : AOk n (A.deeper env) :=
  ⟨x.handled, by have := x.depth; show A.depth + 1 + n < _; omega, by have := x.units; show A.units + 3 + 8 * n + 16 < _; omega⟩

structure Sta (w : World) (mg : Str → Option Value) (env : Env) (h₀ h : Heap) (ρ : Str → Option PV) : Prop where
  kind : env.scope.kind = .function
  glob : env.globals = mainGlobals
  bi : env.builtins = builtinsNs
  W : W0 w mg h₀
  keep : Ext h₀ h
  loc : ∃ m, h.Ns env.locals m ∧ ∀ x p, env.kindOf x = some .local → ρ x = some p → ∃ v, m x = some v ∧ Rep h p v
  cel : ∀ x, env.kindOf x = some .cell → ∃ c ov, env.cells.lookup x = some c ∧ h.IsCell c ov ∧ ∀ p, ρ x = some p → ∃ v, ov = some v ∧ Rep h p v
  cells : ∀ x c, env.cells.lookup x = some c → ∃ ov, h.IsCell c ov

structure Own (env : Env) (h₀ : Heap) : Prop where
  loc : h₀.get? env.locals = none
  cel : ∀ x c, env.cells.lookup x = some c → h₀.get? c = none ∧ c ≠ env.locals
  inj : ∀ x y c, env.cells.lookup x = some c → env.cells.lookup y = some c → x = y

theorem Sta.ext {w : World} {mg : Str → Option Value} {env : Env} {h₀ h h' : Heap} {ρ : Str → Option PV} (x : Sta w mg env h₀ h ρ) (k : Ext h h') : Sta w mg env h₀ h' ρ where
  kind := x.kind
  glob := x.glob
  bi := x.bi
  W := x.W
  keep := x.keep.trans k
  loc := let ⟨m, a, b⟩ := x.loc; ⟨m, a.keeps k, fun y p h1 h2 => let ⟨v, e, r⟩ := b y p h1 h2; ⟨v, e, r.ext k⟩⟩
  cel := fun y hy => let ⟨c, ov, a, b, d⟩ := x.cel y hy; ⟨c, ov, a, b.keeps k, fun p hp => let ⟨v, e, r⟩ := d p hp; ⟨v, e, r.ext k⟩⟩
  cells := fun y c hc => let ⟨ov, a⟩ := x.cells y c hc; ⟨ov, a.keeps k⟩
theorem Sta.world {w : World} {mg : Str → Option Value} {env : Env} {h₀ h : Heap} {ρ : Str → Option PV} (x : Sta w mg env h₀ h ρ) : W0 w mg h := x.W.ext x.keep

def upd (ρ : Str → Option PV) (x : Str) (p : PV) : Str → Option PV := fun y => if y = x then some p else ρ y
/-- all but the frame's own stays -/
abbrev ExtB (env : Env) (h h' : Heap) : Prop := ∀ b o, b ≠ env.locals → (∀ x, env.cells.lookup x ≠ some b) → h.get? b = some o → h'.get? b = some o
theorem ExtB.refl (env : Env) (h : Heap) : ExtB env h h := fun _ _ _ _ e => e
theorem ExtB.trans {env : Env} {a b c : Heap} (x : ExtB env a b) (y : ExtB env b c) : ExtB env a c := fun d o h1 h2 e => y d o h1 h2 (x d o h1 h2 e)
theorem Ext.b {h h' : Heap} (x : Ext h h') (env : Env) : ExtB env h h' := fun b o _ _ e => x b o e

/-- tokens are never given back -/
theorem wpT {α : Type} {M : Model} {A : Around} {t : Sem α} {Q : α → Shared → Prop} {E : Value → Shared → Prop} {s : Shared} (ht : 0 < s.toks)
    (h : wpAny M A t (fun v s' => 0 < s'.toks → Q v s') (fun e s' => 0 < s'.toks → E e s') s) : wpAny M A t Q E s := wpAny_with_toks (n := 1) ht h

/-! ## judgments -/
section
variable (w : World) (mg : Str → Option Value) (n : Nat) (env : Env)

/-- the expression gives that datum -/
def EvE (e : Expr) (ρ : Str → Option PV) (p : PV) : Prop :=
  ∀ (A : Around) (h₀ : Heap) (s : Shared) (Q : Value → Shared → Prop) (E : Value → Shared → Prop), AOk n A → Sta w mg env h₀ s.heap ρ → 0 < s.toks →
    (∀ v h' tk, 0 < tk → Ext s.heap h' → Rep h' p v → Q v { s with heap := h', toks := tk }) → wpAny (model p0 w) A (eval e env) Q E s
/-- the test gives that bool -/
def EvT (e : Expr) (ρ : Str → Option PV) (b : Bool) : Prop :=
  ∀ (A : Around) (h₀ : Heap) (s : Shared) (Q : Bool → Shared → Prop) (E : Value → Shared → Prop), AOk n A → Sta w mg env h₀ s.heap ρ → 0 < s.toks →
    (∀ h' tk, 0 < tk → Ext s.heap h' → Q b { s with heap := h', toks := tk }) → wpAny (model p0 w) A (isTrue e env (eval e env)) Q E s
/-- a step on values -/
def Op2 (t : Value → Value → Sem Value) (a b p : PV) : Prop :=
  ∀ (A : Around) (s : Shared) (Q : Value → Shared → Prop) (E : Value → Shared → Prop) (va vb : Value), AOk n A → Rep s.heap a va → Rep s.heap b vb →
    (∀ v h' tk, Ext s.heap h' → Rep h' p v → Q v { s with heap := h', toks := tk }) → wpAny (model p0 w) A (t va vb) Q E s
end

inductive Out where
  | next
  | brk
  | ret (p : PV)
def OutRep (h : Heap) : Out → Flow → Prop
  | .next, f => f = .next
  | .brk, f => f = .brk
  | .ret p, f => ∃ v, f = .ret v ∧ Rep h p v

section
variable (w : World) (mg : Str → Option Value) (n : Nat) (env : Env)
/-- a tree of flows leaves the frame so -/
def EvF (t : Sem Flow) (ρ : Str → Option PV) (P : Out → (Str → Option PV) → Prop) : Prop :=
  ∀ (A : Around) (h₀ : Heap) (s : Shared) (Q : Flow → Shared → Prop) (E : Value → Shared → Prop), AOk n A → Own env h₀ → Sta w mg env h₀ s.heap ρ → 0 < s.toks →
    (∀ o ρ' f h' tk, 0 < tk → P o ρ' → OutRep h' o f → Sta w mg env h₀ h' ρ' → ExtB env s.heap h' → Q f { s with heap := h', toks := tk }) → wpAny (model p0 w) A t Q E s
def EvS (st : Stmt) := EvF w mg n env (exec st env)
def EvB (b : List Stmt) := EvF w mg n env (execs b env)
end

section
variable {w : World} {mg : Str → Option Value} {n : Nat} {env : Env} {ρ : Str → Option PV}

theorem EvE.name {x : Str} {pos : Pos} {p : PV} (hx : ρ x = some p) (hk : (env.kindOf x == some .local || env.kindOf x == some .cell) = true) (hd : (x == ("__debug__" : Str)) = false) :
    EvE w mg n env (.Name x pos) ρ p := by
  intro A h₀ s Q E ha S ht hQ
  rw [Bool.or_eq_true, beq_iff_eq, beq_iff_eq] at hk
  rcases hk with hk | hk
  · obtain ⟨m, hn, hm⟩ := S.loc
    obtain ⟨v, hv, hr⟩ := hm x p hk hx
    exact wpAny_Name (wpAny_loadName_local S.kind hk hn hv (hQ v s.heap s.toks ht (Ext.refl _) hr)) hd
  · obtain ⟨c, ov, hc, hi, hm⟩ := S.cel x hk
    obtain ⟨v, hv, hr⟩ := hm p hx
    subst hv
    exact wpAny_Name (wpAny_loadName_cell S.kind hk hc hi (hQ v s.heap s.toks ht (Ext.refl _) hr)) hd
theorem EvE.glob {x : Str} {pos : Pos} {v : Value} (hv : mg x = some v) (hk : (env.kindOf x == some .globalImplicit) = true) (hd : (x == ("__debug__" : Str)) = false) :
    EvE w mg n env (.Name x pos) ρ (.raw v) := by
  intro A h₀ s Q E ha S ht hQ
  exact Name_function_global S.kind (beq_iff_eq.mp hk) (loadGlobal_global (env := env) (S.glob ▸ S.world.g) hv (hQ v s.heap s.toks ht (Ext.refl _) (by unfold Rep; rfl))) hd
theorem EvE.builtin {x : Str} {pos : Pos} {v : Value} (hx : x ∈ freeNames) (hv : bootBuiltins x = some v) (hn : x ≠ "__name__") (hk : (env.kindOf x == some .globalImplicit) = true) (hd : (x == ("__debug__" : Str)) = false) :
    EvE w mg n env (.Name x pos) ρ (.raw v) := by
  intro A h₀ s Q E ha S ht hQ
  obtain ⟨mb, hb, hbb⟩ := S.world.b
  exact Name_function_global S.kind (beq_iff_eq.mp hk) (loadGlobal_builtin (env := env) (S.glob ▸ S.world.g) (S.W.free x hx) (S.bi ▸ hb) ((hbb x hn).trans hv) (hQ v s.heap s.toks ht (Ext.refl _) (by unfold Rep; rfl))) hd
theorem EvE.int {i : Int} {k : Nat} {pos : Pos} : EvE w mg n env (.Constant (.int i) k pos) ρ (.int i) := by
  intro A h₀ s Q E ha S ht hQ
  exact wpAny_Constant_int (hQ _ s.heap _ (Nat.succ_pos _) (Ext.refl _) (by unfold Rep; exact ⟨_, rfl⟩))
theorem EvE.str {x : Str} {k : Nat} {pos : Pos} : EvE w mg n env (.Constant (.str x) k pos) ρ (.str x) := by
  intro A h₀ s Q E ha S ht hQ
  exact Constant_str (hQ _ s.heap _ (Nat.succ_pos _) (Ext.refl _) (by unfold Rep; exact ⟨_, rfl⟩))
theorem EvE.bool {b : Bool} {k : Nat} {pos : Pos} : EvE w mg n env (.Constant (.bool b) k pos) ρ (.bool b) := by
  intro A h₀ s Q E ha S ht hQ
  exact wpAny_Constant_bool (hQ _ s.heap s.toks ht (Ext.refl _) (by unfold Rep; rfl))
theorem EvE.noneC {k : Nat} {pos : Pos} : EvE w mg n env (.Constant .none k pos) ρ .none := by
  intro A h₀ s Q E ha S ht hQ
  exact wpAny_Constant_none (hQ _ s.heap s.toks ht (Ext.refl _) (by unfold Rep; rfl))
theorem EvE.bin {l r : Expr} {op : Operator} {pos : Pos} {a b p : PV} (hl : EvE w mg n env l ρ a) (hr : EvE w mg n env r ρ b) (ho : Op2 w n (binaryOp op) a b p) :
    EvE w mg n env (.BinOp l op r pos) ρ p := by
  intro A h₀ s Q E ha S ht hQ
  refine wpT ht (wpAny_BinOp (hl A h₀ s _ _ ha S ht fun va h₁ t₁ p₁ k₁ ra => hr A h₀ _ _ _ ha (S.ext k₁) p₁ fun vb h₂ t₂ p₂ k₂ rb => ?_))
  exact ho A _ _ _ va vb ha (ra.ext k₂) rb fun v h' tk k r hn => hQ v h' tk hn (k₁.trans (k₂.trans k)) r
theorem EvE.cmp {l r : Expr} {op : CmpOp} {pos : Pos} {a b p : PV} (hl : EvE w mg n env l ρ a) (hr : EvE w mg n env r ρ b) (ho : Op2 w n (compareOp op) a b p) (hm : behindInMarks op r = false) :
    EvE w mg n env (.Compare l [op] [r] pos) ρ p := by
  intro A h₀ s Q E ha S ht hQ
  refine wpT ht (wpAny_Compare1 (hl A h₀ s _ _ ha S ht fun va h₁ t₁ p₁ k₁ ra => hr A h₀ _ _ _ ha (S.ext k₁) p₁ fun vb h₂ t₂ p₂ k₂ rb => ?_) hm)
  exact ho A _ _ _ va vb ha (ra.ext k₂) rb fun v h' tk k r hn => hQ v h' tk hn (k₁.trans (k₂.trans k)) r
theorem EvT.cmp {l r : Expr} {op : CmpOp} {pos : Pos} {a b : PV} {c : Bool} (hl : EvE w mg n env l ρ a) (hr : EvE w mg n env r ρ b) (ho : Op2 w n (compareOp op) a b (.bool c)) (hm : behindInMarks op r = false) :
    EvT w mg n env (.Compare l [op] [r] pos) ρ c := by
  intro A h₀ s Q E ha S ht hQ
  refine wpT ht (wpAny_isTrue_Compare1 (hl A h₀ s _ _ ha S ht fun va h₁ t₁ p₁ k₁ ra => hr A h₀ _ _ _ ha (S.ext k₁) p₁ fun vb h₂ t₂ p₂ k₂ rb => ?_) hm)
  refine ho A _ _ _ va vb ha (ra.ext k₂) rb fun v h' tk k r => ?_
  unfold Rep at r
  subst r
  exact wpAny_truthy_bool fun hn => hQ h' tk hn (k₁.trans (k₂.trans k))
end

/-! ## steps on ints and texts -/
section
variable {w : World} {n : Nat}
end
end Mine

end PartB1
section PartB2
open PySem PySem.W PyProof.Rows PySem.Calls
set_option Elab.async false
set_option maxRecDepth 100000
set_option linter.unusedVariables false
namespace Mine
section
variable {w : World} {mg : Str → Option Value} {n : Nat} {env : Env} {ρ : Str → Option PV}

theorem rInt {h : Heap} {i : Int} {t : Tok} : Rep h (.int i) (.int i t) := by unfold Rep; exact ⟨t, rfl⟩
theorem rStr {h : Heap} {x : Str} {t : Tok} : Rep h (.str x) (.str x t) := by unfold Rep; exact ⟨t, rfl⟩
theorem rBool {h : Heap} {b : Bool} : Rep h (.bool b) (.bool b) := by unfold Rep; rfl
theorem rNone {h : Heap} : Rep h .none .none := by unfold Rep; rfl
theorem rRaw {h : Heap} {v : Value} : Rep h (.raw v) v := by unfold Rep; rfl
theorem Rep.i {h : Heap} {i : Int} {v : Value} (x : Rep h (.int i) v) : ∃ t, v = .int i t := by unfold Rep at x; exact x
theorem Rep.s {h : Heap} {i : Str} {v : Value} (x : Rep h (.str i) v) : ∃ t, v = .str i t := by unfold Rep at x; exact x
theorem Rep.b {h : Heap} {i : Bool} {v : Value} (x : Rep h (.bool i) v) : v = .bool i := by unfold Rep at x; exact x
theorem Rep.r {h : Heap} {i v : Value} (x : Rep h (.raw i) v) : v = i := by unfold Rep at x; exact x
theorem Rep.no {h : Heap} {v : Value} (x : Rep h .none v) : v = .none := by unfold Rep at x; exact x
theorem Rep.t {h : Heap} {l : List PV} {v : Value} (x : Rep h (.tup l) v) : ∃ a vs, v = .ref a ∧ IsTup h a vs.toArray ∧ RepL h l vs := by unfold Rep at x; exact x
theorem Rep.l {h : Heap} {l : List PV} {v : Value} (x : Rep h (.lst l) v) : ∃ a vs, v = .ref a ∧ h.IsList a vs.toArray ∧ RepL h l vs := by unfold Rep at x; exact x
theorem rTup {h : Heap} {l : List PV} {a : Addr} {vs : List Value} (x : IsTup h a vs.toArray) (y : RepL h l vs) : Rep h (.tup l) (.ref a) := by unfold Rep; exact ⟨a, vs, rfl, x, y⟩
theorem rLst {h : Heap} {l : List PV} {a : Addr} {vs : List Value} (x : h.IsList a vs.toArray) (y : RepL h l vs) : Rep h (.lst l) (.ref a) := by unfold Rep; exact ⟨a, vs, rfl, x, y⟩

/-! ### ints -/
theorem Op2.addI {a b : Int} : Op2 w n (binaryOp .Add) (.int a) (.int b) (.int (a + b)) := by
  intro A s Q E va vb ha ra rb hQ; obtain ⟨t, rfl⟩ := ra.i; obtain ⟨u, rfl⟩ := rb.i
  exact add_int (hQ _ s.heap _ (Ext.refl _) rInt)
theorem Op2.subI {a b : Int} : Op2 w n (binaryOp .Sub) (.int a) (.int b) (.int (a - b)) := by
  intro A s Q E va vb ha ra rb hQ; obtain ⟨t, rfl⟩ := ra.i; obtain ⟨u, rfl⟩ := rb.i
  exact sub_int (hQ _ s.heap _ (Ext.refl _) rInt)
theorem Op2.mulI {a b : Int} (hm : IntMulOk a b) : Op2 w n (binaryOp .Mult) (.int a) (.int b) (.int (a * b)) := by
  intro A s Q E va vb ha ra rb hQ; obtain ⟨t, rfl⟩ := ra.i; obtain ⟨u, rfl⟩ := rb.i
  exact PyProof.Rows.mul_int (hQ _ s.heap _ (Ext.refl _) rInt) hm
theorem Op2.divI {a b : Int} (hb : b ≠ 0) (hs : b.natAbs < 1073741824) : Op2 w n (binaryOp .FloorDiv) (.int a) (.int b) (.int (a.fdiv b)) := by
  intro A s Q E va vb ha ra rb hQ; obtain ⟨t, rfl⟩ := ra.i; obtain ⟨u, rfl⟩ := rb.i
  exact floordiv_int hb (hQ _ s.heap _ (Ext.refl _) rInt) (Or.inl (PyProof.noPylong_small hs))
theorem Op2.modI {a b : Int} (hb : b ≠ 0) : Op2 w n (binaryOp .Mod) (.int a) (.int b) (.int (a.fmod b)) := by
  intro A s Q E va vb ha ra rb hQ; obtain ⟨t, rfl⟩ := ra.i; obtain ⟨u, rfl⟩ := rb.i
  exact mod_int' hb (hQ _ s.heap _ (Ext.refl _) rInt)
theorem Op2.powI {a b : Int} (hn : 0 ≤ b) (hn2 : b ≤ 1000000) (ha : a.natAbs < 2 ^ 64) : Op2 w n (binaryOp .Pow) (.int a) (.int b) (.int (a ^ b.toNat)) := by
  intro A s Q E va vb h1 ra rb hQ; obtain ⟨t, rfl⟩ := ra.i; obtain ⟨u, rfl⟩ := rb.i
  exact pow_int_small hn hn2 ha (hQ _ s.heap _ (Ext.refl _) rInt)
theorem Op2.andI {a b : Int} : Op2 w n (binaryOp .BitAnd) (.int a) (.int b) (.int (Builtin.bitAnd a b)) := by
  intro A s Q E va vb ha ra rb hQ; obtain ⟨t, rfl⟩ := ra.i; obtain ⟨u, rfl⟩ := rb.i
  exact and_int (hQ _ s.heap _ (Ext.refl _) rInt)
theorem Op2.eqI {a b : Int} : Op2 w n (compareOp .Eq) (.int a) (.int b) (.bool (a == b)) := by
  intro A s Q E va vb ha ra rb hQ; obtain ⟨t, rfl⟩ := ra.i; obtain ⟨u, rfl⟩ := rb.i
  exact PyProof.Rows.eq_int (hQ _ s.heap s.toks (Ext.refl _) rBool)
theorem Op2.neI {a b : Int} : Op2 w n (compareOp .NotEq) (.int a) (.int b) (.bool (a != b)) := by
  intro A s Q E va vb ha ra rb hQ; obtain ⟨t, rfl⟩ := ra.i; obtain ⟨u, rfl⟩ := rb.i
  exact PyProof.Rows.ne_int (hQ _ s.heap s.toks (Ext.refl _) rBool)
theorem Op2.ltI {a b : Int} : Op2 w n (compareOp .Lt) (.int a) (.int b) (.bool (decide (a < b))) := by
  intro A s Q E va vb ha ra rb hQ; obtain ⟨t, rfl⟩ := ra.i; obtain ⟨u, rfl⟩ := rb.i
  exact PyProof.Rows.lt_int (hQ _ s.heap s.toks (Ext.refl _) rBool)
theorem Op2.leI {a b : Int} : Op2 w n (compareOp .LtE) (.int a) (.int b) (.bool (decide (a ≤ b))) := by
  intro A s Q E va vb ha ra rb hQ; obtain ⟨t, rfl⟩ := ra.i; obtain ⟨u, rfl⟩ := rb.i
  exact PyProof.Rows.le_int (hQ _ s.heap s.toks (Ext.refl _) rBool)
theorem Op2.gtI {a b : Int} : Op2 w n (compareOp .Gt) (.int a) (.int b) (.bool (decide (b < a))) := by
  intro A s Q E va vb ha ra rb hQ; obtain ⟨t, rfl⟩ := ra.i; obtain ⟨u, rfl⟩ := rb.i
  exact PyProof.Rows.gt_int (hQ _ s.heap s.toks (Ext.refl _) rBool)
theorem Op2.geI {a b : Int} : Op2 w n (compareOp .GtE) (.int a) (.int b) (.bool (decide (b ≤ a))) := by
  intro A s Q E va vb ha ra rb hQ; obtain ⟨t, rfl⟩ := ra.i; obtain ⟨u, rfl⟩ := rb.i
  exact PyProof.Rows.ge_int (hQ _ s.heap s.toks (Ext.refl _) rBool)
/-! ### texts -/
theorem Op2.eqS {a b : Str} : Op2 w n (compareOp .Eq) (.str a) (.str b) (.bool (a == b)) := by
  intro A s Q E va vb ha ra rb hQ; obtain ⟨t, rfl⟩ := ra.s; obtain ⟨u, rfl⟩ := rb.s
  exact PyProof.Rows.eq_str (hQ _ s.heap s.toks (Ext.refl _) rBool)
theorem Op2.neS {a b : Str} : Op2 w n (compareOp .NotEq) (.str a) (.str b) (.bool (a != b)) := by
  intro A s Q E va vb ha ra rb hQ; obtain ⟨t, rfl⟩ := ra.s; obtain ⟨u, rfl⟩ := rb.s
  exact PyProof.Rows.ne_str (hQ _ s.heap s.toks (Ext.refl _) rBool)
theorem Op2.addS {a b : Str} (hsz : a.length + b.length ≤ sizeLine) : Op2 w n (binaryOp .Add) (.str a) (.str b) (.str (a ++ b)) := by
  intro A s Q E va vb ha ra rb hQ; obtain ⟨t, rfl⟩ := ra.s; obtain ⟨u, rfl⟩ := rb.s
  exact PyProof.Rows.add_str (fun t' tk => hQ _ s.heap tk (Ext.refl _) rStr) hsz
theorem Op2.mulS {x : Str} {i : Int} (hok : MulOk x i) : Op2 w n (binaryOp .Mult) (.str x) (.int i) (.str (Txt.mul x i)) := by
  intro A s Q E va vb ha ra rb hQ; obtain ⟨t, rfl⟩ := ra.s; obtain ⟨u, rfl⟩ := rb.i
  exact SB.mul hok (fun t' tk => hQ _ s.heap tk (Ext.refl _) rStr)
/-! ### a set -/
theorem Op2.inSet {x : Str} {S : Int → Bool} {i : Int} {a : Addr} (hx : (x, S) ∈ setList) (hm : mg x = some (.ref a)) :
    ∀ (A : Around) (s : Shared) (Q : Value → Shared → Prop) (E : Value → Shared → Prop) (va vb : Value), W0 w mg s.heap → Rep s.heap (.int i) va → Rep s.heap (.raw (.ref a)) vb →
    (∀ v h' tk, Ext s.heap h' → Rep h' (.bool (S i)) v → Q v { s with heap := h', toks := tk }) → wpAny (model p0 w) A (compareOp .In va vb) Q E s := by
  intro A s Q E va vb W ra rb hQ
  obtain ⟨t, rfl⟩ := ra.i
  obtain rfl := rb.r
  obtain ⟨a', k, e, hS⟩ := W.sets _ hx
  have e' : mg x = some (.ref a') := e
  rw [hm] at e'
  cases e'
  exact wpAny_inSet_of (k := i) (by simp [intKind, Value.isInt]) rfl hS (hQ _ s.heap _ (Ext.refl _) rBool)
theorem EvE.inSet {l : Expr} {x : Str} {S : Int → Bool} {pos p₂ : Pos} {i : Int} (hx : (x, S) ∈ setList) (hl : EvE w mg n env l ρ (.int i))
    (hk : (env.kindOf x == some .globalImplicit) = true) (hd : (x == ("__debug__" : Str)) = false) (hm : behindInMarks .In (.Name x p₂) = false) : EvE w mg n env (.Compare l [.In] [.Name x p₂] pos) ρ (.bool (S i)) := by
  intro A h₀ s Q E ha St ht hQ
  obtain ⟨a, k, e, _⟩ := St.W.sets _ hx
  have e' : mg x = some (.ref a) := e
  refine wpT ht (wpAny_Compare1 (hl A h₀ s _ _ ha St ht fun va h₁ t₁ p₁ k₁ ra => EvE.glob e' hk hd A h₀ _ _ _ ha (St.ext k₁) p₁ fun vb h₂ t₂ p₂ k₂ rb => ?_) hm)
  exact Op2.inSet hx e' A _ _ _ va vb (St.ext (k₁.trans k₂)).world (ra.ext k₂) rb fun v h' tk k r hn => hQ v h' tk hn (k₁.trans (k₂.trans k)) r

/-! ## statements -/
theorem EvB.nil {P : Out → (Str → Option PV) → Prop} (h : P .next ρ) : EvB w mg n env [] ρ P := by
  intro A h₀ s Q E ha O S ht hQ
  exact wpAny_execs_nil (hQ .next ρ .next s.heap s.toks ht h rfl S (ExtB.refl _ _))
theorem EvB.cons {st : Stmt} {r : List Stmt} {P : Out → (Str → Option PV) → Prop}
    (h : EvS w mg n env st ρ fun o ρ' => match o with | .next => EvB w mg n env r ρ' P | o => P o ρ') : EvB w mg n env (st :: r) ρ P := by
  intro A h₀ s Q E ha O S ht hQ
  refine wpAny_execs_cons (h A h₀ s _ E ha O S ht fun o ρ' f h' tk hT hP hO hS hE => ?_)
  cases o with
  | next =>
    have e : f = .next := hO
    subst e
    exact hP A h₀ _ Q E ha O hS hT fun o₂ ρ₂ f₂ h₂ t₂ z₂ p₂ q₂ s₂ e₂ => hQ o₂ ρ₂ f₂ h₂ t₂ z₂ p₂ q₂ s₂ (hE.trans e₂)
  | brk =>
    have e : f = .brk := hO
    subst e
    exact hQ .brk ρ' .brk h' tk hT hP rfl hS hE
  | ret p =>
    obtain ⟨v, rfl, r⟩ := hO
    exact hQ (.ret p) ρ' _ h' tk hT hP ⟨v, rfl, r⟩ hS hE
theorem EvF.mono {t : Sem Flow} {P P' : Out → (Str → Option PV) → Prop} (h : EvF w mg n env t ρ P) (hp : ∀ o ρ', P o ρ' → P' o ρ') : EvF w mg n env t ρ P' :=
  fun A h₀ s Q E ha O S ht hQ => h A h₀ s Q E ha O S ht fun o ρ' f h' tk z a b c d => hQ o ρ' f h' tk z (hp _ _ a) b c d
theorem EvS.ret {e : Expr} {pos : Pos} {p : PV} {P : Out → (Str → Option PV) → Prop} (he : EvE w mg n env e ρ p) (h : P (.ret p) ρ) : EvS w mg n env (.Return (some e) pos) ρ P := by
  intro A h₀ s Q E ha O S ht hQ
  exact wpAny_Return_some (he A h₀ s _ E ha S ht fun v h' tk z k r => hQ (.ret p) ρ _ h' tk z h ⟨v, rfl, r⟩ (S.ext k) (k.b env))
theorem EvS.brk {pos : Pos} {P : Out → (Str → Option PV) → Prop} (h : P .brk ρ) : EvS w mg n env (.Break pos) ρ P := by
  intro A h₀ s Q E ha O S ht hQ
  exact wpAny_Break (hQ .brk ρ .brk s.heap s.toks ht h rfl S (ExtB.refl _ _))

/-- all but the frame's table stays -/
abbrev ExtL (env : Env) (h h' : Heap) : Prop := ∀ b o, b ≠ env.locals → h.get? b = some o → h'.get? b = some o
theorem ExtL.b {h h' : Heap} (x : ExtL env h h') : ExtB env h h' := fun b o h1 _ e => x b o h1 e
/-- a local name is bound anew -/
theorem Sta.storeL {A : Around} {h₀ : Heap} {s : Shared} {x : Str} {p : PV} {v : Value} {Q : Unit → Shared → Prop} {E : Value → Shared → Prop} (ol : h₀.get? env.locals = none) (S : Sta w mg env h₀ s.heap ρ) (r : Rep s.heap p v)
    (hk : env.kindOf x = some .local)
    (hQ : ∀ h' tk, Sta w mg env h₀ h' (upd ρ x p) → ExtL env s.heap h' → ExtS s.heap h' → Q () { s with heap := h', toks := tk }) : wpAny (model p0 w) A (storeName env x v) Q E s := by
  have hp : (env.scope.kind == .class || (env.scope.kind == .module && env.locals != env.globals)) = false := by rw [S.kind]; rfl
  obtain ⟨m, hn, hm⟩ := S.loc
  have cne : ∀ y c, env.cells.lookup y = some c → c ≠ env.locals := fun y c hc => by
    rintro rfl
    obtain ⟨ov, o, ho, hd⟩ := S.cells y _ hc
    obtain ⟨o', es, ep, ho', hd', _⟩ := hn
    rw [ho] at ho'; cases ho'
    rw [hd] at hd'; cases hd'
  refine wpAny_storeName_local hk hn (fun h' hn' hs' => ?_) hp
  have kS : ExtS s.heap h' := fun b o e ⟨vs, k, hd⟩ => by
    refine (hs'.2 b ?_).trans e
    rintro rfl
    obtain ⟨o', es, ep, ho, hd', _⟩ := hn
    rw [e] at ho; cases ho
    rw [hd] at hd'; cases hd'
  have kB : ExtL env s.heap h' := fun b o hb e => (hs'.2 b hb).trans e
  refine hQ h' _ ⟨S.kind, S.glob, S.bi, S.W, fun b o e => (hs'.2 b ?_).trans (S.keep b o e), ⟨_, hn', fun y q hy hq => ?_⟩, fun y hy => ?_, fun y c hc => ?_⟩ kB kS
  · rintro rfl; rw [ol] at e; cases e
  · unfold upd at hq
    by_cases hyx : y = x
    · subst hyx
      simp only [if_true] at hq ⊢
      cases hq
      exact ⟨v, rfl, Rep.keepS kS p r⟩
    · simp only [hyx, if_false] at hq ⊢
      obtain ⟨u, hu, ru⟩ := hm y q hy hq
      exact ⟨u, hu, Rep.keepS kS q ru⟩
  · obtain ⟨c, ov, hc, hi, hr⟩ := S.cel y hy
    refine ⟨c, ov, hc, hi.sameBut hs' (cne y c hc), fun q hq => ?_⟩
    have hyx : y ≠ x := by rintro rfl; rw [hk] at hy; cases hy
    unfold upd at hq
    rw [if_neg hyx] at hq
    obtain ⟨u, hu, ru⟩ := hr q hq
    exact ⟨u, hu, Rep.keepS kS q ru⟩
  · obtain ⟨ov, hi⟩ := S.cells y c hc
    exact ⟨ov, hi.sameBut hs' (cne y c hc)⟩

/-- a name of the frame's is bound anew -/
theorem Sta.store {A : Around} {h₀ : Heap} {s : Shared} {x : Str} {p : PV} {v : Value} {Q : Unit → Shared → Prop} {E : Value → Shared → Prop} (O : Own env h₀) (S : Sta w mg env h₀ s.heap ρ) (r : Rep s.heap p v)
    (hk : (env.kindOf x == some .local || env.kindOf x == some .cell) = true)
    (hQ : ∀ h' tk, Sta w mg env h₀ h' (upd ρ x p) → ExtB env s.heap h' → ExtS s.heap h' → Q () { s with heap := h', toks := tk }) : wpAny (model p0 w) A (storeName env x v) Q E s := by
  rw [Bool.or_eq_true, beq_iff_eq, beq_iff_eq] at hk
  rcases hk with hk | hk
  · exact S.storeL O.loc r hk fun h' tk a b c => hQ h' tk a b.b c
  · obtain ⟨c, ov, hc, hi, hr⟩ := S.cel x hk
    refine wpAny_storeName_cell S.kind hk hc hi fun h' hi' hs' => ?_
    have kS : ExtS s.heap h' := fun b o e ⟨vs, k, hd⟩ => by
      refine (hs'.2 b ?_).trans e
      rintro rfl
      obtain ⟨o', ho, hd'⟩ := hi
      rw [e] at ho; cases ho
      rw [hd] at hd'; cases hd'
    have kB : ExtB env s.heap h' := fun b o _ hb e => (hs'.2 b (by rintro rfl; exact hb x hc)).trans e
    refine hQ h' s.toks ⟨S.kind, S.glob, S.bi, S.W, fun b o e => (hs'.2 b ?_).trans (S.keep b o e), ?_, fun y hy => ?_, fun y c' hc' => ?_⟩ kB kS
    · rintro rfl; rw [(O.cel x _ hc).1] at e; cases e
    · obtain ⟨m, hn, hm⟩ := S.loc
      refine ⟨m, hn.sameBut hs' (Ne.symm (O.cel x c hc).2), fun y q hy hq => ?_⟩
      have hyx : y ≠ x := by rintro rfl; rw [hk] at hy; cases hy
      unfold upd at hq
      rw [if_neg hyx] at hq
      obtain ⟨u, hu, ru⟩ := hm y q hy hq
      exact ⟨u, hu, Rep.keepS kS q ru⟩
    · by_cases hyx : y = x
      · subst hyx
        refine ⟨c, some v, hc, hi', fun q hq => ?_⟩
        unfold upd at hq
        simp only [if_true] at hq
        cases hq
        exact ⟨v, rfl, Rep.keepS kS p r⟩
      · obtain ⟨c', ov', hc', hi'', hr'⟩ := S.cel y hy
        refine ⟨c', ov', hc', hi''.sameBut hs' ?_, fun q hq => ?_⟩
        · rintro rfl; exact hyx (O.inj y x _ hc' hc)
        · unfold upd at hq
          rw [if_neg hyx] at hq
          obtain ⟨u, hu, ru⟩ := hr' q hq
          exact ⟨u, hu, Rep.keepS kS q ru⟩
    · by_cases hcc : c' = c
      · subst hcc; exact ⟨_, hi'⟩
      · obtain ⟨ov', hi''⟩ := S.cells y c' hc'
        exact ⟨ov', hi''.sameBut hs' hcc⟩

theorem EvS.assign {x : Str} {e : Expr} {px pos : Pos} {p : PV} {P : Out → (Str → Option PV) → Prop} (he : EvE w mg n env e ρ p) (h : P .next (upd ρ x p))
    (hk : (env.kindOf x == some .local || env.kindOf x == some .cell) = true) (hs : swapsWith e (some (.Name x px)) pos.line env = pure false) : EvS w mg n env (.Assign [.Name x px] e pos) ρ P := by
  intro A h₀ s Q E ha O S ht hQ
  refine wpT ht (wpAny_Assign_Name (he A h₀ s _ _ ha S ht fun v h' tk z k r => ?_) hs)
  exact (S.ext k).store O r hk fun h₂ t₂ S₂ e₂ r₂ hn => hQ .next _ .next h₂ t₂ hn h rfl S₂ ((k.b env).trans e₂)
theorem EvS.ifT {t : Expr} {a b : List Stmt} {pos : Pos} {P : Out → (Str → Option PV) → Prop} (hc : EvT w mg n env t ρ true) (h : EvB w mg n env a ρ P) : EvS w mg n env (.If t a b pos) ρ P := by
  intro A h₀ s Q E ha O S ht hQ
  refine wpAny_If (hc A h₀ s _ E ha S ht fun h' tk z k => ?_)
  rw [if_pos rfl]
  exact h A h₀ _ Q E ha O (S.ext k) z fun o ρ' f h₂ t₂ z₂ p₂ q₂ s₂ e₂ => hQ o ρ' f h₂ t₂ z₂ p₂ q₂ s₂ ((k.b env).trans e₂)
theorem EvS.ifF {t : Expr} {a b : List Stmt} {pos : Pos} {P : Out → (Str → Option PV) → Prop} (hc : EvT w mg n env t ρ false) (h : EvB w mg n env b ρ P) : EvS w mg n env (.If t a b pos) ρ P := by
  intro A h₀ s Q E ha O S ht hQ
  refine wpAny_If (hc A h₀ s _ E ha S ht fun h' tk z k => ?_)
  rw [if_neg Bool.false_ne_true]
  exact h A h₀ _ Q E ha O (S.ext k) z fun o ρ' f h₂ t₂ z₂ p₂ q₂ s₂ e₂ => hQ o ρ' f h₂ t₂ z₂ p₂ q₂ s₂ ((k.b env).trans e₂)
theorem EvS.ifB {t : Expr} {a b : List Stmt} {pos : Pos} {c : Bool} {P : Out → (Str → Option PV) → Prop} (ht : EvT w mg n env t ρ c) (h1 : c = true → EvB w mg n env a ρ P) (h2 : c = false → EvB w mg n env b ρ P) :
    EvS w mg n env (.If t a b pos) ρ P := by
  cases c
  · exact EvS.ifF ht (h2 rfl)
  · exact EvS.ifT ht (h1 rfl)
end
end Mine

end PartB2
section PartB3
open PySem PySem.W PyProof.Rows PySem.Calls
set_option Elab.async false
set_option maxRecDepth 100000
set_option linter.unusedVariables false
namespace Mine
/-! ## a def of the text, called -/
/-- called with those data, the def gives that datum back -/
def FnC (w : World) (mg : Str → Option Value) (n : Nat) (f : Str) (args : List PV) (res : PV) : Prop :=
  ∀ (A : Around) (s : Shared) (Q : Value → Shared → Prop) (E : Value → Shared → Prop) (a : Addr) (vs : List Value), AOk n A → W0 w mg s.heap → 0 < s.toks → mg f = some (.ref a) → RepL s.heap args vs →
    (∀ v h' tk, Ext s.heap h' → Rep h' res v → Q v { s with heap := h', toks := tk }) → wpAny (model p0 w) A (call (.ref a) vs) Q E s
theorem FnC.mono {w : World} {mg : Str → Option Value} {n m : Nat} {f : Str} {args : List PV} {res : PV} (x : FnC w mg n f args res) (h : n ≤ m) : FnC w mg m f args res :=
  fun A s Q E a vs ha => x A s Q E a vs (ha.mono h)

def bindP (ns : List Str) (ps : List PV) : Str → Option PV := match ns, ps with
  | n :: ns, p :: ps => fun y => if y = n then some p else bindP ns ps y
  | _, _ => fun _ => none
theorem bindL_skip {kindOf : Str → Option NameKind} {x : Str} : ∀ (l : List (Str × Value)) (m : Str → Option Value), (∀ q ∈ l, q.1 ≠ x) → bindL kindOf l m x = m x
  | [], m, _ => rfl
  | (k, v) :: r, m, h => by
    unfold bindL
    rw [bindL_skip r _ fun q hq => h q (.tail _ hq)]
    have : x ≠ k := fun e => h (k, v) (.head _) e.symm
    split <;> simp [this]
theorem bindC_skip {kindOf : Str → Option NameKind} {x : Str} : ∀ (l : List (Str × Value)) (m : Str → Option Value), (∀ q ∈ l, q.1 ≠ x) → bindC kindOf l m x = m x
  | [], m, _ => rfl
  | (k, v) :: r, m, h => by
    unfold bindC
    rw [bindC_skip r _ fun q hq => h q (.tail _ hq)]
    have : x ≠ k := fun e => h (k, v) (.head _) e.symm
    split <;> simp [this]
theorem zip_ne {ns : List Str} {vs : List Value} {x : Str} (h : x ∉ ns) : ∀ q ∈ ns.zip vs, q.1 ≠ x := fun q hq e => h (e ▸ (List.of_mem_zip hq).1)
theorem bindP_loc {kindOf : Str → Option NameKind} {h : Heap} : ∀ (ns : List Str) (ps : List PV) (vs : List Value) (m : Str → Option Value), ns.Nodup → RepL h ps vs →
    ∀ x p, kindOf x = some .local → bindP ns ps x = some p → ∃ v, bindL kindOf (ns.zip vs) m x = some v ∧ Rep h p v
  | [], _, _, _, _, _, x, p, _, e => by simp [bindP] at e
  | _ :: _, [], _, _, _, _, x, p, _, e => by simp [bindP] at e
  | n :: ns, q :: ps, vs, m, nd, r, x, p, hx, e => by
    unfold RepL at r
    obtain ⟨v, vr, rfl, rv, rr⟩ := r
    obtain ⟨n1, n2⟩ := List.nodup_cons.mp nd
    unfold bindP at e
    show ∃ u, bindL kindOf (ns.zip vr) _ x = some u ∧ _
    by_cases hxn : x = n
    · subst hxn
      simp only [if_true] at e
      cases e
      refine ⟨v, ?_, rv⟩
      rw [bindL_skip _ _ (zip_ne n1), if_pos hx]
      simp
    · simp only [hxn, if_false] at e
      exact bindP_loc ns ps vr _ n2 rr x p hx e
theorem bindP_cel {kindOf : Str → Option NameKind} {h : Heap} : ∀ (ns : List Str) (ps : List PV) (vs : List Value) (m : Str → Option Value), ns.Nodup → RepL h ps vs →
    ∀ x p, kindOf x = some .cell → bindP ns ps x = some p → ∃ v, bindC kindOf (ns.zip vs) m x = some v ∧ Rep h p v
  | [], _, _, _, _, _, x, p, _, e => by simp [bindP] at e
  | _ :: _, [], _, _, _, _, x, p, _, e => by simp [bindP] at e
  | n :: ns, q :: ps, vs, m, nd, r, x, p, hx, e => by
    unfold RepL at r
    obtain ⟨v, vr, rfl, rv, rr⟩ := r
    obtain ⟨n1, n2⟩ := List.nodup_cons.mp nd
    unfold bindP at e
    show ∃ u, bindC kindOf (ns.zip vr) _ x = some u ∧ _
    by_cases hxn : x = n
    · subst hxn
      simp only [if_true] at e
      cases e
      refine ⟨v, ?_, rv⟩
      rw [bindC_skip _ _ (zip_ne n1), if_neg (by rw [hx]; intro q; cases q)]
      simp
    · simp only [hxn, if_false] at e
      exact bindP_cel ns ps vr _ n2 rr x p hx e

def retIs (res : PV) : Out → (Str → Option PV) → Prop := fun o _ => match o with
  | .ret p => p = res
  | .next => res = .none
  | .brk => False

theorem cellsFrom_isSome (scope : Scope) (L : Nat) {x : Str} (h : scope.names.lookup x = some .cell) : ∃ c, (cellsFrom L scope.names []).lookup x = some c :=
  Option.isSome_iff_exists.mp (cellsFrom_some _ _ _ (.inl h))

/-- entering a def: what its frame knows -/
theorem sta_entry {w : World} {mg : Str → Option Value} {f : Str} {scope : Scope} {L a : Addr} {cd : Value} {h₀ h₁ : Heap} {ns : List Str} {args : List PV} {vs : List Value}
    (hk : scope.kind = .function) (W : W0 w mg h₀) (nd : ns.Nodup) (r : RepL h₀ args vs)
    (F : Fr h₀ L h₁ (bindL (envOfC f scope L a cd).kindOf (ns.zip vs) fun _ => none)) (X : Cl L (cellsFrom (L + 1) scope.names []) h₁ (bindC (envOfC f scope L a cd).kindOf (ns.zip vs) fun _ => none)) :
    Sta w mg (envOfC f scope L a cd) h₀ h₁ (bindP ns args) ∧ Own (envOfC f scope L a cd) h₀ := by
  have fresh : ∀ c, L ≤ c → h₀.get? c = none := fun c hc => by
    cases e : h₀.get? c with
    | none => rfl
    | some o => exact absurd (Heap.lt_size e) (Nat.not_lt.mpr (Nat.le_trans F.above hc))
  refine ⟨⟨hk, rfl, rfl, W, F.keep, ⟨_, F.ns, bindP_loc ns args vs _ nd (r.ext F.keep)⟩, fun x hx => ?_, fun x c hc => ⟨_, X.cell x c hc⟩⟩, fresh _ (Nat.le_refl _), fun x c hc => ?_, fun x y c h1 h2 => ?_⟩
  · obtain ⟨c, hc⟩ := cellsFrom_isSome scope (L + 1) (x := x) hx
    exact ⟨c, _, hc, X.cell x c hc, fun p hp => bindP_cel ns args vs _ nd (r.ext F.keep) x p hx hp⟩
  · have hm := X.above x c (mem_of_lookup hc)
    exact ⟨fresh _ (Nat.le_of_lt hm), Nat.ne_of_gt hm⟩
  · exact name_of_addr X.apart (mem_of_lookup h1) (mem_of_lookup h2)

theorem call_cellsT {prog : Program} {w : World} {A : Around} {R : Result → Shared → Prop} {s : Shared} {name : Str} {params : Arguments} {body : List Stmt} {scope : Scope}
    {pm cd doc : Value} {a : Addr} {o : Obj} {args : List Value} {binds : List (Str × Value)} (ht : 0 < s.toks)
    (hroom : A.depth < recursionLimit) (ho : s.heap.get? a = some o) (hdata : o.data = .func (Calls.docDef name params body scope pm cd doc)) (hlim : s.heap.NoLimit) (hcd : s.heap.CodeRec cd name)
    (hbind : bindArgs (Calls.docDef name params body scope pm cd doc) ⟨args, []⟩ = pure binds)
    (hkind : ∀ x ∈ binds, scope.names.lookup x.1 = some .local ∨ (scope.names.lookup x.1 = some .cell ∧ ((cellsFrom (s.heap.objs.size + 1) scope.names []).lookup x.1).isSome = true))
    (h : ∀ h₁ tk, 0 < tk → Fr s.heap s.heap.objs.size h₁ (bindL (envOfC name scope s.heap.objs.size a cd).kindOf binds fun _ => none) →
      Cl s.heap.objs.size (cellsFrom (s.heap.objs.size + 1) scope.names []) h₁ (bindC (envOfC name scope s.heap.objs.size a cd).kindOf binds fun _ => none) →
      wpAny (model prog w) (A.deeper (envOfC name scope s.heap.objs.size a cd)) (execs body (envOfC name scope s.heap.objs.size a cd))
        (fun f s' => R (.ok (.ret (match f with | .ret v => v | _ => .none))) s')
        (fun e s' => wpAny (model prog w) (A.deeper (envOfC name scope s.heap.objs.size a cd)) (leaving (envOfC name scope s.heap.objs.size a cd) e)
          (fun _ s'' => R (.error e) s'') (fun e' s'' => R (.error e') s'') s')
        { s with heap := h₁, toks := tk })
    (hco : scope.isCoroutine = false) (hgen : scope.isGenerator = false) (hk : scope.kind = .function) :
    codeAny (model prog w) A (.call (.ref a) ⟨args, []⟩) R s := by
  refine codeAny_call_function hroom ho hdata hco hgen rfl hcd ?_
  rw [hbind]
  refine wpAny_pure (wpT ht (wpAny_newFunctionEnv_cells hk hkind fun env he s' x hn => ?_))
  subst he
  refine ⟨hlim.keeps x.toInCall.keep, codeAny_func ?_⟩
  obtain ⟨h₁, tk, rfl, _⟩ := x.done
  exact h h₁ tk hn ⟨x.toInCall.ns, x.toInCall.keep, x.toInCall.fresh⟩ ⟨x.cell, x.apart, x.above⟩

theorem FnC.of {w : World} {mg : Str → Option Value} {n : Nat} {f : Str} {params : Arguments} {body : List Stmt} {scope : Scope} {args : List PV} {res : PV} (ns : List Str)
    (hf : f ∈ fnNames) (hdef : p0.theDef f = some (params, body, scope))
    (hb : ∀ pm cd doc vs, vs.length = args.length → bindArgs (docDef f params body scope pm cd doc) ⟨vs, []⟩ = pure (ns.zip vs))
    (nd : ns.Nodup) (hkind : (ns.all fun y => scope.names.lookup y == some .local || scope.names.lookup y == some .cell) = true)
    (hbody : ∀ L a cd, EvB w mg n (envOfC f scope L a cd) body (bindP ns args) (retIs res))
    (hco : scope.isCoroutine = false := by rfl) (hgen : scope.isGenerator = false := by rfl) (hk : scope.kind = .function := by rfl) : FnC w mg (n + 1) f args res := by
  intro A s Q E a vs ha W ht hm hr hQ
  obtain ⟨a', e, o, pm, cd, doc, ps, bd, sc, hd, ho, hdata, hcd⟩ := W.fn f hf
  rw [hm] at e
  cases e
  rw [hdef] at hd
  cases hd
  have hlen := hr.length
  refine wpAny_call (call_cellsT ht (by have := ha.depth; omega) ho hdata W.nolimit hcd (hb pm cd doc vs hlen) (kindsX ?_ _) (fun h₁ tk hn F X => ?_) hco hgen hk)
  · refine List.all_eq_true.mpr fun y hy => ?_
    exact List.all_eq_true.mp hkind y.1 (List.of_mem_zip hy).1
  · obtain ⟨S, O⟩ := sta_entry (w := w) (mg := mg) hk W nd hr F X
    refine hbody _ _ _ _ s.heap _ _ _ (ha.deeper _) O S (show 0 < tk from hn) fun o' ρ' fl h' tk' _ hP hO hS hE => ?_
    cases o' with
    | next =>
      have e : fl = .next := hO
      subst e
      have e : res = .none := hP
      subst e
      exact hQ _ h' tk' hS.keep rNone
    | brk => exact hP.elim
    | ret p =>
      have e : p = res := hP
      subst e
      obtain ⟨v, rfl, rv⟩ := hO
      exact hQ v h' tk' hS.keep rv

/-! ## calls, as they are written -/
section
variable {w : World} {mg : Str → Option Value} {n : Nat} {env : Env} {ρ : Str → Option PV}
/-- a row of expressions -/
inductive EvL (w : World) (mg : Str → Option Value) (n : Nat) (env : Env) (ρ : Str → Option PV) : List Expr → List PV → Prop
  | nil : EvL w mg n env ρ [] []
  | cons {e : Expr} {p : PV} {es : List Expr} {ps : List PV} (he : EvE w mg n env e ρ p) (hs : starEach (e :: es) env = (false, eval e env) :: starEach es env) (h : EvL w mg n env ρ es ps) : EvL w mg n env ρ (e :: es) (p :: ps)
theorem EvL.spliced {es : List Expr} {ps : List PV} (x : EvL w mg n env ρ es ps) : ∀ {pos : Pos} (A : Around) (h₀ : Heap) (s : Shared) (Q : List Value → Shared → Prop) (E : Value → Shared → Prop), AOk n A → Sta w mg env h₀ s.heap ρ → 0 < s.toks →
    (∀ vs h' tk, 0 < tk → Ext s.heap h' → RepL h' ps vs → Q vs { s with heap := h', toks := tk }) → wpAny (model p0 w) A (spliced (backTo pos (starEach es env))) Q E s := by
  induction x with
  | nil =>
    intro pos A h₀ s Q E ha S ht hQ
    exact args_nil (hQ [] s.heap s.toks ht (Ext.refl _) (by unfold RepL; rfl))
  | cons he hs _ ih =>
    intro pos A h₀ s Q E ha S ht hQ
    refine args_cons (he A h₀ s _ E ha S ht fun v h₁ t₁ z₁ k₁ r => ih A h₀ _ _ E ha (S.ext k₁) z₁ fun vs h₂ t₂ z₂ k₂ rs => ?_) hs
    exact hQ (v :: vs) h₂ t₂ z₂ (k₁.trans k₂) (by unfold RepL; exact ⟨v, vs, rfl, r.ext k₂, rs⟩)
theorem EvL.noStar {es : List Expr} {ps : List PV} (x : EvL w mg n env ρ es ps) (pos : Pos) : (backTo pos (starEach es env)).any (·.1) = false := by
  induction x with
  | nil => rfl
  | cons he hs _ ih =>
    rw [hs]
    show (false || (backTo pos (starEach _ env)).any (·.1)) = false
    rw [ih]; rfl
/-- a call of that value with those data -/
def CallOk (w : World) (mg : Str → Option Value) (n : Nat) (f : Value) (ps : List PV) (res : PV) : Prop :=
  ∀ (A : Around) (s : Shared) (Q : Value → Shared → Prop) (E : Value → Shared → Prop) (vs : List Value), AOk n A → W0 w mg s.heap → RepL s.heap ps vs →
    (∀ v h' tk, Ext s.heap h' → Rep h' res v → Q v { s with heap := h', toks := tk }) → wpAny (model p0 w) A (call f vs) Q E s
theorem evalArgs_row {f : Value} {es : List Expr} {ps : List PV} (x : EvL w mg n env ρ es ps) {pos : Pos} (A : Around) (h₀ : Heap) (s : Shared) (Q : Args → Shared → Prop) (E : Value → Shared → Prop) (ha : AOk n A) (S : Sta w mg env h₀ s.heap ρ) (ht : 0 < s.toks)
    (hQ : ∀ vs h' tk, 0 < tk → Ext s.heap h' → RepL h' ps vs → Q ⟨vs, []⟩ { s with heap := h', toks := tk }) : wpAny (model p0 w) A (evalArgs f true (backTo pos (starEach es env)) []) Q E s := by
  cases x with
  | nil => exact PyProof.Rows.evalArgs_none (hQ [] s.heap s.toks ht (Ext.refl _) (by unfold RepL; rfl))
  | cons he hs hr =>
    have y := EvL.spliced (pos := pos) (EvL.cons he hs hr) A h₀ s (fun vs s' => Q ⟨vs, []⟩ s') E ha S ht hQ
    rw [hs] at y ⊢
    exact evalArgs_plain y
/-- a def of the text, called by its value -/
theorem callWith_fn {f : Str} {a : Addr} {es : List Expr} {ps : List PV} {res : PV} {pos : Pos} (x : EvL w mg n env ρ es ps) (hf : f ∈ fnNames) (hm : mg f = some (.ref a)) (hc : FnC w mg n f ps res)
    (A : Around) (h₀ : Heap) (s : Shared) (Q : Value → Shared → Prop) (E : Value → Shared → Prop) (ha : AOk n A) (S : Sta w mg env h₀ s.heap ρ) (ht : 0 < s.toks)
    (hQ : ∀ v h' tk, Ext s.heap h' → Rep h' res v → Q v { s with heap := h', toks := tk }) : wpAny (model p0 w) A (callWith pos (.ref a) [] (backTo pos (starEach es env)) []) Q E s := by
  obtain ⟨a', e, o, pm, cd, doc, prs, bd, sc, hd, ho, hdata, hcd⟩ := S.world.fn f hf
  rw [hm] at e
  cases e
  refine callWith_function (o := o) (evalArgs_row x A h₀ s _ E ha S ht fun vs h' tk z k r => ⟨⟨k _ _ ho, hdata⟩, ?_⟩)
  exact hc A _ Q E a _ ha ((S.ext k).world) z hm r fun v h₂ t₂ k₂ r₂ => hQ v h₂ t₂ (k.trans k₂) r₂
theorem EvE.callFn {f : Str} {pf pos : Pos} {es : List Expr} {ps : List PV} {res : PV} (hf : f ∈ fnNames) (x : EvL w mg n env ρ es ps) (hc : FnC w mg n f ps res)
    (hk : (env.kindOf f == some .globalImplicit) = true) (hd : (f == ("__debug__" : Str)) = false) : EvE w mg n env (.Call (.Name f pf) es [] pos) ρ res := by
  intro A h₀ s Q E ha S ht hQ
  obtain ⟨a, hm, _⟩ := S.W.fn f hf
  refine wpT ht (wpAny_Call_NameR (EvE.glob hm hk hd A h₀ s _ _ ha S ht fun v h₁ t₁ z₁ k₁ r₁ => ?_))
  obtain rfl := r₁.r
  exact callWith_fn x hf hm hc A h₀ _ _ _ ha (S.ext k₁) z₁ fun v h₂ t₂ k₂ r₂ hn => hQ v h₂ t₂ hn (k₁.trans k₂) r₂
/-- a built-in function, called by its name -/
theorem EvE.callB {f : Str} {id : String} {pf pos : Pos} {es : List Expr} {ps : List PV} {res : PV} (hf : f ∈ freeNames) (hv : bootBuiltins f = some (.builtin id)) (hn : f ≠ "__name__") (x : EvL w mg n env ρ es ps) (hc : CallOk w mg n (.builtin id) ps res)
    (hk : (env.kindOf f == some .globalImplicit) = true) (hd : (f == ("__debug__" : Str)) = false) : EvE w mg n env (.Call (.Name f pf) es [] pos) ρ res := by
  intro A h₀ s Q E ha S ht hQ
  refine wpT ht (wpAny_Call_NameR (EvE.builtin hf hv hn hk hd A h₀ s _ _ ha S ht fun v h₁ t₁ z₁ k₁ r₁ => ?_))
  obtain rfl := r₁.r
  refine callWith_builtin (x.noStar pos) (evalArgs_row x A h₀ _ _ _ ha (S.ext k₁) z₁ fun vs h' tk z k r => ?_)
  exact hc A _ _ _ _ ha ((S.ext (k₁.trans k)).world) r fun v h₂ t₂ k₂ r₂ hn => hQ v h₂ t₂ hn (k₁.trans (k.trans k₂)) r₂
theorem EvE.callT {f : Str} {id : String} {pf pos : Pos} {es : List Expr} {ps : List PV} {res : PV} (hf : f ∈ freeNames) (hv : bootBuiltins f = some (.type id)) (hn : f ≠ "__name__") (x : EvL w mg n env ρ es ps) (hc : CallOk w mg n (.type id) ps res)
    (hk : (env.kindOf f == some .globalImplicit) = true) (hd : (f == ("__debug__" : Str)) = false) : EvE w mg n env (.Call (.Name f pf) es [] pos) ρ res := by
  intro A h₀ s Q E ha S ht hQ
  refine wpT ht (wpAny_Call_NameR (EvE.builtin hf hv hn hk hd A h₀ s _ _ ha S ht fun v h₁ t₁ z₁ k₁ r₁ => ?_))
  obtain rfl := r₁.r
  refine PyProof.Rows.callWith_type (x.noStar pos) (evalArgs_row x A h₀ _ _ _ ha (S.ext k₁) z₁ fun vs h' tk z k r => ?_)
  exact hc A _ _ _ _ ha ((S.ext (k₁.trans k)).world) r fun v h₂ t₂ k₂ r₂ hn => hQ v h₂ t₂ hn (k₁.trans (k.trans k₂)) r₂

/-! ### built-in functions -/
theorem repL1 {h : Heap} {p : PV} {vs : List Value} (x : RepL h [p] vs) : ∃ v, vs = [v] ∧ Rep h p v := by
  unfold RepL at x
  obtain ⟨v, r, rfl, a, b⟩ := x
  unfold RepL at b
  subst b
  exact ⟨v, rfl, a⟩
theorem repL2 {h : Heap} {p q : PV} {vs : List Value} (x : RepL h [p, q] vs) : ∃ v u, vs = [v, u] ∧ Rep h p v ∧ Rep h q u := by
  unfold RepL at x
  obtain ⟨v, r, rfl, a, b⟩ := x
  obtain ⟨u, rfl, c⟩ := repL1 b
  exact ⟨v, u, rfl, a, c⟩
theorem CallOk.ord {c : Nat} : CallOk w mg n (.builtin "ord") [.str ⟨#[c]⟩] (.int c) := by
  intro A s Q E vs ha W r hQ
  obtain ⟨v, rfl, rv⟩ := repL1 r
  obtain ⟨t, rfl⟩ := rv.s
  exact P.ord_of_char (hQ _ s.heap _ (Ext.refl _) rInt)
theorem CallOk.chr {i : Int} (h0 : 0 ≤ i) (h1 : i ≤ 1114111) : CallOk w mg n (.builtin "chr") [.int i] (.str ⟨#[i.toNat]⟩) := by
  intro A s Q E vs ha W r hQ
  obtain ⟨v, rfl, rv⟩ := repL1 r
  obtain ⟨t, rfl⟩ := rv.i
  exact chr_of_range h0 h1 (hQ _ s.heap _ (Ext.refl _) rStr)
theorem CallOk.lenS {x : Str} (h : x.length ≤ sizeLine) : CallOk w mg n (.builtin "len") [.str x] (.int x.length) := by
  intro A s Q E vs ha W r hQ
  obtain ⟨v, rfl, rv⟩ := repL1 r
  obtain ⟨t, rfl⟩ := rv.s
  exact len_str (by rw [sizeLine_eq] at h; omega) (hQ _ s.heap _ (Ext.refl _) rInt)
theorem CallOk.lenL {l : List PV} (h : l.length ≤ sizeLine) : CallOk w mg n (.builtin "len") [.lst l] (.int l.length) := by
  intro A s Q E vs ha W r hQ
  obtain ⟨v, rfl, rv⟩ := repL1 r
  obtain ⟨a, vs, rfl, hl, rl⟩ := rv.l
  have e : (vs.toArray.size : Int) = l.length := by rw [List.size_toArray, rl.length]
  refine PyProof.Rows.len_list hl (by rw [e]; rw [sizeLine_eq] at h; omega) ?_
  rw [e]
  exact hQ _ s.heap _ (Ext.refl _) rInt
theorem CallOk.min2 {a b : Int} : CallOk w mg n (.builtin "min") [.int a, .int b] (.int (if b < a then b else a)) := by
  intro A s Q E vs ha W r hQ
  obtain ⟨v, u, rfl, rv, ru⟩ := repL2 r
  obtain ⟨t, rfl⟩ := rv.i
  obtain ⟨t', rfl⟩ := ru.i
  refine min_two_ints ha.handled fun h' tk k => ?_
  by_cases hb : b < a
  · rw [if_pos hb] at hQ ⊢; exact hQ _ h' tk k rInt
  · rw [if_neg hb] at hQ ⊢; exact hQ _ h' tk k rInt
theorem CallOk.strI {i : Int} (hi : i.natAbs.log2 < 1920) : CallOk w mg n (.type "str") [.int i] (.str (Str.ofString (toString i))) := by
  intro A s Q E vs ha W r hQ
  obtain ⟨v, rfl, rv⟩ := repL1 r
  obtain ⟨t, rfl⟩ := rv.i
  exact P.str_of_int hi (hQ _ s.heap _ (Ext.refl _) rStr)
end
end Mine

end PartB3
section PartB4
open PySem PySem.W PyProof.Rows PySem.Calls
set_option Elab.async false
set_option maxRecDepth 100000
set_option linter.unusedVariables false
namespace Mine
section
variable {w : World} {mg : Str → Option Value} {n : Nat} {env : Env} {ρ : Str → Option PV}

/-! ### displays -/
theorem EvE.tup {es : List Expr} {ps : List PV} {k : Nat} {pos : Pos} (x : EvL w mg n env ρ es ps) (hsz : ps.length ≤ sizeLine) : EvE w mg n env (.Tuple es k pos) ρ (.tup ps) := by
  intro A h₀ s Q E ha S ht hQ
  refine Tuple_ (x.spliced A h₀ s _ E ha S ht fun vs h' tk z kx r => wpAny_newTuple (hQ _ _ tk z (kx.trans (Ext.push _ _)) ?_) (by rw [r.length]; exact hsz))
  exact rTup (a := h'.objs.size) (vs := vs) ⟨_, Heap.get?_push_size _ rfl, rfl, 0, rfl⟩ (r.ext (Ext.push _ _))
theorem EvE.list {es : List Expr} {ps : List PV} {pos : Pos} (x : EvL w mg n env ρ es ps) (hsz : ps.length ≤ sizeLine) : EvE w mg n env (.List es pos) ρ (.lst ps) := by
  intro A h₀ s Q E ha S ht hQ
  refine List_ (x.spliced A h₀ s _ E ha S ht fun vs h' tk z kx r => wpAny_newList (hQ _ _ tk z (kx.trans (Ext.push _ _)) ?_) (by rw [r.length]; exact hsz))
  exact rLst (a := h'.objs.size) (vs := vs) ⟨_, Heap.get?_push_size _ rfl, rfl, 0, rfl⟩ (r.ext (Ext.push _ _))

theorem intsAre {h : Heap} : ∀ {is : List Int} {vs : List Value}, RepL h (is.map PV.int) vs → IntsAre vs is
  | [], _, r => by unfold List.map RepL at r; subst r; exact .nil
  | i :: is, _, r => by
    unfold List.map RepL at r
    obtain ⟨v, vr, rfl, rv, rr⟩ := r
    obtain ⟨t, rfl⟩ := rv.i
    exact .cons _ _ (intsAre rr)
theorem Op2.inTup {is : List Int} {i : Int} : Op2 w n (compareOp .In) (.int i) (.tup (is.map PV.int)) (.bool (is.any (· == i))) := by
  intro A s Q E va vb ha ra rb hQ
  obtain ⟨t, rfl⟩ := ra.i
  obtain ⟨a, vs, rfl, hT, rl⟩ := rb.t
  exact in_tuple_ints hT (by simpa using intsAre rl) (hQ _ s.heap s.toks (Ext.refl _) rBool)
theorem Op2.addL {a b : List PV} (hsz : a.length + b.length ≤ sizeLine) : Op2 w n (binaryOp .Add) (.lst a) (.lst b) (.lst (a ++ b)) := by
  intro A s Q E va vb ha ra rb hQ
  obtain ⟨l, vs, rfl, hl, rl⟩ := ra.l
  obtain ⟨c, ws, rfl, hb, rc⟩ := rb.l
  obtain ⟨⟨cls, dd, data, sl⟩, ho, hc, m, hd⟩ := id hl
  obtain ⟨⟨cls2, dd2, data2, sl2⟩, ho2, hc2, m2, hd2⟩ := id hb
  simp only at hc hd hc2 hd2
  subst hc hd hc2 hd2
  refine concat_meets ⟨_, ho, rfl⟩ ⟨_, ho2, rfl⟩ noFill_list_add seq_list_add PySem.F.slot_list_add PySem.F.entry_list_add (PySem.F.args_list_add_2 _ _)
    (list_addW l c vs.toArray ws.toArray m m2 dd dd2 sl sl2 (by simpa [rl.length, rc.length] using hsz)) ⟨ho, ho2, ?_⟩
  refine hQ _ _ s.toks (Ext.push _ _) (rLst (a := s.heap.objs.size) (vs := vs ++ ws) ⟨_, Heap.get?_push_size _ rfl, rfl, 0, by simp⟩ ((rl.append rc).ext (Ext.push _ _)))

/-! ### items -/
theorem EvE.item {value slice : Expr} {pos : Pos} {a b p : PV} (hv : EvE w mg n env value ρ a) (hs : EvE w mg n env slice ρ b)
    (hi : ∀ (A : Around) (s : Shared) (Q : Value → Shared → Prop) (E : Value → Shared → Prop) (va vb : Value), AOk n A → Rep s.heap a va → Rep s.heap b vb →
      (∀ v h' tk, Ext s.heap h' → Rep h' p v → Q v { s with heap := h', toks := tk }) → wpAny (model p0 w) A (subscriptTail value slice va vb) Q E s) : EvE w mg n env (.Subscript value slice pos) ρ p := by
  intro A h₀ s Q E ha S ht hQ
  refine wpT ht (Subscript_ (hv A h₀ s _ _ ha S ht fun va h₁ t₁ z₁ k₁ ra => hs A h₀ _ _ _ ha (S.ext k₁) z₁ fun vb h₂ t₂ z₂ k₂ rb => ?_))
  exact hi A _ _ _ va vb ha (ra.ext k₂) rb fun v h' tk k r hn => hQ v h' tk hn (k₁.trans (k₂.trans k)) r
theorem EvE.itemT {value slice : Expr} {pos : Pos} {l : List PV} {i : Int} {p : PV} (hv : EvE w mg n env value ρ (.tup l)) (hs : EvE w mg n env slice ρ (.int i)) (h0 : 0 ≤ i) (h1 : i < 2 ^ 63) (hp : l[i.toNat]? = some p)
    (hsub : ∀ o j, subscripted slice false o j = operate [o, j] (getItem o j)) : EvE w mg n env (.Subscript value slice pos) ρ p := by
  refine EvE.item hv hs fun A s Q E va vb ha ra rb hQ => ?_
  obtain ⟨a, vs, rfl, hT, rl⟩ := ra.t
  obtain ⟨t, rfl⟩ := rb.i
  obtain ⟨v, hv', rv⟩ := rl.get hp
  refine item_tupleT hT (by omega) h1 (j := i.toNat) ?_ hv' (hQ v s.heap s.toks (Ext.refl _) rv) (hsub _ _)
  have hlt : i.toNat < vs.length := by
    rcases Nat.lt_or_ge i.toNat vs.length with q | q
    · exact q
    · rw [List.getElem?_eq_none q] at hv'; cases hv'
  unfold seqIndex?
  have a1 : ¬ i < 0 := by omega
  simp only [a1, if_false]
  have a2 : (decide (0 ≤ i) && decide (i < (vs.length : Int))) = true := by
    rw [decide_eq_true h0, decide_eq_true (by omega)]; rfl
  rw [if_pos a2]
theorem EvE.itemL {value slice : Expr} {pos : Pos} {l : List PV} {i : Int} {p : PV} (hv : EvE w mg n env value ρ (.lst l)) (hs : EvE w mg n env slice ρ (.int i)) (h0 : 0 ≤ i) (h1 : i < 2 ^ 63) (hp : l[i.toNat]? = some p)
    (hsub : ∀ o j, subscripted slice false o j = operate [o, j] (getItem o j)) : EvE w mg n env (.Subscript value slice pos) ρ p := by
  refine EvE.item hv hs fun A s Q E va vb ha ra rb hQ => ?_
  obtain ⟨a, vs, rfl, hT, rl⟩ := ra.l
  obtain ⟨t, rfl⟩ := rb.i
  obtain ⟨v, hv', rv⟩ := rl.get hp
  exact tail_any hT.typeIs slot_list_getitem.lookup (wpAny_getItem_list hT h0 h1 (by simpa using hv') (hQ v s.heap s.toks (Ext.refl _) rv)) (hsub _ _)
theorem EvE.itemS {value slice : Expr} {pos : Pos} {x : Str} {i : Int} {c : Nat} (hv : EvE w mg n env value ρ (.str x)) (hs : EvE w mg n env slice ρ (.int i)) (h0 : 0 ≤ i) (h1 : i < 2 ^ 63) (hp : x.cps[i.toNat]? = some c)
    (hsub : ∀ o j, subscripted slice false o j = operate [o, j] (getItem o j)) : EvE w mg n env (.Subscript value slice pos) ρ (.str ⟨#[c]⟩) := by
  refine EvE.item hv hs fun A s Q E va vb ha ra rb hQ => ?_
  obtain ⟨t, rfl⟩ := ra.s
  obtain ⟨u, rfl⟩ := rb.i
  refine tail_any (typeIs_str s x t) slot_str_getitem.lookup (getItem_str (c := c) ?_ ?_ (hQ _ s.heap _ (Ext.refl _) rStr)) (hsub _ _)
  · have a1 : ¬ i < -(2 ^ 63 : Int) := by omega
    have a2 : ¬ i ≥ (2 ^ 63 : Int) := by omega
    rw [decide_eq_false a1, decide_eq_false a2]; rfl
  · have hlt : i.toNat < x.cps.size := by
      rcases Nat.lt_or_ge i.toNat x.cps.size with q | q
      · exact q
      · rw [Array.getElem?_eq_none q] at hp; cases hp
    have e : seqIndex? i x.length = some i.toNat := by
      unfold seqIndex?
      have a1 : ¬ i < 0 := by omega
      simp only [a1, if_false]
      have a2 : (decide (0 ≤ i) && decide (i < (x.length : Int))) = true := by
        rw [decide_eq_true h0, decide_eq_true (by show i < ((x.cps.size : Nat) : Int); omega)]; rfl
      rw [if_pos a2]
    rw [e]
    exact hp

/-! ### slices -/
/-- the part of a slice -/
inductive EvO (w : World) (mg : Str → Option Value) (n : Nat) (env : Env) (ρ : Str → Option PV) : Option Expr → Option Int → Prop
  | none : EvO w mg n env ρ none none
  | some {e : Expr} {i : Int} (h : EvE w mg n env e ρ (.int i)) : EvO w mg n env ρ (some e) (some i)
def PartIs : Option Int → Value → Prop
  | none, v => v = .none
  | some i, v => ∃ t, v = .int i t
theorem EvO.use {o : Option Expr} {oi : Option Int} (x : EvO w mg n env ρ o oi) (A : Around) (h₀ : Heap) (s : Shared) (Q : Value → Shared → Prop) (E : Value → Shared → Prop) (ha : AOk n A) (S : Sta w mg env h₀ s.heap ρ) (ht : 0 < s.toks)
    (hQ : ∀ v h' tk, 0 < tk → Ext s.heap h' → PartIs oi v → Q v { s with heap := h', toks := tk }) : wpAny (model p0 w) A (evalPart o env) Q E s := by
  cases x with
  | none => rw [evalPart_none]; exact wpAny_pure (hQ _ s.heap s.toks ht (Ext.refl _) rfl)
  | some h => exact wpAny_evalPart_some (h A h₀ s _ E ha S ht fun v h' tk z k r => hQ v h' tk z k r.i)
theorem EvE.sliceS {value : Expr} {lo hi : Option Expr} {a b : Option Int} {p pos : Pos} {x : Str} (hv : EvE w mg n env value ρ (.str x)) (hl : EvO w mg n env ρ lo a) (hh : EvO w mg n env ρ hi b) (hsz : x.length ≤ sizeLine) :
    EvE w mg n env (.Subscript value (.Slice lo hi none p) pos) ρ (.str (Txt.slice x a b)) := by
  intro A h₀ s Q E ha S ht hQ
  refine wpT ht (Subscript_ (hv A h₀ s _ _ ha S ht fun va h₁ t₁ z₁ k₁ ra => wpAny_Slice (hl.use A h₀ _ _ _ ha (S.ext k₁) z₁ fun vl h₂ t₂ z₂ k₂ pl =>
    hh.use A h₀ _ _ _ ha (S.ext (k₁.trans k₂)) z₂ fun vu h₃ t₃ z₃ k₃ pu => ?_)))
  rw [evalPart_none]
  refine wpAny_pure ?_
  obtain ⟨t, rfl⟩ := ra.s
  have kK : KeptH (fun h => Ext h₃ h) := fun h ob e => e.trans (Ext.push _ _)
  have fin : ∀ (h' : Heap) (t' : Tok) (k : Nat), Ext h₃ h' → (0 < k → Q (.str (Txt.slice x a b) t') { s with heap := h', toks := k }) := fun h' t' k e hn => hQ _ h' k hn (k₁.trans (k₂.trans (k₃.trans e))) rStr
  cases a with
  | none =>
    have e : vl = .none := pl
    subst e
    cases b with
    | none =>
      have e : vu = .none := pu
      subst e
      obtain ⟨T, id, q1, q2, q3⟩ := SBH.sliceItem_nn (prog := p0) (w := w) (A := A) (x := x) (t := t) (Q := fun v s' => 0 < s'.toks → Q v s') (E := fun e s' => 0 < s'.toks → E e s') (s := { s with heap := h₃, toks := t₃ }) kK (Ext.refl _) fin hsz
      exact tail_any q2 q1 q3 (ops := [.ref h₃.objs.size, .str x t]) rfl
    | some j =>
      obtain ⟨u, rfl⟩ := pu
      obtain ⟨T, id, q1, q2, q3⟩ := SBH.sliceItem_ns (prog := p0) (w := w) (A := A) (x := x) (t := t) (Q := fun v s' => 0 < s'.toks → Q v s') (E := fun e s' => 0 < s'.toks → E e s') (s := { s with heap := h₃, toks := t₃ }) kK (Ext.refl _) fin hsz
      exact tail_any q2 q1 q3 (ops := [.ref h₃.objs.size, .str x t]) rfl
  | some i =>
    obtain ⟨ui, rfl⟩ := pl
    cases b with
    | none =>
      have e : vu = .none := pu
      subst e
      obtain ⟨T, id, q1, q2, q3⟩ := SBH.sliceItem_sn (prog := p0) (w := w) (A := A) (x := x) (t := t) (Q := fun v s' => 0 < s'.toks → Q v s') (E := fun e s' => 0 < s'.toks → E e s') (s := { s with heap := h₃, toks := t₃ }) kK (Ext.refl _) fin hsz
      exact tail_any q2 q1 q3 (ops := [.ref h₃.objs.size, .str x t]) rfl
    | some j =>
      obtain ⟨u, rfl⟩ := pu
      obtain ⟨T, id, q1, q2, q3⟩ := SBH.sliceItem_ss (prog := p0) (w := w) (A := A) (x := x) (t := t) (Q := fun v s' => 0 < s'.toks → Q v s') (E := fun e s' => 0 < s'.toks → E e s') (s := { s with heap := h₃, toks := t₃ }) kK (Ext.refl _) fin hsz
      exact tail_any q2 q1 q3 (ops := [.ref h₃.objs.size, .str x t]) rfl
theorem PartIs.part {a : Option Int} {v : Value} (h : PartIs a v) : IsPart v a := by
  cases a with
  | none => have e : v = .none := h; subst e; exact .none
  | some i => obtain ⟨t, rfl⟩ := h; exact .int i t
theorem EvE.sliceL {value : Expr} {lo hi : Option Expr} {a b : Option Int} {p pos : Pos} {l l' : List PV} (hv : EvE w mg n env value ρ (.lst l)) (hl : EvO w mg n env ρ lo a) (hh : EvO w mg n env ρ hi b) (hsz : l.length ≤ sizeLine)
    (hpick : ∀ h vs, RepL h l vs → ∃ us : List Value, slicePick vs.toArray a b none = us.toArray ∧ RepL h l' us) : EvE w mg n env (.Subscript value (.Slice lo hi none p) pos) ρ (.lst l') := by
  intro A h₀ s Q E ha S ht hQ
  refine wpT ht (Subscript_ (hv A h₀ s _ _ ha S ht fun va h₁ t₁ z₁ k₁ ra => wpAny_Slice (hl.use A h₀ _ _ _ ha (S.ext k₁) z₁ fun vl h₂ t₂ z₂ k₂ pl =>
    hh.use A h₀ _ _ _ ha (S.ext (k₁.trans k₂)) z₂ fun vu h₃ t₃ z₃ k₃ pu => ?_)))
  rw [evalPart_none]
  refine wpAny_pure ?_
  obtain ⟨c, vs, rfl, hc, rc⟩ := (ra.ext (k₂.trans k₃)).l
  obtain ⟨us, eu, ru⟩ := hpick h₃ vs rc
  have hc' : (h₃.push { cls := .type "slice", data := .fields #[vl, vu, .none] }).IsList c vs.toArray := hc.push _
  refine tail_any hc'.typeIs slot_list_getitem.lookup (wpAny_getItem_list_slice hc' (Heap.IsSliceOf.new ..) pl.part pu.part .none (by simp) ?_ (by simpa [rc.length] using hsz)) (ops := [.ref h₃.objs.size, .ref c]) rfl
  intro hn
  rw [eu]
  exact hQ _ _ t₃ hn ((k₁.trans (k₂.trans k₃)).trans ((Ext.push _ _).trans (Ext.push _ _))) (rLst ⟨_, Heap.get?_push_size _ rfl, rfl, 0, rfl⟩ (ru.ext ((Ext.push _ _).trans (Ext.push _ _))))
theorem EvE.sliceT {value : Expr} {lo : Expr} {p pos : Pos} {l : List PV} {i : Nat} (hv : EvE w mg n env value ρ (.tup l)) (hl : EvE w mg n env lo ρ (.int i)) (h1 : 1 ≤ i) (hi : i ≤ l.length) (hsz : l.length ≤ sizeLine) :
    EvE w mg n env (.Subscript value (.Slice (some lo) none none p) pos) ρ (.tup (l.drop i)) := by
  intro A h₀ s Q E ha S ht hQ
  refine wpT ht (Subscript_ (hv A h₀ s _ _ ha S ht fun va h₁ t₁ z₁ k₁ ra => wpAny_Slice (wpAny_evalPart_some (hl A h₀ _ _ _ ha (S.ext k₁) z₁ fun vl h₂ t₂ z₂ k₂ pl => ?_))))
  rw [evalPart_none]
  refine wpAny_pure (wpAny_pure ?_)
  obtain ⟨c, vs, rfl, hc, rc⟩ := (ra.ext k₂).t
  obtain ⟨u, rfl⟩ := pl.i
  have hc' : IsTup (h₂.push { cls := .type "slice", data := .fields #[.int i u, .none, .none] }) c vs.toArray := hc.keeps fun _ _ e => Heap.get?_push_of_some _ e
  refine tail_any hc'.typeIs slot_tuple_getitem.lookup (getItem_tuple_from hc' (Heap.IsSliceOf.new ..) h1 (by simpa [rc.length] using hi) ?_ (by simpa [rc.length] using hsz)) (ops := [.ref h₂.objs.size, .ref c]) rfl
  intro hn
  exact hQ _ _ t₂ hn ((k₁.trans k₂).trans ((Ext.push _ _).trans (Ext.push _ _))) (rTup ⟨_, Heap.get?_push_size _ rfl, rfl, 0, rfl⟩ (by simpa using (rc.drop i).ext ((Ext.push _ _).trans (Ext.push _ _))))

/-! ### tests -/
theorem EvT.and2 {a b : Expr} {pos : Pos} {p q : Bool} (ha : EvT w mg n env a ρ p) (hb : p = true → EvT w mg n env b ρ q) : EvT w mg n env (.BoolOp .And [a, b] pos) ρ (p && q) := by
  intro A h₀ s Q E hA S ht hQ
  refine wpAny_isTrue_BoolOp (wpAny_allTrue_And_cons (ha A h₀ s _ E hA S ht fun h' tk z k => ?_))
  cases p with
  | false => exact hQ h' tk z k
  | true => exact wpAny_allTrue_And_cons (hb rfl A h₀ _ _ E hA (S.ext k) z fun h₂ t₂ z₂ k₂ => by
      cases q with
      | false => exact hQ h₂ t₂ z₂ (k.trans k₂)
      | true => exact wpAny_allTrue_And_nil (hQ h₂ t₂ z₂ (k.trans k₂)))
theorem EvT.or2 {a b : Expr} {pos : Pos} {p q : Bool} (ha : EvT w mg n env a ρ p) (hb : p = false → EvT w mg n env b ρ q) : EvT w mg n env (.BoolOp .Or [a, b] pos) ρ (p || q) := by
  intro A h₀ s Q E hA S ht hQ
  refine wpAny_isTrue_BoolOp (wpAny_allTrue_Or_cons (ha A h₀ s _ E hA S ht fun h' tk z k => ?_))
  cases p with
  | true => exact hQ h' tk z k
  | false => exact wpAny_allTrue_Or_cons (hb rfl A h₀ _ _ E hA (S.ext k) z fun h₂ t₂ z₂ k₂ => by
      cases q with
      | true => exact hQ h₂ t₂ z₂ (k.trans k₂)
      | false => exact wpAny_allTrue_Or_nil (hQ h₂ t₂ z₂ (k.trans k₂)))
theorem EvT.not {a : Expr} {pos : Pos} {p : Bool} (ha : EvT w mg n env a ρ p) : EvT w mg n env (.UnaryOp .Not a pos) ρ (!p) := by
  intro A h₀ s Q E hA S ht hQ
  exact wpAny_isTrue_Not (ha A h₀ s _ E hA S ht fun h' tk z k => hQ h' tk z k)
theorem EvT.val {e : Expr} {b : Bool} (he : EvE w mg n env e ρ (.bool b)) (hi : ∀ whole, isTrue e env whole = (do let v ← whole; standAt e.pos; holding [v] (truthy v))) : EvT w mg n env e ρ b := by
  intro A h₀ s Q E hA S ht hQ
  refine isTrue_plain (he A h₀ s _ E hA S ht fun v h' tk z k r => ?_) (hi _)
  obtain rfl := r.b
  exact wpAny_truthy_bool (hQ h' tk z k)
theorem EvE.ifExp {t a b : Expr} {pos : Pos} {c : Bool} {p q : PV} (hc : EvT w mg n env t ρ c) (ha : c = true → EvE w mg n env a ρ p) (hb : c = false → EvE w mg n env b ρ q) : EvE w mg n env (.IfExp t a b pos) ρ (if c then p else q) := by
  intro A h₀ s Q E hA S ht hQ
  refine wpAny_IfExp (hc A h₀ s _ E hA S ht fun h' tk z k => ?_)
  cases c with
  | true => exact ha rfl A h₀ _ _ E hA (S.ext k) z fun v h₂ t₂ z₂ k₂ r => hQ v h₂ t₂ z₂ (k.trans k₂) r
  | false => exact hb rfl A h₀ _ _ E hA (S.ext k) z fun v h₂ t₂ z₂ k₂ r => hQ v h₂ t₂ z₂ (k.trans k₂) r
theorem EvT.chain {l m r : Expr} {o₁ o₂ : CmpOp} {pos : Pos} {a b c : PV} {p q : Bool} (hl : EvE w mg n env l ρ a) (hm : EvE w mg n env m ρ b) (hr : EvE w mg n env r ρ c)
    (h1 : Op2 w n (compareOp o₁) a b (.bool p)) (h2 : Op2 w n (compareOp o₂) b c (.bool q)) (hk : lastMarks [o₁, o₂] [m, r] = false) : EvT w mg n env (.Compare l [o₁, o₂] [m, r] pos) ρ (p && q) := by
  intro A h₀ s Q E hA S ht hQ
  refine wpT ht (isTrue_chain (hl A h₀ s _ _ hA S ht fun va h₁ t₁ z₁ k₁ ra => test_link (hm A h₀ _ _ _ hA (S.ext k₁) z₁ fun vb h₂ t₂ z₂ k₂ rb => ?_)) hk)
  refine wpT z₂ ?_
  refine h1 A _ _ _ va vb hA (ra.ext k₂) rb fun v h₃ t₃ k₃ r₃ => ?_
  intro z₃
  obtain rfl := r₃.b
  refine wpAny_truthy_bool ?_
  cases p with
  | false => exact fun hn => hQ _ _ hn (k₁.trans (k₂.trans k₃))
  | true =>
    show wpAny _ _ (testChain pos vb [o₂] [eval r env]) _ _ _
    refine test_last (hr A h₀ _ _ _ hA (S.ext (k₁.trans (k₂.trans k₃))) z₃ fun vc h₄ t₄ z₄ k₄ rc => h2 A _ _ _ vb vc hA (rb.ext (k₃.trans k₄)) rc fun v₅ h₅ t₅ k₅ r₅ => ?_)
    obtain rfl := r₅.b
    exact wpAny_truthy_bool fun hn => hQ _ _ hn (k₁.trans (k₂.trans (k₃.trans (k₄.trans k₅))))
end
end Mine

end PartB4
section PartB5
open PySem PySem.W PyProof.Rows PySem.Calls
set_option Elab.async false
set_option maxRecDepth 100000
set_option linter.unusedVariables false
namespace Mine
/-! ## iterators -/
def NotOwn (o : Obj) : Prop := (∀ es m, o.data ≠ .dict es m) ∧ ∀ v, o.data ≠ .cell v
structure Iter (w : World) (A : Around) (tg : Expr) (ps : List PV) (I : Addr) (h₁ : Heap) (fp wr : List Addr) (P : Nat → Value → Prop) (St : Nat → Heap → Prop) : Prop where
  W : Walks p0 w A I fp wr ps.length P St
  st : St 0 h₁
  fpo : ∀ i h, St i h → ∀ b ∈ fp, ∃ o, h.get? b = some o ∧ NotOwn o
  wro : ∀ i h, St i h → ∀ b ∈ wr, ∃ o, h.get? b = some o ∧ ∀ vs m, o.data ≠ .seq vs m
  rep : ∀ i v, i < ps.length → P i v → ∃ p, ps[i]? = some p ∧ Rep h₁ p v
  lot : ∀ i v (s : Shared) (Q : Unit → Shared → Prop) (E : Value → Shared → Prop), St i s.heap → Q () s → wpAny (model p0 w) A (letOwnedTupleGo tg (.ref I) v) Q E s
  lt : ∀ b ∈ fp, b < h₁.objs.size

section
variable (w : World) (mg : Str → Option Value) (n : Nat) (env : Env)
/-- the expression is walked, giving those data -/
def EvI (tg e : Expr) (ρ : Str → Option PV) (ps : List PV) : Prop :=
  ∀ (A : Around) (h₀ : Heap) (s : Shared) (Q : Value → Shared → Prop) (E : Value → Shared → Prop), AOk n A → Sta w mg env h₀ s.heap ρ → 0 < s.toks →
    (∀ I fp wr P St h' tk, 0 < tk → Ext s.heap h' → Iter w A tg ps I h' fp wr P St → (∀ b ∈ wr, s.heap.get? b = none) → Q (.ref I) { s with heap := h', toks := tk }) →
    wpAny (model p0 w) A (eval e env) (fun x s₁ => wpAny (model p0 w) A (pyIter x) Q E s₁) E s
end
section
variable {w : World} {mg : Str → Option Value} {n : Nat} {env : Env} {ρ : Str → Option PV}

theorem fresh_size (h : Heap) : h.get? h.objs.size = none := by
  cases e : h.get? h.objs.size with
  | none => rfl
  | some o => exact absurd (Heap.lt_size e) (Nat.lt_irrefl _)
theorem fresh_of_ext {h h' : Heap} (k : Ext h h') : h.get? h'.objs.size = none := by
  cases e : h.get? h'.objs.size with
  | none => rfl
  | some o => exact absurd (Heap.lt_size (k _ _ e)) (Nat.lt_irrefl _)

theorem EvI.list {tg e : Expr} {ps : List PV} (he : EvE w mg n env e ρ (.lst ps)) (htg : (∃ x p, tg = .Name x p) ∨ ∃ es k p, tg = .Tuple es k p) (hnt : (∃ x p, tg = .Name x p) ∨ ∀ p ∈ ps, ∃ l, p = .tup l) : EvI w mg n env tg e ρ ps := by
  intro A h₀ s Q E ha S ht hQ
  refine he A h₀ s _ E ha S ht fun v h' tk z k r => ?_
  obtain ⟨l, vs, rfl, hl, rl⟩ := r.l
  have hne : l ≠ h'.objs.size := by obtain ⟨o, ho, _⟩ := hl; exact Nat.ne_of_lt (Heap.lt_size ho)
  refine wpAny_pyIter_list hl (hQ _ [h'.objs.size, l] [h'.objs.size] (fun i v => vs.toArray[i]? = some v) (fun i h => h.IsListIter h'.objs.size l i ∧ h.IsList l vs.toArray) _ tk z (k.trans (Ext.push _ _)) ⟨?_, ⟨⟨_, Heap.get?_push_size _ rfl, rfl, rfl⟩, hl.push _⟩, ?_, ?_, ?_, ?_, ?_⟩ ?_)
  · have W := Walks.list (prog := p0) (w := w) ha.handled h'.objs.size l hne vs.toArray
    have e : vs.toArray.size = ps.length := by simp [rl.length]
    exact e ▸ W
  · intro i h hs b hb
    rcases List.mem_cons.mp hb with rfl | hb
    · obtain ⟨⟨o, ho, _, hd⟩, _⟩ := hs
      exact ⟨o, ho, fun _ _ => by rw [hd]; nofun, fun _ => by rw [hd]; nofun⟩
    · obtain rfl := List.mem_singleton.mp hb
      obtain ⟨_, o, ho, _, m, hd⟩ := hs
      exact ⟨o, ho, fun _ _ => by rw [hd]; nofun, fun _ => by rw [hd]; nofun⟩
  · intro i h hs b hb
    obtain rfl := List.mem_singleton.mp hb
    obtain ⟨⟨o, ho, _, hd⟩, _⟩ := hs
    exact ⟨o, ho, fun _ _ => by rw [hd]; nofun⟩
  · intro i v hlt hv
    have hv' : vs[i]? = some v := by simpa using hv
    obtain ⟨u, hu, ru⟩ := rl.get (List.getElem?_eq_getElem hlt)
    rw [hv'] at hu
    cases hu
    exact ⟨_, List.getElem?_eq_getElem hlt, ru.ext (Ext.push _ _)⟩
  · intro i v s' Q' E' hs hq
    rcases htg with ⟨x, p, rfl⟩ | ⟨es, kk, p, rfl⟩
    · exact wpAny_pure hq
    · cases v with
      | ref T => exact wpAny_letOwnedTupleGo_listiter hs.1 hq
      | _ => exact wpAny_pure hq
  · intro b hb
    rw [Heap.size_push]
    rcases List.mem_cons.mp hb with rfl | hb
    · exact Nat.lt_succ_self _
    · obtain rfl := List.mem_singleton.mp hb
      obtain ⟨o, ho, _⟩ := hl
      exact Nat.lt_succ_of_lt (Heap.lt_size ho)
  · intro b hb
    obtain rfl := List.mem_singleton.mp hb
    exact fresh_of_ext k
theorem EvI.str {e : Expr} {x : Str} {y : Str} {py : Pos} (he : EvE w mg n env e ρ (.str x)) : EvI w mg n env (.Name y py) e ρ (x.cps.toList.map fun c => .str ⟨#[c]⟩) := by
  intro A h₀ s Q E ha S ht hQ
  refine he A h₀ s _ E ha S ht fun v h' tk z k r => ?_
  obtain ⟨t, rfl⟩ := r.s
  have fin : ∀ (T : String) (W : Walks p0 w A h'.objs.size [h'.objs.size] [h'.objs.size] x.cps.size (SignAt x) (fun i h => h.IsStrIter h'.objs.size T x t i)),
      Q (.ref h'.objs.size) { s with heap := h'.push { cls := .type T, data := .fields #[.str x t, .int 0 0] }, toks := tk } := by
    intro T W
    refine hQ _ [h'.objs.size] [h'.objs.size] (SignAt x) (fun i h => h.IsStrIter h'.objs.size T x t i) _ tk z (k.trans (Ext.push _ _)) ⟨?_, ⟨_, Heap.get?_push_size _ rfl, rfl, rfl⟩, ?_, ?_, ?_, ?_, ?_⟩ ?_
    · simpa using W
    · intro i h hs b hb
      obtain rfl := List.mem_singleton.mp hb
      obtain ⟨o, ho, _, hd⟩ := hs
      exact ⟨o, ho, fun _ _ => by rw [hd]; nofun, fun _ => by rw [hd]; nofun⟩
    · intro i h hs b hb
      obtain rfl := List.mem_singleton.mp hb
      obtain ⟨o, ho, _, hd⟩ := hs
      exact ⟨o, ho, fun _ _ => by rw [hd]; nofun⟩
    · rintro i v _ ⟨c, u, hc, rfl⟩
      exact ⟨.str ⟨#[c]⟩, by simp [hc], rStr⟩
    · intro i v s' Q' E' hs hq
      exact wpAny_pure hq
    · intro b hb
      obtain rfl := List.mem_singleton.mp hb
      rw [Heap.size_push]
      exact Nat.lt_succ_self _
    · intro b hb
      obtain rfl := List.mem_singleton.mp hb
      exact fresh_of_ext k
  cases hx : x.cps.all (· < 128)
  · exact wpAny_pyIter_wide hx (fin _ (Walks.strWide ha.handled _ x t))
  · exact wpAny_pyIter_ascii hx (fin _ (Walks.strAscii ha.handled _ x t))
theorem EvI.range {e : Expr} {m : Nat} {y : Str} {py pf pos : Pos} (he : EvE w mg n env e ρ (.int m)) (hm : m ≤ sizeLine) (hk : (env.kindOf "range" == some .globalImplicit) = true)
    (hs : starEach [e] env = (false, eval e env) :: starEach [] env) :
    EvI w mg n env (.Name y py) (.Call (.Name "range" pf) [e] [] pos) ρ ((List.range m).map fun i => .int (i : Nat)) := by
  intro A h₀ s Q E ha S ht hQ
  refine wpAny_Call_NameR (EvE.builtin (by decide) (v := .type "range") (by decide +kernel) (by decide) hk (by decide) A h₀ s _ _ ha S ht fun v h₁ t₁ z₁ k₁ r₁ => ?_)
  obtain rfl := r₁.r
  refine PyProof.Rows.callWith_type ((EvL.cons he hs .nil).noStar pos) (evalArgs_row (EvL.cons he hs .nil) A h₀ _ _ _ ha (S.ext k₁) z₁ fun vs h' tk z k r => ?_)
  obtain ⟨v, rfl, rv⟩ := repL1 r
  obtain ⟨t, rfl⟩ := rv.i
  refine call_range_1 ?_
  show wpAny (model p0 w) A (pyIter (.ref h'.objs.size)) Q E { s with heap := h'.push { cls := .type "range", data := .fields #[.int 0 tk, .int m t, .int 1 (tk + 1)] }, toks := tk + 1 + 1 }
  generalize hh2 : h'.push { cls := .type "range", data := .fields #[.int 0 tk, .int m t, .int 1 (tk + 1)] } = h₂
  have hR : IsRange h₂ h'.objs.size 0 m 1 tk t (tk + 1) := by rw [← hh2]; exact IsRange.new ..
  have k2 : Ext h' h₂ := by rw [← hh2]; exact Ext.push _ _
  have hsz : Builtin.Range.rangeSize 0 (m : Int) 1 = (m : Int) := by rw [rangeSize_one]; split <;> omega
  refine wpAny_pyIter_range hR (small_one (by decide) (by decide) (by omega) (by rw [sizeLine_eq] at hm; omega)) ?_
  rw [hsz]
  refine hQ _ [h₂.objs.size] [h₂.objs.size] (fun i v => ∃ t, v = .int (0 + i * 1) t) (fun i h => IsRangeIter h h₂.objs.size (0 + (i : Nat) * 1) ((m : Int) - (i : Nat)) 1) _ _ (Nat.succ_pos _) (k₁.trans (k.trans (k2.trans (Ext.push _ _)))) ⟨?_, ?_, ?_, ?_, ?_, ?_, ?_⟩ ?_
  · have W := Walks.range (prog := p0) (w := w) ha.handled h₂.objs.size 0 1 m
    rw [List.length_map, List.length_range]
    exact W
  · show IsRangeIter _ h₂.objs.size (0 + ((0 : Nat) : Int) * 1) ((m : Int) - ((0 : Nat) : Int)) 1
    have e1 : (0 : Int) + ((0 : Nat) : Int) * 1 = 0 := by omega
    have e2 : (m : Int) - ((0 : Nat) : Int) = m := by omega
    rw [e1, e2]
    exact Heap.get?_push_size _ rfl
  · intro i h hs b hb
    obtain rfl := List.mem_singleton.mp hb
    exact ⟨_, hs, fun _ _ => by nofun, fun _ => by nofun⟩
  · intro i h hs b hb
    obtain rfl := List.mem_singleton.mp hb
    exact ⟨_, hs, fun _ _ => by nofun⟩
  · rintro i v hi ⟨u, rfl⟩
    rw [List.length_map, List.length_range] at hi
    refine ⟨.int (i : Nat), by simp [hi], ?_⟩
    have e1 : (0 : Int) + (i : Int) * 1 = (i : Int) := by omega
    rw [e1]
    exact rInt
  · intro i v s' Q' E' hs hq
    exact wpAny_pure hq
  · intro b hb
    obtain rfl := List.mem_singleton.mp hb
    rw [Heap.size_push]
    exact Nat.lt_succ_self _
  · intro b hb
    obtain rfl := List.mem_singleton.mp hb
    exact fresh_of_ext (k₁.trans (k.trans k2))

/-! ## while -/
theorem EvS.while {test : Expr} {body : List Stmt} {pos : Pos} {P : Out → (Str → Option PV) → Prop} (I : Nat → (Str → Option PV) → Prop)
    (turn : ∀ m ρ', I m ρ' → ∃ b, EvT w mg n env test ρ' b ∧ (b = true → EvB w mg n env body ρ' fun o ρ'' => match o with | .next => ∃ m', m' < m ∧ I m' ρ'' | .brk => P .next ρ'' | .ret p => P (.ret p) ρ'') ∧ (b = false → P .next ρ'))
    (m : Nat) (h : I m ρ) : EvS w mg n env (.While test body [] pos) ρ P := by
  intro A h₀ s Q E ha O S ht hQ
  refine wpAny_While (codeAny_whileLoop (fun m s' => ∃ ρ' h' tk, s' = { s with heap := h', toks := tk } ∧ 0 < tk ∧ I m ρ' ∧ Sta w mg env h₀ h' ρ' ∧ ExtB env s.heap h') ?_ m ⟨ρ, s.heap, s.toks, rfl, ht, h, S, ExtB.refl _ _⟩)
  rintro m s' ⟨ρ', h', tk, rfl, z, hI, S', kB⟩
  obtain ⟨b, hb, hT, hF⟩ := turn m ρ' hI
  refine hb A h₀ _ _ _ ha S' z fun h₂ t₂ z₂ k₂ => ?_
  cases b with
  | false =>
    rw [if_neg Bool.false_ne_true]
    exact wpAny_execs_nil (hQ .next ρ' .next h₂ t₂ z₂ (hF rfl) rfl (S'.ext k₂) (kB.trans (k₂.b env)))
  | true =>
    rw [if_pos rfl]
    refine hT rfl A h₀ _ _ _ ha O (S'.ext k₂) z₂ fun o ρ₃ f h₃ t₃ z₃ p₃ q₃ s₃ e₃ => ?_
    have kB₃ : ExtB env s.heap h₃ := kB.trans ((k₂.b env).trans e₃)
    cases o with
    | next =>
      have e : f = .next := q₃
      subst e
      obtain ⟨m', hm, hI'⟩ := p₃
      exact ⟨m', hm, ρ₃, h₃, t₃, rfl, z₃, hI', s₃, kB₃⟩
    | brk =>
      have e : f = .brk := q₃
      subst e
      exact hQ .next ρ₃ .next h₃ t₃ z₃ p₃ rfl s₃ kB₃
    | ret p =>
      obtain ⟨v, rfl, rv⟩ := q₃
      exact hQ (.ret p) ρ₃ _ h₃ t₃ z₃ p₃ ⟨v, rfl, rv⟩ s₃ kB₃

/-! ## a target -/
/-- a name can be bound -/
def StoreOk (w : World) (mg : Str → Option Value) (env : Env) (h₀ : Heap) (X : Heap → Heap → Prop) (x : Str) : Prop :=
  ∀ (A : Around) (s : Shared) (ρ : Str → Option PV) (p : PV) (v : Value) (Q : Unit → Shared → Prop) (E : Value → Shared → Prop), Sta w mg env h₀ s.heap ρ → Rep s.heap p v →
    (∀ h' tk, Sta w mg env h₀ h' (upd ρ x p) → X s.heap h' → ExtS s.heap h' → Q () { s with heap := h', toks := tk }) → wpAny (model p0 w) A (storeName env x v) Q E s
/-- binding a target: how the frame knows it -/
inductive BindT : Expr → PV → (Str → Option PV) → (Str → Option PV) → Prop
  | name {x : Str} {pos : Pos} {p : PV} {ρ : Str → Option PV} : BindT (.Name x pos) p ρ (upd ρ x p)
  | tup {es : List Expr} {k : Nat} {pos : Pos} {ps : List PV} {ρ ρ' : Str → Option PV} (xs : List (Str × Pos)) (he : es = xs.map fun x => .Name x.1 x.2) (hl : xs.length = ps.length)
      (hr : ρ' = (xs.zip ps).foldl (fun ρ q => upd ρ q.1.1 q.2) ρ) : BindT (.Tuple es k pos) (.tup ps) ρ ρ'
def nmOf : Expr → List Str
  | .Name x _ => [x]
  | _ => []
def tgNames : Expr → List Str
  | .Name x _ => [x]
  | .Tuple es _ _ => es.flatMap nmOf
  | _ => []
theorem assignEach_names (xs : List (Str × Pos)) : assignEach (xs.map fun x => .Name x.1 x.2) env = xs.map fun x => (false, assign (.Name x.1 x.2) env) := by
  induction xs with
  | nil => rfl
  | cons x r ih => show (false, assign (.Name x.1 x.2) env) :: assignEach (r.map fun x => .Name x.1 x.2) env = _; rw [ih]; rfl
theorem Sta.assigns {A : Around} {h₀ : Heap} {X : Heap → Heap → Prop} (xr : ∀ h, X h h) (xt : ∀ a b c, X a b → X b c → X a c) : ∀ (xs : List (Str × Pos)) (ps : List PV) (vs : List Value) (ρ : Str → Option PV) (s : Shared) (Q : Unit → Shared → Prop) (E : Value → Shared → Prop),
    xs.length = ps.length → (∀ x ∈ xs, StoreOk w mg env h₀ X x.1) → Sta w mg env h₀ s.heap ρ → RepL s.heap ps vs →
    (∀ h' tk, Sta w mg env h₀ h' ((xs.zip ps).foldl (fun ρ q => upd ρ q.1.1 q.2) ρ) → X s.heap h' → ExtS s.heap h' → Q () { s with heap := h', toks := tk }) →
    wpAny (model p0 w) A (assignInOrder (xs.map fun x => assign (.Name x.1 x.2) env) vs) Q E s
  | [], [], _, ρ, s, Q, E, _, _, S, r, hQ => by
    unfold RepL at r
    subst r
    exact wpAny_assignInOrder_none (hQ s.heap s.toks S (xr _) (Ext.refl _).s)
  | [], _ :: _, _, _, _, _, _, e, _, _, _, _ => by cases e
  | _ :: _, [], _, _, _, _, _, e, _, _, _, _ => by cases e
  | x :: xs, p :: ps, _, ρ, s, Q, E, e, hk, S, r, hQ => by
    unfold RepL at r
    obtain ⟨v, vr, rfl, rv, rr⟩ := r
    refine wpAny_assignInOrder_more (wpAny_assign_Name (hk x (.head _) A s ρ p v _ _ S rv fun h' tk S' kB kS => ?_))
    exact Sta.assigns xr xt xs ps vr _ _ Q E (by simpa using e) (fun y hy => hk y (.tail _ hy)) S' (RepL.keepS kS ps rr) fun h₂ t₂ S₂ k₂ kS₂ => hQ h₂ t₂ S₂ (xt _ _ _ kB k₂) fun b o e1 e2 => kS₂ b o (kS b o e1 e2) e2
theorem BindT.use {A : Around} {h₀ : Heap} {X : Heap → Heap → Prop} (xt : ∀ a b c, X a b → X b c → X a c) (xe : ∀ a b, Ext a b → X a b) {tg : Expr} {p : PV} {ρ ρ' : Str → Option PV} (B : BindT tg p ρ ρ') (hh : A.handled = none)
    (hk : ∀ x ∈ tgNames tg, StoreOk w mg env h₀ X x) {s : Shared} {v : Value} {Q : Unit → Shared → Prop} {E : Value → Shared → Prop} (S : Sta w mg env h₀ s.heap ρ) (r : Rep s.heap p v) (ht : 0 < s.toks)
    (hQ : ∀ h' tk, 0 < tk → Sta w mg env h₀ h' ρ' → X s.heap h' → ExtS s.heap h' → Q () { s with heap := h', toks := tk }) : wpAny (model p0 w) A (assign tg env v) Q E s := by
  cases B with
  | name => exact wpT ht (wpAny_assign_Name (hk _ (List.mem_singleton.mpr rfl) A s _ _ v _ _ S r fun h' tk a b c z => hQ h' tk z a b c))
  | tup xs he hl hr =>
    subst he hr
    obtain ⟨a, vs, rfl, hT, rl⟩ := r.t
    have ea : assignEach (xs.map fun x => .Name x.1 x.2) env = xs.map fun x => (false, assign (.Name x.1 x.2) env) := assignEach_names xs
    refine wpT ht (wpAny_assign_Tuple hh (t := a) (items := vs.toArray) hT (by rw [ea]; simp [rl.length, hl]) (by rw [ea]; simp [List.findIdx?_eq_none_iff]) fun h' hx => ?_)
    have k : Ext s.heap h' := fun b o e => hx b o (Nat.ne_of_lt (Heap.lt_size e)) e
    have e2 : (assignEach (xs.map fun x => .Name x.1 x.2) env).map (·.2) = xs.map fun x => assign (.Name x.1 x.2) env := by rw [ea]; simp
    rw [e2]
    have e3 : ∀ x ∈ xs, x.1 ∈ tgNames (.Tuple (xs.map fun x => .Name x.1 x.2) ‹_› ‹_›) := fun x hx => List.mem_flatMap.mpr ⟨_, List.mem_map.mpr ⟨x, hx, rfl⟩, List.mem_singleton.mpr rfl⟩
    refine Sta.assigns (fun h => xe h h (Ext.refl _)) xt xs _ vs ρ _ _ _ hl (fun x hx => hk x.1 (e3 x hx)) (S.ext k) (rl.ext k) fun h₂ t₂ S₂ k₂ kS₂ z => ?_
    exact hQ h₂ t₂ z S₂ (xt _ _ _ (xe _ _ k) k₂) fun b o e1 e2 => kS₂ b o (k b o e1) e2
theorem storeOk_B {h₀ : Heap} (O : Own env h₀) {x : Str} (hk : (env.kindOf x == some .local || env.kindOf x == some .cell) = true) : StoreOk w mg env h₀ (ExtB env) x :=
  fun A s ρ p v Q E S r hQ => S.store O r hk hQ
theorem storeOk_L {h₀ : Heap} (ol : h₀.get? env.locals = none) {x : Str} (hk : (env.kindOf x == some .local) = true) : StoreOk w mg env h₀ (ExtL env) x :=
  fun A s ρ p v Q E S r hQ => S.storeL ol r (beq_iff_eq.mp hk) hQ

theorem EvS.assignT {tg e : Expr} {pos : Pos} {p : PV} {ρ' : Str → Option PV} {P : Out → (Str → Option PV) → Prop} (he : EvE w mg n env e ρ p) (B : BindT tg p ρ ρ') (h : P .next ρ')
    (hk : ((tgNames tg).all fun x => env.kindOf x == some .local || env.kindOf x == some .cell) = true) (hs : swapsWithSole [tg] e pos.line env = pure false) (hw : swappedStores [tg] e env = pure none) (ha : (assignEach [tg] env).map (·.2) = [PySem.assign tg env]) : EvS w mg n env (.Assign [tg] e pos) ρ P := by
  intro A h₀ s Q E hA O S ht hQ
  refine wpT ht (wpAny_Assign_stores (he A h₀ s _ _ hA S ht fun v h' tk z k r => ?_) hs hw)
  rw [ha]
  exact B.use (X := ExtB env) (fun _ _ _ => ExtB.trans) (fun _ _ x => x.b env) hA.handled (fun x hx => storeOk_B O (List.all_eq_true.mp hk x hx)) (S.ext k) r z fun h₂ t₂ z₂ S₂ e₂ _ hn => hQ .next _ .next h₂ t₂ hn h rfl S₂ ((k.b env).trans e₂)

/-! ## for -/
theorem Sta.wr {h₀ h h' : Heap} {wr : List Addr} (S : Sta w mg env h₀ h ρ) (k : ∀ b o, b ∉ wr → h.get? b = some o → h'.get? b = some o) (h0 : ∀ b ∈ wr, h₀.get? b = none)
    (hw : ∀ b ∈ wr, ∃ o, h.get? b = some o ∧ NotOwn o ∧ ∀ vs m, o.data ≠ .seq vs m) : Sta w mg env h₀ h' ρ := by
  have kS : ExtS h h' := fun b o e ⟨vs, m, hd⟩ => k b o (fun hb => by obtain ⟨o', ho, _, hn⟩ := hw b hb; rw [e] at ho; cases ho; exact hn _ _ hd) e
  have kc : ∀ c ov, h.IsCell c ov → h'.IsCell c ov := fun c ov ⟨o, ho, hd⟩ => ⟨o, k c o (fun hb => by obtain ⟨o', ho', hn, _⟩ := hw c hb; rw [ho] at ho'; cases ho'; exact hn.2 _ hd) ho, hd⟩
  refine ⟨S.kind, S.glob, S.bi, S.W, fun b o e => k b o (fun hb => by rw [h0 b hb] at e; cases e) (S.keep b o e), ?_, fun x hx => ?_, fun x c hc => ?_⟩
  · obtain ⟨m, hn, hm⟩ := S.loc
    refine ⟨m, hn.at' fun o e => k _ o (fun hb => ?_) e, fun x p a b => let ⟨v, e, r⟩ := hm x p a b; ⟨v, e, Rep.keepS kS p r⟩⟩
    obtain ⟨o', ho', hno, _⟩ := hw _ hb
    obtain ⟨o₂, es, ep, ho₂, hd, _⟩ := hn
    rw [ho'] at ho₂; cases ho₂
    exact hno.1 _ _ hd
  · obtain ⟨c, ov, hc, hi, hm⟩ := S.cel x hx
    exact ⟨c, ov, hc, kc _ _ hi, fun p hp => let ⟨v, e, r⟩ := hm p hp; ⟨v, e, Rep.keepS kS p r⟩⟩
  · obtain ⟨ov, hi⟩ := S.cells x c hc
    exact ⟨ov, kc _ _ hi⟩
/-- what an iterator leans on is not the frame's -/
theorem Sta.off {h₀ h : Heap} (S : Sta w mg env h₀ h ρ) {b : Addr} {o : Obj} (ho : h.get? b = some o) (hn : NotOwn o) : b ≠ env.locals ∧ ∀ x, env.cells.lookup x ≠ some b := by
  refine ⟨?_, fun x hx => ?_⟩
  · rintro rfl
    obtain ⟨m, ⟨o₂, es, ep, ho₂, hd, _⟩, _⟩ := S.loc
    rw [ho] at ho₂; cases ho₂
    exact hn.1 _ _ hd
  · obtain ⟨ov, o₂, ho₂, hd⟩ := S.cells x b hx
    rw [ho] at ho₂; cases ho₂
    exact hn.2 _ hd
theorem EvS.for {tg iter : Expr} {body : List Stmt} {pos : Pos} {ps : List PV} {P : Out → (Str → Option PV) → Prop} (hi : EvI w mg n env tg iter ρ ps) (I : Nat → (Str → Option PV) → Prop) (h0 : I 0 ρ)
    (turn : ∀ i p ρ', ps[i]? = some p → I i ρ' → ∃ ρ'', BindT tg p ρ' ρ'' ∧ EvB w mg n env body ρ'' fun o ρ₃ => match o with | .next => I (i + 1) ρ₃ | .brk => P .next ρ₃ | .ret q => P (.ret q) ρ₃)
    (hend : ∀ ρ', I ps.length ρ' → P .next ρ') (hk : ((tgNames tg).all fun x => env.kindOf x == some .local || env.kindOf x == some .cell) = true) (hf : ∀ x, foldedSetIterable iter env x = pure x) :
    EvS w mg n env (.For tg iter body [] pos) ρ P := by
  intro A h₀ s Q E ha O S ht hQ
  refine wpAny_For (hi A h₀ s _ E ha S ht fun It fp wr Pv St h₁ t₁ z₁ k₁ it hwr => ?_) hf
  have S₁ : Sta w mg env h₀ h₁ ρ := S.ext k₁
  have hwr0 : ∀ b ∈ wr, h₀.get? b = none := fun b hb => by
    cases e : h₀.get? b with
    | none => rfl
    | some o => have := S.keep b o e; rw [hwr b hb] at this; cases this
  have wrs : ∀ i h, St i h → ∀ b ∈ wr, ∃ o, h.get? b = some o ∧ NotOwn o ∧ ∀ vs m, o.data ≠ .seq vs m := fun i h hs b hb => by
    obtain ⟨o, ho, hn⟩ := it.fpo i h hs b (it.W.sub b hb)
    obtain ⟨o', ho', hq⟩ := it.wro i h hs b hb
    rw [ho] at ho'; cases ho'
    exact ⟨o, ho, hn, hq⟩
  refine codeAny_forLoop_any (fun m s' => ∃ i ρ' h' tk, m = ps.length - i ∧ i ≤ ps.length ∧ s' = { s with heap := h', toks := tk } ∧ 0 < tk ∧ I i ρ' ∧ Sta w mg env h₀ h' ρ' ∧ St i h' ∧
    (∀ b o, b ≠ env.locals → (∀ x, env.cells.lookup x ≠ some b) → b ∉ wr → h₁.get? b = some o → h'.get? b = some o)) ?_ ps.length ⟨0, ρ, h₁, t₁, by omega, Nat.zero_le _, rfl, z₁, h0, S₁, it.st, fun b o _ _ _ e => e⟩
  rintro m s' ⟨i, ρ', h', tk, rfl, hle, rfl, z, hI, S', hst, kk⟩
  have toB : ∀ h₂, (∀ b o, b ≠ env.locals → (∀ x, env.cells.lookup x ≠ some b) → b ∉ wr → h₁.get? b = some o → h₂.get? b = some o) → ExtB env s.heap h₂ := fun h₂ kk b o a1 a2 e =>
    kk b o a1 a2 (fun hb => by rw [hwr b hb] at e; cases e) (k₁ b o e)
  rcases Nat.lt_or_ge i ps.length with hlt | hge
  · refine wpT z (it.W.item i _ _ _ hlt hst fun v h₂ t₂ hp hst₂ k₂ => ?_)
    intro z₂
    obtain ⟨p, hpp, rv⟩ := it.rep i v hlt hp
    obtain ⟨ρ'', B, hB⟩ := turn i p ρ' hpp hI
    have S₂ : Sta w mg env h₀ h₂ ρ' := S'.wr k₂ hwr0 (wrs i h' hst)
    have rv₂ : Rep h₂ p v := Rep.keepS (fun b o e hd => by
      have nb : b ∉ wr := fun hb => by
        obtain ⟨o', ho', hq⟩ := it.wro 0 h₁ it.st b hb
        rw [e] at ho'; cases ho'
        obtain ⟨vs, m, hd⟩ := hd
        exact hq _ _ hd
      have no : NotOwn o := by obtain ⟨vs, m, hd⟩ := hd; exact ⟨fun _ _ => by rw [hd]; nofun, fun _ => by rw [hd]; nofun⟩
      obtain ⟨a1, a2⟩ := S₁.off e no
      exact k₂ b o nb (kk b o a1 a2 nb e)) p rv
    refine it.lot (i + 1) v _ _ _ hst₂ ?_
    refine B.use (X := ExtB env) (fun _ _ _ => ExtB.trans) (fun _ _ x => x.b env) ha.handled (fun x hx => storeOk_B O (List.all_eq_true.mp hk x hx)) S₂ rv₂ z₂ fun h₃ t₃ z₃ S₃ e₃ _ => ?_
    refine hB A h₀ _ _ _ ha O S₃ z₃ fun o ρ₄ f h₄ t₄ z₄ p₄ q₄ S₄ e₄ => ?_
    have kk₄ : ∀ b o, b ≠ env.locals → (∀ x, env.cells.lookup x ≠ some b) → b ∉ wr → h₁.get? b = some o → h₄.get? b = some o := fun b o a1 a2 a3 e => e₄ b o a1 a2 (e₃ b o a1 a2 (k₂ b o a3 (kk b o a1 a2 a3 e)))
    cases o with
    | next =>
      have e : f = .next := q₄
      subst e
      have hst₄ : St (i + 1) h₄ := it.W.frame _ _ _ hst₂ fun b hb o e => by
        obtain ⟨o', ho', hn⟩ := it.fpo (i + 1) h₂ hst₂ b hb
        rw [e] at ho'; cases ho'
        obtain ⟨a1, a2⟩ := S₂.off e hn
        exact e₄ b o a1 a2 (e₃ b o a1 a2 e)
      exact ⟨ps.length - (i + 1), by omega, i + 1, ρ₄, h₄, t₄, rfl, hlt, rfl, z₄, p₄, S₄, hst₄, kk₄⟩
    | brk =>
      have e : f = .brk := q₄
      subst e
      exact hQ .next ρ₄ .next h₄ t₄ z₄ p₄ rfl S₄ (toB _ kk₄)
    | ret q =>
      obtain ⟨u, rfl, ru⟩ := q₄
      exact hQ (.ret q) ρ₄ _ h₄ t₄ z₄ p₄ ⟨u, rfl, ru⟩ S₄ (toB _ kk₄)
  · have e : i = ps.length := by omega
    subst e
    refine wpT z (it.W.done _ _ _ hst fun h₂ t₂ k₂ => ?_)
    intro z₂
    exact wpAny_execs_nil (hQ .next ρ' .next h₂ t₂ z₂ (hend _ hI) rfl (S'.wr k₂ hwr0 (wrs _ h' hst)) (toB _ fun b o a1 a2 a3 e => k₂ b o a3 (kk b o a1 a2 a3 e)))
end
end Mine

end PartB5
section PartB6
open PySem PySem.W PyProof.Rows PySem.Calls
set_option Elab.async false
set_option maxRecDepth 100000
set_option linter.unusedVariables false
namespace Mine
/-! ## comprehensions -/
mutual
def noLst : PV → Bool
  | .lst _ => false
  | .tup l => noLsts l
  | _ => true
def noLsts : List PV → Bool
  | [] => true
  | p :: l => noLst p && noLsts l
end
abbrev ExtT (h h' : Heap) : Prop := ∀ b o, h.get? b = some o → o.cls = .type "tuple" → h'.get? b = some o
mutual
theorem Rep.keepT {h h' : Heap} (k : ExtT h h') : ∀ (p : PV) {v : Value}, noLst p = true → Rep h p v → Rep h' p v
  | .none, _, _, x => x
  | .bool _, _, _, x => x
  | .int _, _, _, x => x
  | .str _, _, _, x => x
  | .tup l, _, nl, x => by
    unfold Rep at x ⊢
    unfold noLst at nl
    obtain ⟨a, vs, e, ⟨o, ho, hc, n, hd⟩, r⟩ := x
    exact ⟨a, vs, e, ⟨o, k a o ho hc, hc, n, hd⟩, RepL.keepT k l nl r⟩
  | .lst l, _, nl, x => by unfold noLst at nl; cases nl
  | .raw _, _, _, x => x
theorem RepL.keepT {h h' : Heap} (k : ExtT h h') : ∀ (l : List PV) {vs : List Value}, noLsts l = true → RepL h l vs → RepL h' l vs
  | [], _, _, x => x
  | p :: l, _, nl, x => by
    unfold RepL at x ⊢
    unfold noLsts at nl
    obtain ⟨n1, n2⟩ := Bool.and_eq_true_iff.mp nl
    obtain ⟨v, r, e, a, b⟩ := x
    exact ⟨v, r, e, Rep.keepT k p n1 a, RepL.keepT k l n2 b⟩
end
theorem noLsts_snoc {p : PV} : ∀ {l : List PV}, noLsts l = true → noLst p = true → noLsts (l ++ [p]) = true
  | [], _, h => by show noLsts [p] = true; unfold noLsts noLsts; rw [h]; rfl
  | q :: l, hl, h => by
    unfold noLsts at hl
    obtain ⟨a, b⟩ := Bool.and_eq_true_iff.mp hl
    show noLsts (q :: (l ++ [p])) = true
    unfold noLsts
    rw [a, noLsts_snoc b h]; rfl

theorem codeAny_compLoop_T {w : World} {A : Around} {s : Shared} {R : Result → Shared → Prop} {elt target iter : Expr} {ifs : List Expr} {scope : Scope} {pos : Pos} {it acc : Value} {env : Env} (I : Nat → Shared → Prop)
    (turn : ∀ n s, I n s → wpAny (model p0 w) A (pyNext it) (fun r s₁ => match r with
      | none => R (.ok .next) s₁
      | some v => wpAny (model p0 w) A (letOwnedTupleGo target it v) (fun _ s₀ => wpAny (model p0 w) A (assign target env v) (fun _ s₂ =>
          wpAny (model p0 w) A (forIn ifs true fun c r => if r = true then do let ok ← isTrue c env (eval c env); pure (ForInStep.yield ok) else pure (ForInStep.yield r)) (fun ok s₃ =>
            if ok = true then wpAny (model p0 w) A (eval elt env) (fun x s₄ =>
              wpAny (model p0 w) A (call (.builtin "list.append") [acc, x]) (fun _ s₅ => ∃ m, m < n ∧ I m s₅) (notedBy (model p0 w) A env fun e s' => R (.error e) s') s₄) (notedBy (model p0 w) A env fun e s' => R (.error e) s') s₃
            else ∃ m, m < n ∧ I m s₃) (notedBy (model p0 w) A env fun e s' => R (.error e) s') s₂) (notedBy (model p0 w) A env fun e s' => R (.error e) s') s₀) (notedBy (model p0 w) A env fun e s' => R (.error e) s') s₁) (notedBy (model p0 w) A env fun e s' => R (.error e) s') s)
    (n : Nat) (h : I n s) : codeAny (model p0 w) A (.compLoop (.ListComp elt [⟨target, iter, ifs, 0⟩] scope pos) 0 it acc env) R s := by
  refine codeAny_loop rfl I (fun n s hI => ?_) n h
  show wpAny _ A ((compTurn (.ListComp elt [⟨target, iter, ifs, 0⟩] scope pos) 0 it acc env).onRaise (fun x => do noteFrame x env; theTreesLotGoes x)) _ _ s
  refine wpAny_noted ?_
  rw [compTurn_list]
  refine wpAny_bind (wpAny_standAt (wpAny_bind (wpAny_mono (turn n s hI) (fun r s₁ h₁ => ?_) fun _ _ h' => h')))
  cases r with
  | none => exact wpAny_pure h₁
  | some v =>
    refine wpAny_bind (wpAny_mono h₁ (fun _ s₀ h₀' => ?_) fun _ _ h' => h')
    refine wpAny_bind (wpAny_mono h₀' (fun _ s₂ h₂ => wpAny_bind (wpAny_mono h₂ (fun ok s₃ h₃ => ?_) fun _ _ h' => h')) fun _ _ h' => h')
    cases ok with
    | false => exact wpAny_pure ⟨rfl, h₃⟩
    | true => exact wpAny_bind (wpAny_bind (wpAny_mono h₃ (fun x s₄ h₄ => wpAny_bind (wpAny_mono h₄ (fun _ s₅ h₅ => wpAny_pure (wpAny_pure ⟨rfl, h₅⟩)) fun _ _ h' => h')) fun _ _ h' => h'))

section
variable {w : World} {mg : Str → Option Value} {n : Nat} {env : Env} {ρ : Str → Option PV}
inductive EvIfs (w : World) (mg : Str → Option Value) (n : Nat) (env : Env) : List Expr → (Str → Option PV) → Bool → Prop
  | nil {ρ : Str → Option PV} : EvIfs w mg n env [] ρ true
  | one {ρ : Str → Option PV} {c : Expr} {b : Bool} (h : EvT w mg n env c ρ b) : EvIfs w mg n env [c] ρ b
theorem EvIfs.use {ifs : List Expr} {b : Bool} (x : EvIfs w mg n env ifs ρ b) (A : Around) (h₀ : Heap) (s : Shared) (Q : Bool → Shared → Prop) (E : Value → Shared → Prop) (ha : AOk n A) (S : Sta w mg env h₀ s.heap ρ) (ht : 0 < s.toks)
    (hQ : ∀ h' tk, 0 < tk → Ext s.heap h' → Q b { s with heap := h', toks := tk }) :
    wpAny (model p0 w) A (forIn ifs true fun c r => if r = true then do let ok ← isTrue c env (eval c env); pure (ForInStep.yield ok) else pure (ForInStep.yield r)) Q E s := by
  cases x with
  | nil => exact wpAny_tests_nil (hQ s.heap s.toks ht (Ext.refl _))
  | one h => exact wpAny_tests_one (h A h₀ s _ E ha S ht hQ)

/-- what a comprehension's own frame knows from outside -/
def cap (ys : List Str) (ρ : Str → Option PV) : Str → Option PV := fun y => if ys.contains y then ρ y else none

theorem lookup_relabel_cell {env : Env} : ∀ {names : List (Str × NameKind)} {x : Str}, (∀ q ∈ names, q.2 ≠ .cell) →
    (names.map fun (n, k) => if (k == NameKind.free && env.scope.kind == .function && env.kindOf n == some .cell) then (n, NameKind.cell) else (n, k)).lookup x = some .cell → (x, .free) ∈ names
  | [], _, _, h => by simp at h
  | (n, k) :: r, x, hc, h => by
    have ih := @lookup_relabel_cell env r x (fun q hq => hc q (.tail _ hq))
    have h' : List.lookup x ((if (k == NameKind.free && env.scope.kind == .function && env.kindOf n == some .cell) = true then (n, NameKind.cell) else (n, k)) :: _) = some .cell := h
    by_cases hb : (k == NameKind.free && env.scope.kind == .function && env.kindOf n == some .cell) = true
    · rw [if_pos hb] at h'
      cases hx : x == n with
      | true =>
        simp only [Bool.and_eq_true, beq_iff_eq] at hb
        rw [beq_iff_eq] at hx
        obtain ⟨⟨hf, _⟩, _⟩ := hb
        subst hx hf
        exact .head _
      | false =>
        simp only [List.lookup_cons, hx] at h'
        exact .tail _ (ih h')
    · rw [if_neg hb] at h'
      cases hx : x == n with
      | true =>
        simp only [List.lookup_cons, hx] at h'
        cases h'
        exact absurd rfl (hc _ (.head _))
      | false =>
        simp only [List.lookup_cons, hx] at h'
        exact .tail _ (ih h')

/-- how a comprehension's frame hangs on the frame around it -/
structure CompOk (env : Env) (scope : Scope) (cl : List (Str × Addr)) (ys : List Str) (target : Expr) : Prop where
  clos : closureFor scope env = pure cl
  cell : (scope.names.all fun y => !(y.2 == .cell)) = true
  kind : scope.kind = .function
  names : (scope.names.all fun y => !(y.2 == .local) || scope.names.lookup y.1 == some .local) = true
  free : (scope.names.all fun y => !(y.2 == .free) || ys.contains y.1) = true
  caps : ∀ y ∈ ys, env.kindOf y = some .cell ∧ cl.lookup y = env.cells.lookup y
  cls : ∀ y c, cl.lookup y = some c → ∃ z, env.cells.lookup z = some c
  loc : ((tgNames target).all fun x => scope.names.lookup x == some .local) = true
  sep : (ys.all fun y => !(scope.names.lookup y == some .local)) = true

theorem sta_comp {h₀ h h' : Heap} {scope : Scope} {cl : List (Str × Addr)} {ys : List Str} {tg : Expr} (K : CompOk env scope cl ys tg) (S : Sta w mg env h₀ h ρ) (k : Ext h h') {C : Addr} {m : Str → Option Value} (hn : h'.Ns C m) :
    Sta w mg (compEnvC scope cl C env) h h' (cap ys ρ) := by
  have hce : ∀ q ∈ scope.names, q.2 ≠ .cell := fun q hq e => by have := List.all_eq_true.mp K.cell q hq; rw [e] at this; cases this
  refine ⟨K.kind, S.glob, S.bi, S.world, k, ⟨m, hn, fun x p hx hp => ?_⟩, fun x hx => ?_, fun x c hc => ?_⟩
  · exfalso
    unfold cap at hp
    by_cases hy : ys.contains x = true
    · obtain ⟨k1, _⟩ := K.caps x (by simpa using hy)
      have hx' : (relabel scope env).names.lookup x = some .local := hx
      -- a captured name is no local
      have : (x, NameKind.local) ∈ scope.names := by
        have := mem_of_lookup hx'
        obtain ⟨⟨a, b⟩, hab, e⟩ := List.mem_map.mp this
        by_cases hb : (b == NameKind.free && env.scope.kind == .function && env.kindOf a == some .cell) = true
        · simp only [hb, if_true] at e; cases e
        · have e' : (a, b) = (x, NameKind.local) := by simpa [hb] using e
          rw [← e']; exact hab
      have hl : scope.names.lookup x = some .local := by
        have := List.all_eq_true.mp K.names _ this
        simpa using this
      have := List.all_eq_true.mp K.sep x (by simpa using hy)
      rw [hl] at this
      cases this
    · rw [if_neg hy] at hp; cases hp
  · have hf := lookup_relabel_cell (env := env) (names := scope.names) (x := x) hce hx
    have hy : ys.contains x = true := by have := List.all_eq_true.mp K.free _ hf; simpa using this
    obtain ⟨k1, k2⟩ := K.caps x (by simpa using hy)
    obtain ⟨c, ov, hc, hi, hm⟩ := S.cel x k1
    refine ⟨c, ov, k2.trans hc, hi.keeps k, fun p hp => ?_⟩
    unfold cap at hp
    rw [if_pos hy] at hp
    obtain ⟨v, e, r⟩ := hm p hp
    exact ⟨v, e, r.ext k⟩
  · obtain ⟨z, hz⟩ := K.cls x c hc
    obtain ⟨ov, hi⟩ := S.cells z c hz
    exact ⟨ov, hi.keeps k⟩

theorem compCore {elt target iter : Expr} {ifs : List Expr} {scope : Scope} {cl : List (Str × Addr)} {pos : Pos} {ys : List Str} {A : Around} {E : Value → Shared → Prop} {h₀ : Heap} {s : Shared} {RR : Value → Addr → Result → Shared → Prop} {ps : List PV} (outs : PV → Option PV)
    (ha : AOk n A) (K : CompOk env scope cl ys target) (S : Sta w mg env h₀ s.heap ρ) {I : Addr} {fp wr : List Addr} {P : Nat → Value → Prop} {St : Nat → Heap → Prop} {h₁ : Heap} {t₁ : Nat} (z₁ : 0 < t₁) (k₁ : Ext s.heap h₁) (it : Iter w A target ps I h₁ fp wr P St) (hwr : ∀ b ∈ wr, s.heap.get? b = none)
    (hsz : ps.length ≤ sizeLine)
    (hturn : ∀ C, ∀ p ∈ ps, ∃ ρ' b, BindT target p (cap ys ρ) ρ' ∧ EvIfs w mg n (compEnvC scope cl C env) ifs ρ' b ∧ (b = true → ∃ q, outs p = some q ∧ noLst q = true ∧ EvE w mg n (compEnvC scope cl C env) elt ρ' q) ∧ (b = false → outs p = none))
    (hRR : ∀ D C h' tk m' vs, s.heap.get? D = none → s.heap.get? C = none → D ≠ C → h'.Ns C m' → h'.IsList D vs.toArray → RepL h' (ps.filterMap outs) vs → Ext s.heap h' → 0 < tk → RR (.ref D) C (.ok .next) { s with heap := h', toks := tk }) :
    wpAny (model p0 w) A (newList []) (fun acc s₃ => wpAny (model p0 w) A (newFunctionEnv scope env.globals cl [] env.qual none .none (some env)) (fun cenv s₄ =>
      codeAny (model p0 w) A (.compStart (.ListComp elt [⟨target, iter, ifs, 0⟩] scope pos) 0 (.ref I) acc { cenv with scope := relabel scope env }) (RR acc cenv.locals) s₄) E s₃) E { s with heap := h₁, toks := t₁ } := by
  have hce : ∀ q ∈ scope.names, q.2 ≠ .cell := fun q hq e => by have := List.all_eq_true.mp K.cell q hq; rw [e] at this; cases this
  refine wpAny_newObj_type (wpAny_newFunctionEnv hce (by intro y hy; simp at hy) (fun h₂ hns₂ hsb₂ => ?_) K.kind)
  dsimp only at hns₂ hsb₂ ⊢
  generalize hH2 : h₁.push { cls := .type "list", dict := none, data := .seq ([] : List Value).toArray } = H2 at hns₂ hsb₂ ⊢
  generalize hD : h₁.objs.size = D at *
  generalize hC' : H2.objs.size = C at *
  have hC : C = D + 1 := by rw [← hC', ← hH2, Heap.size_push, hD]
  have hDC : D ≠ C := by omega
  have below : ∀ b, b < D → b ≠ C ∧ b ≠ D := fun b hb => ⟨by omega, by omega⟩
  have hfp : ∀ b ∈ fp, b < D := fun b hb => hD ▸ it.lt b hb
  have hDf : D ∉ fp := fun hm => Nat.lt_irrefl _ (hfp _ hm)
  have hCf : C ∉ fp := fun hm => by have := hfp _ hm; rw [hC] at this; exact Nat.lt_irrefl _ (Nat.lt_of_succ_lt this)
  have lt1 : ∀ b o, h₁.get? b = some o → b < D := fun b o e => hD ▸ Heap.lt_size e
  have old : ∀ b o, h₁.get? b = some o → h₂.get? b = some o := fun b o e => hsb₂.extBut b o (below b (lt1 b o e)).1 (Heap.get?_push_of_some _ (hH2 ▸ Heap.get?_push_of_some _ e))
  have hacc : h₂.IsList D #[] := ⟨_, hsb₂.extBut _ _ hDC (Heap.get?_push_of_some _ (hH2 ▸ hD ▸ Heap.get?_push_size _ rfl)), rfl, 0, rfl⟩
  have hst₂ : St 0 h₂ := it.W.frame _ _ _ it.st fun b _ o e => old b o e
  have fresh : ∀ a, D ≤ a → s.heap.get? a = none := fun a ha => by
    cases e : s.heap.get? a with
    | none => rfl
    | some o' => exact absurd (lt1 _ _ (k₁ _ _ e)) (Nat.not_lt.mpr ha)
  have loop : ∀ tk, 0 < tk → codeAny (model p0 w) A (.compLoop (.ListComp elt [⟨target, iter, ifs, 0⟩] scope pos) 0 (.ref I) (.ref D) (compEnvC scope cl C env)) (RR (.ref D) C) { s with heap := h₂, toks := tk } := by
    intro tk z
    refine codeAny_compLoop_T (fun m s' => ∃ i h tk vs mC, m = ps.length - i ∧ i ≤ ps.length ∧ s' = { s with heap := h, toks := tk } ∧ 0 < tk ∧ St i h ∧ h.IsList D vs.toArray ∧ RepL h ((ps.take i).filterMap outs) vs ∧ noLsts ((ps.take i).filterMap outs) = true ∧ h.Ns C mC ∧
      (∀ b o, b ∉ wr → h₁.get? b = some o → h.get? b = some o)) ?_ ps.length ⟨0, h₂, tk, [], _, by omega, Nat.zero_le _, rfl, z, hst₂, hacc, by simp; unfold RepL; rfl, by simp; unfold noLsts; rfl, hns₂, fun b o _ e => old b o e⟩
    rintro m s' ⟨i, h, tk, vs, mC, rfl, hle, rfl, z, hst, hl, rl, nl, hn, kk⟩
    have toE : ∀ h', (∀ b o, b ∉ wr → h₁.get? b = some o → h'.get? b = some o) → Ext s.heap h' := fun h' kk b o e => kk b o (fun hb => by rw [hwr b hb] at e; cases e) (k₁ b o e)
    rcases Nat.lt_or_ge i ps.length with hlt | hge
    · refine wpT z (it.W.item i _ _ _ hlt hst fun v h₃ t₃ hp hst₃ k₃ => ?_)
      intro z₃
      obtain ⟨p, hpp, rv⟩ := it.rep i v hlt hp
      obtain ⟨ρ', b, B, hif, hyes, hno⟩ := hturn C p (List.mem_of_getElem? hpp)
      have nDw : D ∉ wr := fun hb => hDf (it.W.sub _ hb)
      have nCw : C ∉ wr := fun hb => hCf (it.W.sub _ hb)
      have hn₃ : h₃.Ns C mC := hn.at' fun o e => k₃ _ o nCw e
      have hl₃ : h₃.IsList D vs.toArray := hl.at fun o e => k₃ _ o nDw e
      have wns : ∀ b ∈ wr, ∀ o, h.get? b = some o → ∀ vs m, o.data ≠ .seq vs m := fun b hb o e => by
        obtain ⟨o', ho', hq⟩ := it.wro i h hst b hb
        rw [e] at ho'; cases ho'
        exact hq
      have rl₃ : RepL h₃ ((ps.take i).filterMap outs) vs := RepL.keepS (fun b o e hd => k₃ b o (fun hb => by obtain ⟨vs, m, hd⟩ := hd; exact wns b hb o e _ _ hd) e) _ rl
      have kk₃ : ∀ b o, b ∉ wr → h₁.get? b = some o → h₃.get? b = some o := fun b o a e => k₃ b o a (kk b o a e)
      have S₃ : Sta w mg (compEnvC scope cl C env) s.heap h₃ (cap ys ρ) := sta_comp K S (toE _ kk₃) hn₃
      have rv₃ : Rep h₃ p v := Rep.keepS (fun b o e hd => kk₃ b o (fun hb => by
        obtain ⟨o', ho', hq⟩ := it.wro 0 h₁ it.st b hb
        rw [e] at ho'; cases ho'
        obtain ⟨vs, m, hd⟩ := hd
        exact hq _ _ hd) e) p rv
      refine it.lot (i + 1) v _ _ _ hst₃ ?_
      refine B.use (X := ExtL (compEnvC scope cl C env)) (fun _ _ _ x y b o h1 e => y b o h1 (x b o h1 e)) (fun _ _ x b o _ e => x b o e) ha.handled
        (fun x hx => storeOk_L (fresh _ (by show D ≤ C; omega)) (beq_iff_eq.mpr (lookup_relabel_local (beq_iff_eq.mp (List.all_eq_true.mp K.loc x hx))))) S₃ rv₃ z₃ fun h₄ t₄ z₄ S₄ e₄ kS₄ => ?_
      have rl₄ : RepL h₄ ((ps.take i).filterMap outs) vs := RepL.keepS kS₄ _ rl₃
      have hl₄ : h₄.IsList D vs.toArray := hl₃.at fun o e => e₄ _ o hDC e
      have hst₄ : St (i + 1) h₄ := it.W.frame _ _ _ hst₃ fun b hb o e => e₄ b o (fun q => hCf ((show b = C from q) ▸ hb)) e
      have kk₄ : ∀ b o, b ∉ wr → h₁.get? b = some o → h₄.get? b = some o := fun b o a e => e₄ b o (below b (lt1 b o e)).1 (kk₃ b o a e)
      refine hif.use A s.heap _ _ _ ha S₄ z₄ fun h₅ t₅ z₅ k₅ => ?_
      have etake : ps.take (i + 1) = ps.take i ++ [p] := by rw [List.take_add_one, hpp]; rfl
      cases b with
      | false =>
        rw [if_neg Bool.false_ne_true]
        have S₅ := S₄.ext k₅
        obtain ⟨mC', hn₅, _⟩ := S₅.loc
        have ef : (ps.take (i + 1)).filterMap outs = (ps.take i).filterMap outs := by rw [etake, List.filterMap_append]; simp [hno rfl]
        exact ⟨ps.length - (i + 1), by omega, i + 1, h₅, t₅, vs, mC', rfl, hlt, rfl, z₅, it.W.frame _ _ _ hst₄ fun b _ o e => k₅ b o e, hl₄.at fun o e => k₅ _ o e, by rw [ef]; exact rl₄.ext k₅, by rw [ef]; exact nl, hn₅,
          fun b o a e => k₅ b o (kk₄ b o a e)⟩
      | true =>
        rw [if_pos rfl]
        obtain ⟨q, eq, nq, hel⟩ := hyes rfl
        refine hel A s.heap _ _ _ ha (S₄.ext k₅) z₅ fun x h₆ t₆ z₆ k₆ r₆ => ?_
        have k₄₆ : Ext h₄ h₆ := k₅.trans k₆
        have hl₆ : h₆.IsList D vs.toArray := hl₄.at fun o e => k₄₆ _ o e
        refine wpAny_list_append hl₆ (fun h₇ hl₇ hs₇ => ?_) ?_
        · have S₆ := S₄.ext k₄₆
          obtain ⟨mC', hn₆, _⟩ := S₆.loc
          have ef : (ps.take (i + 1)).filterMap outs = (ps.take i).filterMap outs ++ [q] := by rw [etake, List.filterMap_append]; simp [eq]
          have kT : ExtT h₆ h₇ := fun b o e hc => (hs₇.2 b (by
            rintro rfl
            obtain ⟨o', ho', hc', _⟩ := hl₆
            rw [e] at ho'; cases ho'
            rw [hc] at hc'; exact absurd hc' (by decide))).trans e
          refine ⟨ps.length - (i + 1), by omega, i + 1, h₇, t₆, vs ++ [x], mC', rfl, hlt, rfl, z₆, ?_, ?_, ?_, ?_, ?_, ?_⟩
          · exact it.W.frame _ _ _ hst₄ fun b hb o e => (hs₇.2 b (fun q => hDf (q ▸ hb))).trans (k₄₆ b o e)
          · simpa using hl₇
          · rw [ef]
            exact RepL.keepT kT _ (noLsts_snoc nl nq) ((rl₄.ext k₄₆).snoc r₆)
          · rw [ef]; exact noLsts_snoc nl nq
          · exact hn₆.sameBut hs₇ (Ne.symm hDC)
          · exact fun b o a e => (hs₇.2 b (below b (lt1 b o e)).2).trans (k₄₆ b o (kk₄ b o a e))
        · have := rl.length
          have h2 : ((ps.take i).filterMap outs).length ≤ (ps.take i).length := List.length_filterMap_le _ _
          have h3 : (ps.take i).length ≤ ps.length := by rw [List.length_take]; omega
          rw [List.size_toArray]
          omega
    · have e : i = ps.length := by omega
      subst e
      refine wpT z (it.W.done _ _ _ hst fun h₃ t₃ k₃ => ?_)
      intro z₃
      have nDw : D ∉ wr := fun hb => hDf (it.W.sub _ hb)
      have nCw : C ∉ wr := fun hb => hCf (it.W.sub _ hb)
      rw [List.take_length] at rl
      refine hRR D C h₃ t₃ mC vs (fresh _ (Nat.le_refl _)) (fresh _ (by omega)) hDC (hn.at' fun o e => k₃ _ o nCw e) (hl.at fun o e => k₃ _ o nDw e) (RepL.keepS (fun b o e hd => k₃ b o (fun hb => ?_) e) _ rl) (toE _ fun b o a e => k₃ b o a (kk b o a e)) z₃
      obtain ⟨o', ho', hq⟩ := it.wro _ h hst b hb
      rw [e] at ho'; cases ho'
      obtain ⟨vs, m, hd⟩ := hd
      exact hq _ _ hd
  exact codeAny_compStart_list (loop _ (by simpa using z₁)) (it.W.self 0 _ _ _ hst₂ (loop _ (by simpa using z₁)))

theorem EvE.comp {elt target iter : Expr} {ifs : List Expr} {scope : Scope} {cl : List (Str × Addr)} {pos : Pos} {ys : List Str} {ps : List PV} (outs : PV → Option PV)
    (K : CompOk env scope cl ys target) (hi : EvI w mg n env target iter ρ ps) (hsz : ps.length ≤ sizeLine)
    (hturn : ∀ C, ∀ p ∈ ps, ∃ ρ' b, BindT target p (cap ys ρ) ρ' ∧ EvIfs w mg n (compEnvC scope cl C env) ifs ρ' b ∧ (b = true → ∃ q, outs p = some q ∧ noLst q = true ∧ EvE w mg n (compEnvC scope cl C env) elt ρ' q) ∧ (b = false → outs p = none))
    (hs : ∀ x, foldedSetIterable iter env x = pure x) : EvE w mg n env (.ListComp elt [⟨target, iter, ifs, 0⟩] scope pos) ρ (.lst (ps.filterMap outs)) := by
  intro A h₀ s Q E ha S ht hQ
  rw [eval_ListComp]
  have hnm : ∀ x ∈ scope.names, x.2 = .local → scope.names.lookup x.1 = some .local := fun x hx hl => by
    have := List.all_eq_true.mp K.names x hx
    rw [hl] at this
    simpa using this
  refine wpAny_comprehension_free (use := none) rfl hs K.clos K.kind hnm (hi A h₀ s _ E ha S ht fun I fp wr P St h₁ t₁ z₁ k₁ it hwr => ?_)
  refine compCore (RR := fun acc C => compPost (model p0 w) A E none Q acc C) outs ha K S z₁ k₁ it hwr hsz hturn fun D C h' tk m' vs hD hC hDC hn hl rl k z => ?_
  refine ⟨m', hn, fun h'' hs'' => ?_⟩
  have kS : ExtS h' h'' := fun b o e hd => (hs''.2 b (by
    rintro rfl
    obtain ⟨o', es, ep, ho', hd', _⟩ := hn
    rw [e] at ho'; cases ho'
    obtain ⟨vs, m, hd⟩ := hd
    rw [hd] at hd'; cases hd')).trans e
  exact hQ _ h'' tk z (fun b o e => (hs''.2 b (by rintro rfl; rw [hC] at e; cases e)).trans (k b o e)) (rLst (hl.extBut hs''.extBut hDC) (RepL.keepS kS _ rl))

theorem EvS.assignComp {x : Str} {px : Pos} {elt target iter : Expr} {ifs : List Expr} {scope : Scope} {cl : List (Str × Addr)} {pos spos : Pos} {ys : List Str} {ps : List PV} (outs : PV → Option PV) {P : Out → (Str → Option PV) → Prop}
    (K : CompOk env scope cl ys target) (hi : EvI w mg n env target iter ρ ps) (hsz : ps.length ≤ sizeLine)
    (hturn : ∀ C, ∀ p ∈ ps, ∃ ρ' b, BindT target p (cap ys ρ) ρ' ∧ EvIfs w mg n (compEnvC scope cl C env) ifs ρ' b ∧ (b = true → ∃ q, outs p = some q ∧ noLst q = true ∧ EvE w mg n (compEnvC scope cl C env) elt ρ' q) ∧ (b = false → outs p = none))
    (h : P .next (upd ρ x (.lst (ps.filterMap outs)))) (hk : env.kindOf x = some .local)
    (hsw : swapsWith (.ListComp elt [⟨target, iter, ifs, 0⟩] scope pos) (some (.Name x px)) spos.line env = pure true)
    (hs : ∀ x, foldedSetIterable iter env x = pure x) : EvS w mg n env (.Assign [.Name x px] (.ListComp elt [⟨target, iter, ifs, 0⟩] scope pos) spos) ρ P := by
  intro A h₀ s Q E ha O S ht hQ
  show wpAny _ A (exec (.Assign [.Name x px] (.ListComp elt [⟨target, iter, ifs, 0⟩] scope pos) spos) env) Q E s
  rw [exec_Assign_Name_used _ _ _ _ hsw]
  have hnm : ∀ x ∈ scope.names, x.2 = .local → scope.names.lookup x.1 = some .local := fun x hx hl => by
    have := List.all_eq_true.mp K.names x hx
    rw [hl] at this
    simpa using this
  refine wpAny_bind (wpAny_standAt (wpAny_bind ?_))
  show wpAny _ A (do let _ ← comprehension (.ListComp elt [⟨target, iter, ifs, 0⟩] scope pos) scope env _ (newList []) false (eval iter env) (some (PySem.assign (.Name x px) env))) _ _ s
  refine wpT ht (wpAny_bind (wpAny_mono (wpAny_comprehension_free (use := some (PySem.assign (.Name x px) env)) (Q := fun _ s' => 0 < s'.toks → Q .next s') rfl hs K.clos K.kind hnm (hi A h₀ s _ _ ha S ht fun I fp wr Pv St h₁ t₁ z₁ k₁ it hwr => ?_)) (fun _ s' hq => wpAny_pure fun z => wpAny_pure (hq z)) fun _ _ e => e))
  refine compCore (RR := fun acc C => compPost (model p0 w) A _ (some (PySem.assign (.Name x px) env)) _ acc C) outs ha K S z₁ k₁ it hwr hsz hturn fun D C h' tk m' vs hD hC hDC hn hl rl k z => ?_
  show wpAny _ A (PySem.assign (.Name x px) env (.ref D)) _ _ _
  refine wpAny_assign_Name ((S.ext k).storeL O.loc (rLst hl rl) hk fun h₂ t₂ S₂ e₂ kS₂ => ?_)
  have hLC : C ≠ env.locals := by
    rintro rfl
    obtain ⟨m, ⟨o, es, ep, ho, _⟩, _⟩ := S.loc
    rw [hC] at ho; cases ho
  refine ⟨m', hn.at' fun o e => e₂ _ o hLC e, fun h₃ hs₃ hz => ?_⟩
  -- the comprehension's table is let go
  have hn₂ : h₂.Ns C m' := hn.at' fun o e => e₂ _ o hLC e
  have kS : ExtS h₂ h₃ := fun b o e hd => (hs₃.2 b (by
    rintro rfl
    obtain ⟨o', es, ep, ho', hd', _⟩ := hn₂
    rw [e] at ho'; cases ho'
    obtain ⟨vs, m, hd⟩ := hd
    rw [hd] at hd'; cases hd')).trans e
  have kc : ∀ c ov, h₂.IsCell c ov → h₃.IsCell c ov := fun c ov ⟨o, ho, hd⟩ => ⟨o, (hs₃.2 c (by
    rintro rfl
    obtain ⟨o', es, ep, ho', hd', _⟩ := hn₂
    rw [ho] at ho'; cases ho'
    rw [hd] at hd'; cases hd')).trans ho, hd⟩
  have S₃ : Sta w mg env h₀ h₃ (upd ρ x (.lst (ps.filterMap outs))) := by
    refine ⟨S₂.kind, S₂.glob, S₂.bi, S₂.W, fun b o e => (hs₃.2 b (by rintro rfl; have := S.keep _ _ e; rw [hC] at this; cases this)).trans (S₂.keep b o e), ?_, fun y hy => ?_, fun y c hc => ?_⟩
    · obtain ⟨m, hm, hr⟩ := S₂.loc
      exact ⟨m, hm.at' fun o e => (hs₃.2 _ (Ne.symm hLC)).trans e, fun y p a b => let ⟨v, e, r⟩ := hr y p a b; ⟨v, e, Rep.keepS kS p r⟩⟩
    · obtain ⟨c, ov, hc, hi, hm⟩ := S₂.cel y hy
      exact ⟨c, ov, hc, kc _ _ hi, fun p hp => let ⟨v, e, r⟩ := hm p hp; ⟨v, e, Rep.keepS kS p r⟩⟩
    · obtain ⟨ov, hi⟩ := S₂.cells y c hc
      exact ⟨ov, kc _ _ hi⟩
  exact hQ .next _ .next h₃ t₂ hz h rfl S₃ fun b o h1 h2 e => (hs₃.2 b (by rintro rfl; rw [hC] at e; cases e)).trans (e₂ b o h1 (k b o e))
end
end Mine

end PartB6
section PartB7
open PySem PySem.W PyProof.Rows PySem.Calls
set_option Elab.async false
set_option maxRecDepth 100000
set_option linter.unusedVariables false
namespace Mine
section
variable {w : World} {mg : Str → Option Value} {n : Nat} {env : Env} {ρ : Str → Option PV}

/-! ## min and sum of a list -/
theorem intsAt {h : Heap} {is : List Int} {vs : List Value} (r : RepL h (is.map PV.int) vs) (i : Nat) (v : Value) (hv : vs.toArray[i]? = some v) : ∃ t, v = .int (is.getD i 0) t := by
  have hv' : vs[i]? = some v := by simpa using hv
  have hlt : i < is.length := by
    have := r.length
    rw [List.length_map] at this
    rcases Nat.lt_or_ge i vs.length with q | q
    · omega
    · rw [List.getElem?_eq_none q] at hv'; cases hv'
  obtain ⟨u, hu, ru⟩ := r.get (i := i) (p := .int (is.getD i 0)) (by simp [hlt])
  rw [hv'] at hu; cases hu
  exact ru.i
theorem CallOk.minL {is : List Int} {m : Int} (hm : m ∈ is) (hle : ∀ j ∈ is, m ≤ j) : CallOk w mg n (.builtin "min") [.lst (is.map .int)] (.int m) := by
  intro A s Q E vs ha W r hQ
  obtain ⟨v, rfl, rv⟩ := repL1 r
  obtain ⟨l, vs, rfl, hl, rl⟩ := rv.l
  have hne : l ≠ s.heap.objs.size := by obtain ⟨o, ho, _⟩ := hl; exact Nat.ne_of_lt (Heap.lt_size ho)
  have hlen : vs.length = is.length := by have := rl.length; simpa using this
  have hpos : 0 < is.length := List.length_pos_of_mem hm
  have e : vs.toArray.size = is.length := by simp [hlen]
  refine call_min_walk (wpAny_pyIter_list hl ⟨_, _, _, _, _, _, _, rfl, Walks.list (A := A.in1) ha.handled s.heap.objs.size l hne vs.toArray, ⟨⟨_, Heap.get?_push_size _ rfl, rfl, rfl⟩, hl.push _⟩, ?_, ?_, CmpOf.ints_lt (fun i => is.getD i 0) (intsAt rl), ?_⟩)
  · intro b hb
    rw [Heap.size_push]
    rcases List.mem_cons.mp hb with rfl | hb
    · exact Nat.lt_succ_self _
    · obtain rfl := List.mem_singleton.mp hb
      obtain ⟨o, ho, _⟩ := hl
      exact Nat.lt_succ_of_lt (Heap.lt_size ho)
  · omega
  · intro v h' tk hp k
    obtain ⟨h1, h2⟩ := argBest_lt (fun i => is.getD i 0) (vs.toArray.size - 1)
    obtain ⟨t, rfl⟩ := intsAt rl _ v hp
    have hmin : is.getD (argBest (fun i j => decide (is.getD i 0 < is.getD j 0)) (vs.toArray.size - 1)) 0 = m := by
      apply Int.le_antisymm
      · obtain ⟨j, hj, ej⟩ := mem_getD hm
        rw [← ej]
        exact h2 j (by omega)
      · exact hle _ (getD_mem (by omega))
    rw [hmin]
    exact hQ _ h' tk (fun b o e => k b o (by
      intro hb
      obtain rfl := List.mem_singleton.mp hb
      exact absurd (Heap.lt_size e) (Nat.lt_irrefl _)) (Heap.get?_push_of_some _ e)) rInt
def sumI (is : List Int) : Int := preSum (fun i => is.getD i 0) is.length
theorem CallOk.sumL {is : List Int} : CallOk w mg n (.builtin "sum") [.lst (is.map .int)] (.int (sumI is)) := by
  intro A s Q E vs ha W r hQ
  obtain ⟨v, rfl, rv⟩ := repL1 r
  obtain ⟨l, vs, rfl, hl, rl⟩ := rv.l
  have hne : l ≠ s.heap.objs.size := by obtain ⟨o, ho, _⟩ := hl; exact Nat.ne_of_lt (Heap.lt_size ho)
  have hlen : vs.length = is.length := by have := rl.length; simpa using this
  have e : vs.toArray.size = is.length := by simp [hlen]
  refine call_sum_walkG (wpAny_pyIter_list hl ⟨_, _, _, _, _, _, (fun i => is.getD i 0), rfl, Walks.list (A := A.in1) ha.handled s.heap.objs.size l hne vs.toArray, ⟨⟨_, Heap.get?_push_size _ rfl, rfl, rfl⟩, hl.push _⟩, ?_, intsAt rl, ?_⟩)
  · intro b hb
    rw [Heap.size_push]
    rcases List.mem_cons.mp hb with rfl | hb
    · exact Nat.lt_succ_self _
    · obtain rfl := List.mem_singleton.mp hb
      obtain ⟨o, ho, _⟩ := hl
      exact Nat.lt_succ_of_lt (Heap.lt_size ho)
  · intro h' tk t' k
    rw [e]
    exact hQ _ h' tk (fun b o e => k b o (by
      intro hb
      obtain rfl := List.mem_singleton.mp hb
      exact absurd (Heap.lt_size e) (Nat.lt_irrefl _)) (Heap.get?_push_of_some _ e)) rInt

/-! ## is not None -/
theorem Op2.isNotNone {p : PV} {b : Bool} (h : (p = .none ∧ b = false) ∨ (∃ x, p = .str x) ∧ b = true) : Op2 w n (compareOp .IsNot) p .none (.bool b) := by
  intro A s Q E va vb ha ra rb hQ
  obtain rfl := rb.no
  rcases h with ⟨rfl, rfl⟩ | ⟨⟨x, rfl⟩, rfl⟩
  · obtain rfl := ra.no
    exact wpAny_isNot_plain rfl (hQ _ s.heap s.toks (Ext.refl _) rBool)
  · obtain ⟨t, rfl⟩ := ra.s
    exact wpAny_isNot_plain rfl (hQ _ s.heap s.toks (Ext.refl _) rBool)

/-! ## methods of texts -/
theorem EvE.methS {o : Expr} {name : Str} {id : String} {apos pos : Pos} {es : List Expr} {ps : List PV} {x : Str} {res : PV} (ho : EvE w mg n env o ρ (.str x)) (hL : EvL w mg n env ρ es ps) (slot : Slot "str" name id) (hty : typeOf (.builtin id) = pure (.type "method_descriptor"))
    (hc : CallOk w mg n (.builtin id) (.str x :: ps) res)
    (hbase : attributeBase o name env (eval o env) = eval o env)
    (hfew : ((backTo pos (starEach es env)).all (fun x => !x.1) && (backToKw pos (keywordEach [] env)).all (fun x => x.1.isSome) && decide (es.length + ([] : List Keyword).length + (if ([] : List Keyword).isEmpty then 0 else 1) < 30)) = true)
    (hline : (apos.endLine == pos.line) = true) : EvE w mg n env (.Call (.Attribute o name apos) es [] pos) ρ res := by
  intro A h₀ s Q E ha S ht hQ
  refine wpT ht (wpAny_Call_method hbase hfew hline F.plainAttrs_str slot hty (ho A h₀ s _ _ ha S ht fun ov h₁ t₁ z₁ k₁ r₁ => ?_))
  obtain ⟨t, rfl⟩ := r₁.s
  refine ⟨typeIs_str _ _ _, (fun _ e => nomatch e), ?_⟩
  refine callWith_builtin (hL.noStar pos) (evalArgs_row hL A h₀ _ _ _ ha (S.ext k₁) z₁ fun vs h' tk z k r => ?_)
  exact hc A _ _ _ _ ha ((S.ext (k₁.trans k)).world) (by unfold RepL; exact ⟨_, vs, rfl, rStr, r⟩) fun v h₂ t₂ k₂ r₂ hn => hQ v h₂ t₂ hn (k₁.trans (k.trans k₂)) r₂
theorem strsAre {h : Heap} : ∀ {xs : List Str} {vs : List Value}, RepL h (xs.map PV.str) vs → StrsAre vs xs
  | [], _, r => by unfold List.map RepL at r; subst r; exact .nil
  | i :: is, _, r => by
    unfold List.map RepL at r
    obtain ⟨v, vr, rfl, rv, rr⟩ := r
    obtain ⟨t, rfl⟩ := rv.s
    exact .cons _ _ (strsAre rr)
theorem CallOk.join {x : Str} {xs : List Str} (hok : (xs.map (·.length)).sum + xs.length * x.length ≤ 16777216) : CallOk w mg n (.builtin "str.join") [.str x, .lst (xs.map .str)] (.str (Txt.join x xs)) := by
  intro A s Q E vs ha W r hQ
  obtain ⟨v, u, rfl, rv, ru⟩ := repL2 r
  obtain ⟨t, rfl⟩ := rv.s
  obtain ⟨l, vs, rfl, hl, rl⟩ := ru.l
  exact join_list hl (by simpa using strsAre rl) hok fun t' k => hQ _ s.heap k (Ext.refl _) rStr
theorem EvE.join {o e : Expr} {apos pos : Pos} {x : Str} {xs : List Str} (ho : EvE w mg n env o ρ (.str x)) (he : EvE w mg n env e ρ (.lst (xs.map .str))) (hok : (xs.map (·.length)).sum + xs.length * x.length ≤ 16777216)
    (hs : starEach [e] env = (false, eval e env) :: starEach [] env) (hbase : attributeBase o "join" env (eval o env) = eval o env)
    (hfew : ((backTo pos (starEach [e] env)).all (fun x => !x.1) && (backToKw pos (keywordEach [] env)).all (fun x => x.1.isSome) && decide ([e].length + ([] : List Keyword).length + (if ([] : List Keyword).isEmpty then 0 else 1) < 30)) = true)
    (hline : (apos.endLine == pos.line) = true) : EvE w mg n env (.Call (.Attribute o "join" apos) [e] [] pos) ρ (.str (Txt.join x xs)) :=
  EvE.methS ho (.cons he hs .nil) F.slot_str_join F.type_str_join (CallOk.join hok) hbase hfew hline
theorem CallOk.lower {x : Str} (hx : x.length ≤ 5592405) : CallOk w mg n (.builtin "str.lower") [.str x] (.str (Txt.lower x)) := by
  intro A s Q E vs ha W r hQ
  obtain ⟨v, rfl, rv⟩ := repL1 r
  obtain ⟨t, rfl⟩ := rv.s
  exact call_gives F.slot_str_lower (typeIs_str _ _ _) F.entry_str_lower (F.args_str_lower_1 _) (gives_str_lower x t (fit_lower hx)) ⟨fit_le (fit_lower hx), hQ _ s.heap _ (Ext.refl _) rStr⟩
theorem EvE.lower {o : Expr} {apos pos : Pos} {x : Str} (ho : EvE w mg n env o ρ (.str x)) (hx : x.length ≤ 5592405) (hbase : attributeBase o "lower" env (eval o env) = eval o env)
    (hline : (apos.endLine == pos.line) = true) : EvE w mg n env (.Call (.Attribute o "lower" apos) [] [] pos) ρ (.str (Txt.lower x)) :=
  EvE.methS ho .nil F.slot_str_lower F.type_str_lower (CallOk.lower hx) hbase rfl hline

/-- a text, with another for each occurrence of a sign -/
theorem EvE.replaceC {o : Expr} {y z x : Str} {i j : Nat} {p₁ p₂ apos pos : Pos} (ho : EvE w mg n env o ρ (.str x)) (hb : x.length + (x.length + 1) * z.length ≤ 16777216)
    (hbase : attributeBase o "replace" env (eval o env) = eval o env) (hline : (apos.endLine == pos.line) = true) :
    EvE w mg n env (.Call (.Attribute o "replace" apos) [.Constant (.str y) i p₁, .Constant (.str z) j p₂] [] pos) ρ (.str (Txt.replace x y z)) := by
  intro A h₀ s Q E ha S ht hQ
  refine wpT ht (wpAny_Call_method hbase rfl hline F.plainAttrs_str F.slot_str_replace F.type_str_replace (ho A h₀ s _ _ ha S ht fun ov h₁ t₁ z₁ k₁ r₁ => ?_))
  obtain ⟨t, rfl⟩ := r₁.s
  refine ⟨typeIs_str _ _ _, (fun _ e => nomatch e), ?_⟩
  refine callWith_method1 (args_cons (Constant_str (args_cons (Constant_str (args_nil ?_)))))
  exact SC.replaceA (Nat.ne_of_gt z₁) (Nat.ne_of_gt (Nat.succ_pos _)) (Nat.ne_of_lt (Nat.lt_succ_self _)) hb (fun t' k hn => hQ _ _ k hn k₁ rStr) (S.ext k₁).world.nb
theorem EvE.replaceM {o e : Expr} {y z x : Str} {i j : Nat} {m : Int} {p₁ p₂ p₃ apos pos : Pos} (ho : EvE w mg n env o ρ (.str x)) (he : EvE w mg n env e ρ (.int m)) (h1 : 1 ≤ m) (hok : MulOk z m) (hb : x.length + (x.length + 1) * (Txt.mul z m).length ≤ 16777216)
    (hbase : attributeBase o "replace" env (eval o env) = eval o env) (hline : (apos.endLine == pos.line) = true) :
    EvE w mg n env (.Call (.Attribute o "replace" apos) [.Constant (.str y) i p₁, .BinOp (.Constant (.str z) j p₂) .Mult e p₃] [] pos) ρ (.str (Txt.replace x y (Txt.mul z m))) := by
  intro A h₀ s Q E ha S ht hQ
  refine wpT ht (wpAny_Call_method hbase rfl hline F.plainAttrs_str F.slot_str_replace F.type_str_replace (ho A h₀ s _ _ ha S ht fun ov h₁ t₁ z₁ k₁ r₁ => ?_))
  obtain ⟨t, rfl⟩ := r₁.s
  refine ⟨typeIs_str _ _ _, (fun _ e => nomatch e), ?_⟩
  refine callWith_method1 (args_cons (Constant_str (args_cons (wpAny_BinOp (Constant_str ?_)))))
  refine wpAny_with_toks (n := t₁ + 1 + 1) (Nat.le_refl _) (he A h₀ _ _ _ ha (S.ext k₁) (Nat.succ_pos _) fun vm h₂ t₂ z₂ k₂ r₂ hle => ?_)
  have hle' : t₁ + 1 + 1 ≤ t₂ := hle
  obtain ⟨u, rfl⟩ := r₂.i
  have nb : NoneBooked h₂ := (S.ext (k₁.trans k₂)).world.nb
  refine P.mul_str hok.1 hok.2.1 hok.2.2 ?_
  have hn1 : ¬ m < 1 := by omega
  rw [if_neg hn1]
  have emul : Txt.mul z m = if (m == 1 || z.length == 0) = true then z else ⟨(List.replicate m.toNat z.cps).foldl (· ++ ·) #[]⟩ := by unfold Txt.mul; rw [if_neg hn1]
  rw [emul] at hb hQ
  by_cases hc : (m == 1 || z.length == 0) = true
  · rw [if_pos hc] at hb hQ ⊢
    refine args_nil ?_
    exact SC.replaceA (Nat.ne_of_gt z₁) (Nat.ne_of_gt (Nat.succ_pos _)) (Nat.ne_of_lt (Nat.lt_succ_self _)) hb (fun t' k hn => hQ _ _ k hn (k₁.trans k₂) rStr) nb
  · rw [if_neg hc] at hb hQ ⊢
    refine ⟨fits_reps (hok.2.2 hn1 (by simpa using hc)), args_nil ?_⟩
    refine SC.replaceA (Nat.ne_of_gt z₁) ?_ ?_ hb (fun t' k hn => hQ _ _ k hn (k₁.trans k₂) rStr) nb
    · exact Nat.ne_of_gt z₂
    · exact Nat.ne_of_lt (Nat.lt_of_lt_of_le (Nat.lt_succ_of_lt (Nat.lt_succ_self _)) hle')

/-! ## the table of folds -/
def b3PV (k : Int) : PV := match b3Look k with | some x => .str x | none => .none
theorem EvE.b3get {e : Expr} {px apos pos : Pos} {i : Int} (he : EvE w mg n env e ρ (.int i)) (hs : starEach [e] env = (false, eval e env) :: starEach [] env)
    (hk : (env.kindOf "b3_exceptions" == some .globalImplicit) = true) (hline : (apos.endLine == pos.line) = true)
    (hfew : ((backTo pos (starEach [e] env)).all (fun x => !x.1) && (backToKw pos (keywordEach [] env)).all (fun x => x.1.isSome) && decide ([e].length + ([] : List Keyword).length + (if ([] : List Keyword).isEmpty then 0 else 1) < 30)) = true) :
    EvE w mg n env (.Call (.Attribute (.Name "b3_exceptions" px) "get" apos) [e] [] pos) ρ (b3PV i) := by
  intro A h₀ s Q E ha S ht hQ
  obtain ⟨d, f, hm, hsys, hM, hf⟩ := S.world.b3
  refine wpT ht (wpAny_Call_method rfl hfew hline F.plainAttrs_dict F.slot_dict_get F.type_dict_get (EvE.glob hm hk (by decide) A h₀ s _ _ ha S ht fun ov h₁ t₁ z₁ k₁ r₁ => ?_))
  obtain rfl := r₁.r
  have hM₁ := mapOf_ext hM k₁
  refine ⟨hM₁.typeIs, hM₁.noDict, ?_⟩
  rw [hs]
  refine wpAny_dict_get1 (knd := intKind p0 w) hsys (he A h₀ _ _ _ ha (S.ext k₁) z₁ fun v h₂ t₂ z₂ k₂ r₂ => ?_)
  obtain ⟨t, rfl⟩ := r₂.i
  refine ⟨i, f, by simp [intKind, Value.isInt], mapOf_ext hM₁ k₂, fun hn => hQ _ _ _ hn (k₁.trans k₂) ?_⟩
  have := hf i
  unfold b3PV
  cases hb : b3Look i with
  | none =>
    rw [hb] at this
    have e : f i = none := this
    rw [e]; exact rNone
  | some x =>
    rw [hb] at this
    obtain ⟨t', e⟩ := (this : ∃ t, f i = some (.str x t))
    rw [e]; exact rStr
end
end Mine

end PartB7
section PartB8
open PySem PySem.W PyProof.Rows PySem.Calls
open PySem.Builtin PySem.Builtin.Str PySem.Builtin.BaseException PySem.Builtin.Exceptions
set_option Elab.async false
set_option maxRecDepth 100000
set_option linter.unusedVariables false
namespace Mine
section
variable {prog : Program} {w : World} {A : Around} {E : Value → Shared → Prop} {h : Heap} {g : Array GenState} {d : Drawn} {t : Nat} {os : OsState} {C e t0 : Addr} {o : Obj} {vs : Array Value} {mg : Str → Option Value}
theorem bexcStr_own {m : Str} {tk : Tok} {Q : Fin → Shared → Prop} (hx : h.get? e = some o) (hd : o.data = .fields vs) (h0 : vs[0]? = some (.ref t0)) (ht : h.TupAt t0 [.str m tk]) (hq : Q (.done (.ret (.str m tk))) ⟨h, g, d, t, os⟩) :
    wpAny (model prog w) A (Builtin.«BaseException.__str__» ⟨[.ref e], []⟩) Q E ⟨h, g, d, t, os⟩ := by
  have hb : ∀ {Q' : Value × List Value → Shared → Prop}, Q' (.ref t0, [.str m tk]) ⟨h, g, d, t, os⟩ → wpAny (model prog w) A (bexcArgs (.ref e)) Q' E ⟨h, g, d, t, os⟩ := by
    intro Q' hq'
    obtain ⟨ot, k, hto, _, htd⟩ := ht
    unfold bexcArgs
    exact wpAny_bind (wpAny_field hx hd h0 (wpAny_bind (wpAny_seqItems hto htd (wpAny_pure hq'))))
  unfold Builtin.«BaseException.__str__»
  repeat (first | with_reducible refine hb ?_ | wp_step)
  exact hq
theorem check_str_own {M : Model} {Q : Unit → Shared → Prop} (O : OwnClsQ "error_reply" C excTail "Exception.__new__" mg h) (hx : h.get? e = some o) (hc : o.cls = .ref C) (hq : Q () ⟨h, g, d, t, os⟩) :
    wpAny M A (checkBuiltinCall "BaseException.__str__" ⟨[.ref e], []⟩) Q E ⟨h, g, d, t, os⟩ := by
  obtain ⟨bm, N, nm, q, bs, hdct, sn, sub, ab, col, dd, k0, k1, k2, k3, k5, mN, hC, hN, hq', T⟩ := O.obj
  have hk : builtinKind "BaseException.__str__" = some .slot := by decide +kernel
  have hsplit : splitId "BaseException.__str__" = some ("BaseException", "__str__") := by decide +kernel
  have hcB : (Value.ref C :: bm).contains (.type "BaseException") = true := by rw [List.contains_cons, T.tail.hasType (show excTail.contains (.type "BaseException") = true by decide)]; simp
  have ha := F.args_bexc_str (.ref e)
  simp only [checkBuiltinCall, hk, hsplit]
  refine wpAny_bind ?_
  · unfold isInstance
    repeat (first | (with_reducible refine wpAny_loadPart_at hx ?_; rw [hc]) | (with_reducible refine wpAny_isSubtype_exc hC ?_; rw [hcB]) | wp_step)
    exact hq
theorem strOf_own {m : Str} {tk : Tok} {Q : Value → Shared → Prop} (hu : A.units < cLine) (LS : LookStr C h) (O : OwnClsQ "error_reply" C excTail "Exception.__new__" mg h) (hx : h.get? e = some o) (hc : o.cls = .ref C) (hd : o.data = .fields vs) (h0 : vs[0]? = some (.ref t0))
    (ht : h.TupAt t0 [.str m tk]) (hq : Q (.str m tk) ⟨h, g, d, t, os⟩) : wpAny (model prog w) A (PySem.Builtin.Str.strOf (.ref e)) Q E ⟨h, g, d, t, os⟩ := by
  have hcall : ∀ {Q' : Value → Shared → Prop}, Q' (.str m tk) ⟨h, g, d, t, os⟩ → wpAny (model prog w) A (call (.builtin "BaseException.__str__") [.ref e]) Q' E ⟨h, g, d, t, os⟩ := by
    intro Q' hq'
    exact wpAny_call (codeAny_call_builtin (by decide +kernel) F.entry_bexc_str (check_str_own O hx hc (bexcStr_own hx hd h0 ht hq')))
  have hsp : ∀ {Q' : Option Value → Shared → Prop}, Q' (some (.str m tk)) ⟨h, g, d, t, os⟩ → wpAny (model prog w) A (callSpecial? (.ref e) "__str__") Q' E ⟨h, g, d, t, os⟩ := by
    intro Q' hq'
    simp only [callSpecial?]
    refine wpAny_bind ?_
    unfold specialOf
    repeat (first | (with_reducible refine wpAny_loadPart_at hx ?_; rw [hc]) | wp_step)
    refine LS _ _ _ _ _ _ _ _ _ (Ext.refl _) ?_
    dsimp only
    rw [show bindSpecial (.builtin "BaseException.__str__") (.ref e) = pure (.builtin "BaseException.__str__", [.ref e]) from PySem.F.excStr_Exception.str.bind _]
    refine wpAny_holding (wpAny_bind (wpAny_pure (wpAny_bind ?_)))
    exact hcall (wpAny_pure hq')
  unfold PySem.Builtin.Str.strOf
  repeat (first | with_reducible refine wpAny_cRoomFor hu ?_ | with_reducible refine hsp ?_ | wp_step)
  exact hq
theorem str_of_own {m : Str} {tk : Tok} {Q : Value → Shared → Prop} (hu : A.units + 2 < cLine) (LS : LookStr C h) (O : OwnClsQ "error_reply" C excTail "Exception.__new__" mg h) (hx : h.get? e = some o) (hc : o.cls = .ref C) (hd : o.data = .fields vs) (h0 : vs[0]? = some (.ref t0))
    (ht : h.TupAt t0 [.str m tk]) (hq : Q (.str m tk) ⟨h, g, d, t, os⟩) : wpAny (model prog w) A (call (.type "str") [.ref e]) Q E ⟨h, g, d, t, os⟩ :=
  callType_new F.called_str (by decide) (F.typeCall_str_1 _) (F.newCall_str_1 _) (fun obj => F.args_object_init_2 obj _) F.entry_str_new
    (meets_str_new (S := fun A' R s' => A'.units + 1 < cLine ∧ s'.heap = h ∧ R (.ok (.ret (.str m tk))) s')
      fun _ _ A' _ s' hq => by
        obtain ⟨hu', rfl, hR⟩ := hq
        exact strOf_own (A := A'.in1) hu' LS O hx hc hd h0 ht hR)
    ⟨(show A.units + 1 + 1 < cLine from hu), rfl, typeIs_str _ _ _, hq⟩
end

/-- a call of a def of the text, as far as its body -/
theorem callRaw {w : World} {mg : Str → Option Value} {f : Str} {params : Arguments} {body : List Stmt} {scope : Scope} {args : List PV} (ns : List Str) (hf : f ∈ fnNames) (hdef : p0.theDef f = some (params, body, scope))
    (hb : ∀ pm cd doc vs, vs.length = args.length → bindArgs (docDef f params body scope pm cd doc) ⟨vs, []⟩ = pure (ns.zip vs))
    (nd : ns.Nodup) (hkind : (ns.all fun y => scope.names.lookup y == some .local || scope.names.lookup y == some .cell) = true)
    {A : Around} {s : Shared} {Q : Value → Shared → Prop} {E : Value → Shared → Prop} {a : Addr} {vs : List Value} (hdep : A.depth < recursionLimit) (W : W0 w mg s.heap) (ht : 0 < s.toks) (hm : mg f = some (.ref a)) (hr : RepL s.heap args vs)
    (h : ∀ cd h₁ tk, 0 < tk → Sta w mg (envOfC f scope s.heap.objs.size a cd) s.heap h₁ (bindP ns args) → Own (envOfC f scope s.heap.objs.size a cd) s.heap →
      wpAny (model p0 w) (A.deeper (envOfC f scope s.heap.objs.size a cd)) (execs body (envOfC f scope s.heap.objs.size a cd))
        (fun fl s' => Q (match fl with | .ret v => v | _ => .none) s')
        (fun e s' => wpAny (model p0 w) (A.deeper (envOfC f scope s.heap.objs.size a cd)) (leaving (envOfC f scope s.heap.objs.size a cd) e) (fun _ s'' => E e s'') (fun e' s'' => E e' s'') s') { s with heap := h₁, toks := tk })
    (hco : scope.isCoroutine = false := by rfl) (hgen : scope.isGenerator = false := by rfl) (hk : scope.kind = .function := by rfl) : wpAny (model p0 w) A (call (.ref a) vs) Q E s := by
  obtain ⟨a', e, o, pm, cd, doc, ps, bd, sc, hd, ho, hdata, hcd⟩ := W.fn f hf
  rw [hm] at e
  cases e
  rw [hdef] at hd
  cases hd
  have hlen := hr.length
  refine wpAny_call (call_cellsT ht hdep ho hdata W.nolimit hcd (hb pm cd doc vs hlen) (kindsX ?_ _) (fun h₁ tk hn F X => ?_) hco hgen hk)
  · refine List.all_eq_true.mpr fun y hy => ?_
    exact List.all_eq_true.mp hkind y.1 (List.of_mem_zip hy).1
  · obtain ⟨S, O⟩ := sta_entry (w := w) (mg := mg) hk W nd hr F X
    exact h cd h₁ tk hn S O
theorem up_sameBut {h h₁ h₂ : Heap} {L : Addr} (u : h.UpToSlots h₁) (k : Heap.SameBut L h₁ h₂) (hL : h.get? L = none) : h.UpToSlots h₂ := fun b o e hn => by
  obtain ⟨sl, hs⟩ := u b o e hn
  exact ⟨sl, (k.2 b (by rintro rfl; rw [hL] at e; cases e)).trans hs⟩
theorem Heap.StaysIn.sameBut {h h₁ h₂ : Heap} {L : Addr} (u : h.StaysIn h₁) (k : Heap.SameBut L h₁ h₂) (hL : h.get? L = none) : h.StaysIn h₂ := fun b o e =>
  (k.2 b (by rintro rfl; rw [hL] at e; cases e)).trans (u b o e)

set_option maxHeartbeats 4000000 in
theorem refused_call {w : World} {mg : Str → Option Value} {A : Around} {s : Shared} {Q : Value → Shared → Prop} {E : Value → Shared → Prop} {a : Addr} {x : Str} {v : Value} {base : Heap} {outer : List Env} (ha : AOk 3 A) (hfr : A.frames = some outer)
    (W : W0 w mg base) (kb : base.StaysIn s.heap) (hl : s.heap.FunFrames base outer) (ht : 0 < s.toks) (hm : mg "_law_refused" = some (.ref a)) (hv : Rep s.heap (.str x) v) (hx : (Txt.slice x none (some 3) != "257") = true) (hsz : x.length ≤ sizeLine)
    (hQ : ∀ h' tk, 0 < tk → base.StaysIn h' → s.heap.UpToSlots h' → Q (.bool true) { s with heap := h', toks := tk }) : wpAny (model p0 w) A (call (.ref a) [v]) Q E s := by
  have fresh : ∀ c, s.heap.get? c = none → base.get? c = none := fun c hc => by
    cases e : base.get? c with
    | none => rfl
    | some o => have := kb c o e; rw [hc] at this; cases this
  refine wpT ht (callRaw ["reply"] (args := [.str x]) (by decide) rfl (fun pm cd doc vs e => by match vs, e with | [v], _ => rfl) (by decide) rfl (by have := ha.depth; omega) (W.ext kb) ht hm (by unfold RepL; exact ⟨v, [], rfl, hv, by unfold RepL; rfl⟩) fun cd h₁ tk z S O => ?_)
  generalize hL : s.heap.objs.size = L at *
  refine wpAny_execs_cons (wpAny_Try_except (wpAny_execs_cons (wpAny_Expr ?_)))
  obtain ⟨aP, hmP, _⟩ := W.fn "parse257" (by decide)
  refine wpAny_Call_NameR (EvE.glob (n := 2) hmP (by rfl) (by decide) _ _ _ _ _ (ha.deeper _) S z fun u h₂ t₂ z₂ k₂ r₂ => ?_)
  obtain rfl := r₂.r
  have S₂ := S.ext k₂
  obtain ⟨a', e, oP, pm, cdP, doc, prs, bd, sc, hd, hoP, hdata, hcd⟩ := S₂.world.fn "parse257" (by decide)
  rw [hmP] at e
  cases e
  refine callWith_function (o := oP) (evalArgs_row (n := 2) (EvL.cons (EvE.name (p := .str x) rfl rfl (by decide)) rfl .nil) _ _ _ _ _ (ha.deeper _) S₂ z₂ fun vs h₃ t₃ z₃ k₃ r₃ => ⟨⟨k₃ _ _ hoP, hdata⟩, ?_⟩)
  have S₃ := S₂.ext k₃
  clear hdata hcd hoP hd
  refine callRaw ["resp"] (args := [.str x]) (by decide) rfl (fun pm cd doc vs e => by match vs, e with | [v], _ => rfl) (by decide) rfl (by show A.depth + 1 < _; have := ha.depth; omega) S₃.world z₃ hmP r₃ fun cdQ h₄ t₄ z₄ S₄ O₄ => ?_
  refine wpAny_execs_cons (wpAny_If ?_)
  refine EvT.cmp (n := 1) (a := .str (Txt.slice x none (some 3))) (b := .str "257") (c := true) (EvE.sliceS (EvE.name rfl rfl (by decide)) .none (.some .int) hsz) EvE.str (hx ▸ Op2.neS) (by with_unfolding_all rfl) _ _ _ _ _ ((ha.deeper _).deeper _) S₄ z₄ fun h₅ t₅ z₅ k₅ => ?_
  rw [if_pos rfl]
  obtain ⟨C, OC, LS⟩ := W.err
  have S₅ := S₄.ext k₅
  have kb5 : base.StaysIn h₅ := fun b o e => k₅ b o (S₄.keep b o (S₃.keep b o (kb b o e)))
  obtain ⟨tl, N, nm, q, bs, hdct, sn, sub, ab, col, dd, k0, k1, k2, k3, k5, mN, hC, hN, hni, T⟩ := OC.own.obj
  refine wpAny_execs_cons (wpAny_Raise_call_subT (C := C) (nm := nm) (q := q) (N := N) (bs := bs) (bm := tl) (hdct := hdct) (sn := sn) (sub := sub) (ab := ab) (col := col) (dd := dd) (k0 := k0) (k1 := k1) (k2 := k2) (k3 := k3) (k5 := k5)
    PySem.F.excBase_Exception (mN := mN) (T.hasType (show excTail.contains (.type "BaseException") = true by decide)) ha.handled rfl hni (Name_function_global rfl rfl (loadGlobal_global (W.g.keeps kb5) OC.bound ⟨rfl, ?_⟩) (by decide)))
  refine evalArgs_row (n := 1) (EvL.cons (EvE.name (p := .str x) rfl rfl (by decide)) rfl .nil) _ _ _ _ _ ((ha.deeper _).deeper _) S₅ z₅ fun vs₆ h₆ t₆ z₆ k₆ r₆ => ?_
  obtain ⟨v₆, rfl, rv₆⟩ := repL1 r₆
  obtain ⟨u₆, rfl⟩ := rv₆.s
  have kb6 : base.StaysIn h₆ := fun b o e => k₆ b o (kb5 b o e)
  refine ⟨rfl, (by show 1 ≤ sizeLine; rw [sizeLine_eq]; omega), kb6 _ _ hC, hN.keeps kb6, T.keeps kb6, fun h₇ e hmade => ?_⟩
  have S₆ := S₅.ext k₆
  -- the frames below
  have k13 : Ext h₁ h₆ := k₂.trans (k₃.trans (S₄.keep.trans (k₅.trans k₆)))
  obtain ⟨mR, hnR, hmR⟩ := (S.ext k13).loc
  obtain ⟨mP, hnP, _⟩ := S₆.loc
  have U6 : s.heap.UpToSlots h₆ := Heap.UpToSlots.of_keeps fun b o e => k13 b o (S.keep b o e)
  have fr0 : h₆.FunFrames base outer := hl.of_keeps fun b o hb hn => let ⟨sl, e⟩ := U6 b o hb hn; ⟨_, e, rfl⟩
  have hLb : base.get? L = none := fresh _ O.loc
  have hPb : base.get? h₃.objs.size = none := by
    cases e : base.get? h₃.objs.size with
    | none => rfl
    | some o => exact absurd (Heap.lt_size (S₃.keep _ _ (kb _ _ e))) (Nat.lt_irrefl _)
  refine wpAny_leaves_madeW (Around.frames_deeper (Around.frames_deeper hfr)) rfl kb6 (Heap.FunFrames.cons (fun q => nomatch q) rfl hnP hPb (Heap.FunFrames.cons (fun q => nomatch q) rfl hnR hLb fr0)) hmade fun h₈ t₀ fl₈ tup₈ bt₈ up₈ => ?_
  have U7 : s.heap.UpToSlots h₇ := U6.trans (Heap.UpToSlots.of_keeps hmade.keeps)
  have hnR8 : h₈.Ns L mR := up₈.ns (hnR.keeps hmade.keeps)
  have U8 := U7.trans up₈
  refine wpAny_looks_onW (Around.frames_deeper hfr) rfl fl₈ fun h₉ held₉ up₉ => ?_
  refine wpAny_landsW held₉ fun hA flA upA => ?_
  refine handleBy_own_as (C := C) (x := "error_reply") (bmB := excTail) (newId := "Exception.__new__") (mg := mg) (by decide) (Name_function_global rfl rfl (loadGlobal_global (W.g.keeps flA.1) OC.bound ⟨rfl, OC.keeps flA.1, flA.there, ?_⟩) (by decide))
  refine lands_againW flA fun hB flB upB => ?_
  have hnRB : hB.Ns L mR := upB.ns (upA.ns (up₉.ns hnR8))
  have tupB : hB.TupAt t₀ [.str x u₆] := ((tup₈.of_slots up₉).of_slots upA).of_slots upB
  have UB : s.heap.UpToSlots hB := ((U8.trans up₉).trans upA).trans upB
  refine wpAny_storeName_local (env := envOfC "_law_refused" _ L a cd) rfl hnRB (fun hD hnD hsD => ?_) rfl
  obtain ⟨vr, hvr, rvr⟩ := hmR "reply" (.str x) rfl rfl
  obtain ⟨tr, rfl⟩ := rvr.s
  have kbD : base.StaysIn hD := Heap.StaysIn.sameBut flB.1 hsD hLb
  have UD : s.heap.UpToSlots hD := up_sameBut UB hsD O.loc
  obtain ⟨oe, ws, hoe, hoc, hod, hoe0⟩ := flB.first
  have hLe : e ≠ L := by
    rintro rfl
    obtain ⟨o', es, ep, ho', hd', _⟩ := hnRB
    rw [hoe] at ho'; cases ho'
    rw [hod] at hd'; cases hd'
  have hLt : t₀ ≠ L := by
    rintro rfl
    obtain ⟨o', es, ep, ho', hd', _⟩ := hnRB
    obtain ⟨o₂, n₂, ho₂, _, hd₂⟩ := tupB
    rw [ho₂] at ho'; cases ho'
    rw [hd₂] at hd'; cases hd'
  have hoeD : hD.get? e = some oe := (hsD.2 _ hLe).trans hoe
  have tupD : hD.TupAt t₀ [.str x u₆] := let ⟨o₂, n₂, ho₂, c₂, d₂⟩ := tupB; ⟨o₂, n₂, (hsD.2 _ hLt).trans ho₂, c₂, d₂⟩
  have hnDb : hD.Ns builtinsNs _ := W.b.choose_spec.1.keeps kbD
  refine wpAny_execs_cons (wpAny_Return_some (wpAny_Compare1 (wpAny_Call_NameR (Name_function_global rfl rfl (loadGlobal_builtin (W.g.keeps kbD) (W.free "str" (by decide)) hnDb ((W.b.choose_spec.2 "str" (by decide)).trans (show bootBuiltins "str" = some (.type "str") by decide +kernel)) ?_) (by decide))) (by with_unfolding_all rfl)))
  refine PyProof.Rows.callWith_type rfl (evalArgs_plain (args_cons (wpAny_Name (wpAny_loadName_local rfl rfl hnD (if_pos rfl) (args_nil ?_)) (by decide))))
  refine str_of_own (mg := mg) ?_ (LS.ext kbD) (OC.keeps kbD) hoeD hoc hod hoe0 tupD ?_
  · have := ha.units; show A.units + 3 + 2 < _; omega
  refine wpAny_Name (wpAny_loadName_local rfl rfl hnD (v := .str x tr) ((if_neg (by decide)).trans hvr) ?_) (by decide)
  refine PyProof.Rows.eq_str ?_
  rw [beq_self_eq_true]
  refine wpAny_nameGoes rfl hnD rfl fun hF mF hnF hsF hz => ?_
  exact hQ hF _ hz (Heap.StaysIn.sameBut kbD hsF hLb) (up_sameBut UD hsF O.loc)
end Mine

end PartB8
section PartP1
open PySem PySem.W PyProof.Rows PySem.Calls
set_option Elab.async false
set_option maxRecDepth 100000
set_option linter.unusedVariables false
namespace Mine
/-! # the plain law -/
abbrev Cp := List Nat
def mk (l : Cp) : Str := ⟨l.toArray⟩
def rep (n : Nat) : Cp := List.replicate n 34
theorem rep_add (a b : Nat) : rep (a + b) = rep a ++ rep b := List.replicate_append_replicate.symm
/-- reading a name: `true` behind an odd mark -/
def readS : Bool → Cp → Cp
  | _, [] => []
  | false, c :: r => if c = 34 then readS true r else c :: readS false r
  | true, c :: r => if c = 34 then 34 :: readS false r else []
abbrev read (l : Cp) : Cp := readS false l
theorem read_marks (k : Nat) (t : Cp) : read (rep (2 * k) ++ t) = rep k ++ read t := by
  induction k with
  | zero => rfl
  | succ k ih =>
    show readS false (List.replicate (2 * k + 2) 34 ++ t) = _
    rw [List.replicate_succ, List.replicate_succ]
    show 34 :: readS false (rep (2 * k) ++ t) = List.replicate (k + 1) 34 ++ _
    rw [List.replicate_succ]
    exact congrArg _ ih
theorem read_odd (k : Nat) (c : Nat) (t : Cp) (hc : c ≠ 34) : read (rep (2 * k + 1) ++ c :: t) = rep k := by
  have e : rep (2 * k + 1) ++ c :: t = rep (2 * k) ++ (34 :: c :: t) := by rw [rep_add]; simp [rep]
  rw [e, read_marks]
  show rep k ++ readS false (34 :: c :: t) = _
  simp [readS, hc]
theorem read_end (n : Nat) : read (rep n) = rep (n / 2) := by
  rcases Nat.mod_two_eq_zero_or_one n with h | h
  · have e : n = 2 * (n / 2) := by omega
    have := read_marks (n / 2) []
    rw [List.append_nil, ← e] at this
    rw [this]; simp [readS]
  · have e : n = 2 * (n / 2) + 1 := by omega
    have := read_marks (n / 2) [34]
    have e2 : rep n = rep (2 * (n / 2)) ++ [34] := by
      conv => lhs; rw [e, rep_add]
      rfl
    rw [e2, this]; simp [readS]
theorem read_plain {l : Cp} (hl : 34 ∉ l) (t : Cp) : read (l ++ t) = l ++ read t := by
  induction l with
  | nil => rfl
  | cons c r ih =>
    have h1 : c ≠ 34 := fun e => hl (e ▸ .head _)
    show readS false (c :: (r ++ t)) = _
    rw [readS, if_neg h1]
    exact congrArg _ (ih fun h => hl (.tail _ h))
/-- more marks for each -/
def expand (m : Nat) (l : Cp) : Cp := l.flatMap fun c => if c = 34 then rep m else [c]
theorem expand_append (m : Nat) (a b : Cp) : expand m (a ++ b) = expand m a ++ expand m b := List.flatMap_append
theorem expand_rep (m n : Nat) : expand m (rep n) = rep (m * n) := by
  induction n with
  | zero => rfl
  | succ n ih =>
    show expand m (List.replicate (n + 1) 34) = _
    rw [List.replicate_succ]
    show (if 34 = 34 then rep m else [34]) ++ expand m (rep n) = _
    rw [if_pos rfl, ih, ← rep_add, Nat.mul_succ, Nat.add_comm]
theorem expand_plain {m : Nat} {l : Cp} (hl : 34 ∉ l) : expand m l = l := by
  induction l with
  | nil => rfl
  | cons c r ih =>
    have h1 : c ≠ 34 := fun e => hl (e ▸ .head _)
    show (if c = 34 then rep m else [c]) ++ expand m r = _
    rw [if_neg h1, ih fun h => hl (.tail _ h)]
    rfl

/-! ## pieces -/
structure Pc where
  marks : Nat
  sign : Cp
  small : Cp
  table : Nat
def goneOf (st : List (Nat × Nat)) (r t : Nat) : Nat := ((st.filter fun q => q.1 == t).map (·.2)).foldr min (r + 1)
/-- what is left, from some marks on -/
def leftS (m r : Nat) (f : Bool) (st : List (Nat × Nat)) : Nat → List Pc → Cp
  | a, [] => rep (m * (a / 2 ^ r))
  | a, p :: ps =>
    if (a + p.marks) % 2 ^ min (goneOf st r p.table) r ≠ 0 then rep (m * ((a + p.marks) / 2 ^ r))
    else if r < goneOf st r p.table then rep (m * ((a + p.marks) / 2 ^ r)) ++ (if f then p.small else p.sign) ++ leftS m r f st 0 ps
    else leftS m r f st (a + p.marks) ps
def inT (t c : Nat) : Bool := match t with
  | 0 => inB1 c
  | 1 => c == 32
  | 2 => (64976 ≤ c && c < 65008) || (65008 ≤ c && (c % 65536 == 65534 || c % 65536 == 65535))
  | 3 => inC6 c
  | 4 => inC7 c
  | 5 => inC8 c
  | 6 => inC9 c
  | _ => false
def fold1 (c : Nat) : Cp := match b3Look c with | some x => x.cps.toList | none => (Txt.lower ⟨#[c]⟩).cps.toList
def foldL (l : Cp) : Cp := l.flatMap fold1
def strike (t : Nat) (l : Cp) : Cp := l.filter fun c => !inT t c
structure Good (p : Pc) : Prop where
  marks : p.marks ≤ 8
  sign : 34 ∉ p.sign
  small : 34 ∉ p.small
  ne1 : p.sign ≠ []
  ne2 : p.small ≠ []
  len1 : p.sign.length ≤ 4
  len2 : p.small.length ≤ 4
  fold1 : foldL p.sign = p.small
  fold2 : foldL p.small = p.small
  tab1 : ∀ c ∈ p.sign, ∀ t, t < 7 → inT t c = (p.table == t)
  tab2 : ∀ c ∈ p.small, ∀ t, t < 7 → inT t c = (p.table == t)
  tab : p.table ≤ 7
abbrev outOf (f : Bool) (p : Pc) : Cp := if f then p.small else p.sign
theorem Good.out {p : Pc} (g : Good p) (f : Bool) : 34 ∉ outOf f p := by cases f; exact g.sign; exact g.small
theorem Good.outNe {p : Pc} (g : Good p) (f : Bool) : outOf f p ≠ [] := by cases f; exact g.ne1; exact g.ne2
theorem Good.outTab {p : Pc} (g : Good p) (f : Bool) : ∀ c ∈ outOf f p, ∀ t, t < 7 → inT t c = (p.table == t) := by cases f; exact g.tab1; exact g.tab2
theorem Good.outLen {p : Pc} (g : Good p) (f : Bool) : (outOf f p).length ≤ 4 := by cases f; exact g.len1; exact g.len2
theorem Good.outFold {p : Pc} (g : Good p) (f : Bool) : foldL (outOf f p) = p.small := by cases f; exact g.fold1; exact g.fold2

theorem leftS_len (m r : Nat) (f : Bool) (st : List (Nat × Nat)) : ∀ (ps : List Pc) (a : Nat), (∀ p ∈ ps, Good p) → (leftS m r f st a ps).length ≤ m * (a + 8 * ps.length) + 4 * ps.length
  | [], a, _ => by
    unfold leftS rep
    rw [List.length_replicate]
    have : a / 2 ^ r ≤ a := Nat.div_le_self _ _
    have := Nat.mul_le_mul_left m this
    simp; omega
  | p :: ps, a, g => by
    have gp := g p (.head _)
    have ih := fun a => leftS_len m r f st ps a fun q hq => g q (.tail _ hq)
    have h1 : (a + p.marks) / 2 ^ r ≤ a + 8 := Nat.le_trans (Nat.div_le_self _ _) (by have := gp.marks; omega)
    have h2 := Nat.mul_le_mul_left m h1
    have e1 : m * (a + 8 * (ps.length + 1)) = m * (a + 8) + m * (8 * ps.length) := by rw [← Nat.mul_add]; congr 1; omega
    unfold leftS
    rw [List.length_cons, e1]
    split
    · unfold rep; rw [List.length_replicate]; omega
    · split
      · rw [List.length_append, List.length_append]
        have := gp.outLen f
        have := ih 0
        unfold rep; rw [List.length_replicate]
        rw [Nat.zero_add] at this
        have e2 : (if f = true then p.small else p.sign) = outOf f p := rfl
        rw [e2]
        omega
      · have := ih (a + p.marks)
        have h3 : m * (a + p.marks + 8 * ps.length) ≤ m * (a + 8) + m * (8 * ps.length) := by rw [← Nat.mul_add]; exact Nat.mul_le_mul_left m (by have := gp.marks; omega)
        omega

theorem expand_left (k m r : Nat) (f : Bool) (st : List (Nat × Nat)) : ∀ (ps : List Pc) (a : Nat), (∀ p ∈ ps, Good p) → expand k (leftS m r f st a ps) = leftS (k * m) r f st a ps
  | [], a, _ => by unfold leftS; rw [expand_rep, Nat.mul_assoc]
  | p :: ps, a, g => by
    have gp := g p (.head _)
    have ih := fun a => expand_left k m r f st ps a fun q hq => g q (.tail _ hq)
    unfold leftS
    split
    · rw [expand_rep, Nat.mul_assoc]
    · split
      · rw [expand_append, expand_append, expand_rep, ih, Nat.mul_assoc, expand_plain (gp.out f)]
      · exact ih _
theorem read_open (m r : Nat) (f : Bool) (st : List (Nat × Nat)) : ∀ (ps : List Pc) (a : Nat), (∀ p ∈ ps, Good p) → read (leftS (2 * m) r f st a ps) = leftS m r f st a ps
  | [], a, _ => by
    unfold leftS
    rw [read_end]
    congr 1
    rw [Nat.mul_assoc, Nat.mul_div_cancel_left _ (by decide)]
  | p :: ps, a, g => by
    have gp := g p (.head _)
    have ih := fun a => read_open m r f st ps a fun q hq => g q (.tail _ hq)
    unfold leftS
    split
    · rw [read_end]
      congr 1
      rw [Nat.mul_assoc, Nat.mul_div_cancel_left _ (by decide)]
    · split
      · rw [Nat.mul_assoc, List.append_assoc, read_marks, read_plain (gp.out f), ih, List.append_assoc]
      · exact ih _
theorem gone_le_foldr {l : List Nat} {n : Nat} : l.foldr min n ≤ n := by
  induction l with
  | nil => exact Nat.le_refl _
  | cons a l ih => exact Nat.le_trans (Nat.min_le_right _ _) ih
theorem gone_cases {st : List (Nat × Nat)} {r t : Nat} (h : ∀ q ∈ st, q.2 ≤ r) : (goneOf st r t = r + 1 ∧ goneOf st (r + 1) t = r + 2) ∨ (goneOf st r t ≤ r ∧ goneOf st (r + 1) t = goneOf st r t) := by
  unfold goneOf
  have hl : ∀ x ∈ ((st.filter fun q => q.1 == t).map (·.2)), x ≤ r := by
    intro x hx
    obtain ⟨q, hq, rfl⟩ := List.mem_map.mp hx
    exact h q (List.mem_filter.mp hq).1
  generalize ((st.filter fun q => q.1 == t).map (·.2)) = l at hl
  induction l with
  | nil => exact .inl ⟨rfl, rfl⟩
  | cons x l ih =>
    have hx := hl x (.head _)
    refine .inr ?_
    show min x (l.foldr min (r + 1)) ≤ r ∧ min x (l.foldr min (r + 1 + 1)) = min x (l.foldr min (r + 1))
    refine ⟨Nat.le_trans (Nat.min_le_left _ _) hx, ?_⟩
    rcases ih fun y hy => hl y (.tail _ hy) with ⟨e1, e2⟩ | ⟨e1, e2⟩
    · rw [e1, e2]; omega
    · rw [e2]
theorem read_left (r : Nat) (f : Bool) (st : List (Nat × Nat)) (hst : ∀ q ∈ st, q.2 ≤ r) : ∀ (ps : List Pc) (a : Nat), (∀ p ∈ ps, Good p) → read (leftS 1 r f st a ps) = leftS 1 (r + 1) f st a ps
  | [], a, _ => by
    unfold leftS
    rw [read_end]
    congr 1
    rw [Nat.one_mul, Nat.one_mul, Nat.div_div_eq_div_mul, Nat.pow_succ]
  | p :: ps, a, g => by
    have gp := g p (.head _)
    have ih := fun a => read_left r f st hst ps a fun q hq => g q (.tail _ hq)
    have hhalf : (a + p.marks) / 2 ^ r / 2 = (a + p.marks) / 2 ^ (r + 1) := by rw [Nat.div_div_eq_div_mul, Nat.pow_succ]
    unfold leftS
    rcases gone_cases (t := p.table) hst with ⟨e1, e2⟩ | ⟨e1, e2⟩
    · rw [e1, e2]
      have m1 : min (r + 1) r = r := by omega
      have m2 : min (r + 2) (r + 1) = r + 1 := by omega
      rw [m1, m2]
      by_cases h0 : (a + p.marks) % 2 ^ r = 0
      · rw [if_neg (show ¬ (a + p.marks) % 2 ^ r ≠ 0 from fun h => h h0), if_pos (show r < r + 1 by omega)]
        have hd : a + p.marks = 2 ^ r * ((a + p.marks) / 2 ^ r) := (Nat.mul_div_cancel' (Nat.dvd_of_mod_eq_zero h0)).symm
        rw [Nat.one_mul, Nat.one_mul, ← hhalf]
        generalize hk : (a + p.marks) / 2 ^ r = k at *
        rcases Nat.mod_two_eq_zero_or_one k with h | h
        · have h3 : (a + p.marks) % 2 ^ (r + 1) = 0 := by
            rw [hd, Nat.pow_succ, Nat.mul_mod_mul_left, h, Nat.mul_zero]
          rw [if_neg (show ¬ (a + p.marks) % 2 ^ (r + 1) ≠ 0 from fun h => h h3), if_pos (show r + 1 < r + 2 by omega)]
          have ek : k = 2 * (k / 2) := by omega
          conv => lhs; rw [ek]
          rw [List.append_assoc, read_marks, read_plain (gp.out f), ih, List.append_assoc]
        · have h3 : (a + p.marks) % 2 ^ (r + 1) ≠ 0 := by
            rw [hd, Nat.pow_succ, Nat.mul_mod_mul_left, h, Nat.mul_one]
            exact Nat.ne_of_gt (Nat.two_pow_pos r)
          rw [if_pos h3]
          have ek : k = 2 * (k / 2) + 1 := by omega
          have hout : ∃ c t, outOf f p = c :: t ∧ c ≠ 34 := by
            cases ho : outOf f p with
            | nil => exact absurd ho (gp.outNe f)
            | cons c t => exact ⟨c, t, rfl, fun e => gp.out f (by rw [ho, e]; exact .head _)⟩
          obtain ⟨c, t, ho, hc⟩ := hout
          have eo : (if f = true then p.small else p.sign) = c :: t := ho
          rw [eo]
          conv => lhs; rw [ek]
          rw [List.append_assoc, List.cons_append, read_odd _ _ _ hc]
      · rw [if_pos h0]
        have h3 : (a + p.marks) % 2 ^ (r + 1) ≠ 0 := by
          intro h
          apply h0
          exact Nat.mod_eq_zero_of_dvd (Nat.dvd_trans ⟨2, Nat.pow_succ ..⟩ (Nat.dvd_of_mod_eq_zero h))
        rw [if_pos h3, read_end, Nat.one_mul, Nat.one_mul, hhalf]
    · rw [e2]
      have m1 : min (goneOf st r p.table) r = goneOf st r p.table := by omega
      have m2 : min (goneOf st r p.table) (r + 1) = goneOf st r p.table := by omega
      rw [m1, m2]
      by_cases h0 : (a + p.marks) % 2 ^ goneOf st r p.table ≠ 0
      · rw [if_pos h0, if_pos h0, read_end, Nat.one_mul, Nat.one_mul, hhalf]
      · rw [if_neg h0, if_neg h0, if_neg (show ¬ r < goneOf st r p.table by omega), if_neg (show ¬ r + 1 < goneOf st r p.table by omega)]
        exact ih _
theorem foldL_append (a b : Cp) : foldL (a ++ b) = foldL a ++ foldL b := List.flatMap_append
theorem foldL_rep (h : fold1 34 = [34]) (n : Nat) : foldL (rep n) = rep n := by
  induction n with
  | zero => rfl
  | succ n ih =>
    show foldL (List.replicate (n + 1) 34) = List.replicate (n + 1) 34
    rw [List.replicate_succ]
    show fold1 34 ++ foldL (rep n) = _
    rw [h, ih]; rfl
theorem fold_left (h34 : fold1 34 = [34]) (m r : Nat) (f : Bool) (st : List (Nat × Nat)) : ∀ (ps : List Pc) (a : Nat), (∀ p ∈ ps, Good p) → foldL (leftS m r f st a ps) = leftS m r true st a ps
  | [], a, _ => by unfold leftS; exact foldL_rep h34 _
  | p :: ps, a, g => by
    have gp := g p (.head _)
    have ih := fun a => fold_left h34 m r f st ps a fun q hq => g q (.tail _ hq)
    unfold leftS
    split
    · exact foldL_rep h34 _
    · split
      · rw [foldL_append, foldL_append, foldL_rep h34, ih, if_pos rfl]
        have e : foldL (if f = true then p.small else p.sign) = p.small := gp.outFold f
        rw [e]
      · exact ih _
theorem strike_append (t : Nat) (a b : Cp) : strike t (a ++ b) = strike t a ++ strike t b := List.filter_append ..
theorem strike_rep {t : Nat} (h : inT t 34 = false) (n : Nat) : strike t (rep n) = rep n := by
  unfold strike rep
  rw [List.filter_replicate, if_pos (by rw [h]; rfl)]
theorem left_more (m r : Nat) (f : Bool) (st : List (Nat × Nat)) : ∀ (ps : List Pc) (a k : Nat), leftS m r f st (a + 2 ^ r * k) ps = rep (m * k) ++ leftS m r f st a ps
  | [], a, k => by
    unfold leftS
    rw [Nat.add_mul_div_left _ _ (Nat.two_pow_pos r), ← rep_add, ← Nat.mul_add, Nat.add_comm]
  | p :: ps, a, k => by
    have ih := left_more m r f st ps
    unfold leftS
    have e1 : a + 2 ^ r * k + p.marks = a + p.marks + 2 ^ r * k := by omega
    have hmod : (a + p.marks + 2 ^ r * k) % 2 ^ min (goneOf st r p.table) r = (a + p.marks) % 2 ^ min (goneOf st r p.table) r := by
      have hdv : 2 ^ min (goneOf st r p.table) r ∣ 2 ^ r * k := Nat.dvd_trans (Nat.pow_dvd_pow 2 (Nat.min_le_right _ _)) ⟨k, rfl⟩
      obtain ⟨d, hd⟩ := hdv
      rw [hd, Nat.add_mul_mod_self_left]
    rw [e1, hmod, Nat.add_mul_div_left _ _ (Nat.two_pow_pos r)]
    have er : rep (m * ((a + p.marks) / 2 ^ r + k)) = rep (m * k) ++ rep (m * ((a + p.marks) / 2 ^ r)) := by rw [← rep_add, ← Nat.mul_add, Nat.add_comm]
    split
    · exact er
    · split
      · rw [er]; simp only [List.append_assoc]
      · exact ih _ _
theorem gone_snoc (st : List (Nat × Nat)) (t r x : Nat) (h : ∀ q ∈ st, q.2 ≤ r) : goneOf (st ++ [(t, r)]) r x = if x = t then min (goneOf st r x) r else goneOf st r x := by
  unfold goneOf
  rw [List.filter_append, List.map_append, List.foldr_append]
  by_cases hx : x = t
  · subst hx
    rw [if_pos rfl]
    have e : (([(x, r)].filter fun q => q.1 == x).map (·.2)) = [r] := by simp
    rw [e]
    show _ = min _ r
    have hb : List.foldr min (r + 1) [r] = r := by show min r (r + 1) = r; omega
    rw [hb]
    have hl : ∀ y ∈ ((st.filter fun q => q.1 == x).map (·.2)), y ≤ r := by
      intro y hy
      obtain ⟨q, hq, rfl⟩ := List.mem_map.mp hy
      exact h q (List.mem_filter.mp hq).1
    generalize ((st.filter fun q => q.1 == x).map (·.2)) = l at hl
    induction l with
    | nil => show r = min (r + 1) r; omega
    | cons y l ih =>
      show min y (l.foldr min r) = min (min y (l.foldr min (r + 1))) r
      rw [ih fun z hz => hl z (.tail _ hz)]
      omega
  · rw [if_neg hx]
    have e : (([(t, r)].filter fun q => q.1 == x).map (·.2)) = [] := by
      have : (t == x) = false := by simpa using fun e => hx e.symm
      simp [this]
    rw [e]; rfl
theorem strike_left (t : Nat) (ht : t < 7) (h34 : inT t 34 = false) (m r : Nat) (f : Bool) (st : List (Nat × Nat)) (hst : ∀ q ∈ st, q.2 ≤ r) : ∀ (ps : List Pc) (a : Nat), (∀ p ∈ ps, Good p) →
    strike t (leftS m r f st a ps) = leftS m r f (st ++ [(t, r)]) a ps
  | [], a, _ => by unfold leftS; exact strike_rep h34 _
  | p :: ps, a, g => by
    have gp := g p (.head _)
    have ih := fun a => strike_left t ht h34 m r f st hst ps a fun q hq => g q (.tail _ hq)
    unfold leftS
    rw [gone_snoc st t r p.table hst]
    have hout : strike t (outOf f p) = if p.table = t then [] else outOf f p := by
      unfold strike
      split
      · rename_i h
        refine List.filter_eq_nil_iff.mpr fun c hc => ?_
        rw [gp.outTab f c hc t ht, h]; simp
      · rename_i h
        refine List.filter_eq_self.mpr fun c hc => ?_
        rw [gp.outTab f c hc t ht]
        simpa using h
    by_cases hx : p.table = t
    · rw [if_pos hx]
      have m1 : min (min (goneOf st r p.table) r) r = min (goneOf st r p.table) r := by omega
      rw [m1]
      by_cases h0 : (a + p.marks) % 2 ^ min (goneOf st r p.table) r ≠ 0
      · rw [if_pos h0, if_pos h0]; exact strike_rep h34 _
      · rw [if_neg h0, if_neg h0, if_neg (show ¬ r < min (goneOf st r p.table) r by omega)]
        by_cases hg : r < goneOf st r p.table
        · rw [if_pos hg, strike_append, strike_append, strike_rep h34, ih]
          have e : strike t (if f = true then p.small else p.sign) = [] := by rw [show (if f = true then p.small else p.sign) = outOf f p from rfl, hout, if_pos hx]
          rw [e, List.append_nil]
          have m2 : min (goneOf st r p.table) r = r := by omega
          rw [m2] at h0
          have hd : a + p.marks = 0 + 2 ^ r * ((a + p.marks) / 2 ^ r) := by
            have := (Nat.mul_div_cancel' (Nat.dvd_of_mod_eq_zero (by omega : (a + p.marks) % 2 ^ r = 0)))
            omega
          conv => rhs; rw [hd]
          rw [left_more]
        · rw [if_neg hg]; exact ih _
    · rw [if_neg hx]
      by_cases h0 : (a + p.marks) % 2 ^ min (goneOf st r p.table) r ≠ 0
      · rw [if_pos h0, if_pos h0]; exact strike_rep h34 _
      · rw [if_neg h0, if_neg h0]
        by_cases hg : r < goneOf st r p.table
        · rw [if_pos hg, if_pos hg, strike_append, strike_append, strike_rep h34, ih]
          have e : strike t (if f = true then p.small else p.sign) = (if f = true then p.small else p.sign) := by
            have := hout
            rw [if_neg hx] at this
            exact this
          rw [e]
        · rw [if_neg hg, if_neg hg]; exact ih _
/-- at the start -/
def startText (ps : List Pc) : Cp := ps.flatMap fun p => rep p.marks ++ p.sign
theorem left_start : ∀ ps : List Pc, leftS 1 0 false [] 0 ps = startText ps
  | [] => rfl
  | p :: ps => by
    unfold leftS
    have e : goneOf [] 0 p.table = 1 := rfl
    rw [e]
    have h0 : (0 + p.marks) % 2 ^ min 1 0 = 0 := by simp [Nat.mod_one]
    rw [if_neg (by rw [h0]; simp), if_pos (by decide), left_start ps]
    show rep _ ++ p.sign ++ startText ps = (rep p.marks ++ p.sign) ++ startText ps
    simp
end Mine

end PartP1
section PartP2
open PySem PySem.W PyProof.Rows PySem.Calls
set_option Elab.async false
set_option maxRecDepth 100000
set_option linter.unusedVariables false
namespace Mine
/-! # the pieces -/
def runs0 : List (Nat × Nat × Nat) := [(0, 173, 173), (0, 847, 847), (0, 6150, 6150), (0, 6155, 6157), (0, 8203, 8205), (0, 8288, 8288), (0, 65024, 65039), (0, 65279, 65279), (1, 32, 32), (2, 64976, 65007), (3, 65529, 65533), (4, 12272, 12283), (5, 832, 833), (5, 8206, 8207), (5, 8234, 8238), (5, 8298, 8303), (6, 917505, 917505), (6, 917536, 917631)]
def runsL : List (Nat × Nat × Nat) := runs0 ++ (List.range 17).map fun p => (2, 65536 * p + 65534, 65536 * p + 65535)
def tabOf (c : Nat) : Nat := ((runsL.filterMap fun (q : Nat × Nat × Nat) => if q.2.1 ≤ c ∧ c ≤ q.2.2 then some q.1 else none) ++ [7]).headD 7
def tabsOk (c t : Nat) : Bool := (List.range 7).all fun u => inT u c == (t == u)
set_option maxHeartbeats 4000000 in
theorem chk_tab : (runsL.all fun q => (List.range (q.2.2 - q.2.1 + 3)).all fun i => decide (1114111 < q.2.1 - 1 + i) || (tabsOk (q.2.1 - 1 + i) (tabOf (q.2.1 - 1 + i)) && !(q.2.1 - 1 + i == 34) && decide (tabOf (q.2.1 - 1 + i) ≤ 7))) = true := by decide +kernel
set_option maxHeartbeats 4000000 in
theorem chk_low : (UnicodeData.oneLower.all fun q => runsL.all fun r => decide (q.2.1 < r.2.1 - 1) || decide (r.2.2 + 1 < q.1)) = true := by decide +kernel
set_option maxHeartbeats 4000000 in
theorem chk_low2 : (UnicodeData.severalLower.all fun q => runsL.all fun r => decide (q.1 < r.2.1 - 1) || decide (r.2.2 + 1 < q.1)) = true := by decide +kernel
theorem chk_low3 : (runsL.all fun r => decide (931 < r.2.1 - 1) || decide (r.2.2 + 1 < 931)) = true := by decide +kernel
set_option maxHeartbeats 4000000 in
theorem chk_b3 : (b3Pairs.all fun q => runsL.all fun r => decide (q.1.toNat < r.2.1 - 1) || decide (r.2.2 + 1 < q.1.toNat)) = true := by decide +kernel
set_option maxHeartbeats 4000000 in
theorem chk_b3n : (b3Pairs.all fun q => decide (0 ≤ q.1)) = true := by decide +kernel
theorem chk_low1 : (runsL.all fun r => decide (1 ≤ r.2.1)) = true := by decide +kernel
theorem shifted_none : ∀ (l : List (Nat × Nat × Nat)) (c : Nat), (∀ q ∈ l, ¬ (q.1 ≤ c ∧ c ≤ q.2.1)) → Unicode.shifted l c = none
  | [], _, _ => rfl
  | (a, b, t) :: r, c, h => by
    unfold Unicode.shifted
    have h1 : ¬ (a ≤ c ∧ c ≤ b) := h (a, b, t) (.head _)
    split
    · rfl
    · rw [if_neg (by omega)]
      exact shifted_none r c fun q hq => h q (.tail _ hq)
theorem lookup_none' {α : Type} : ∀ (l : List (Nat × α)) (c : Nat), (∀ q ∈ l, q.1 ≠ c) → l.lookup c = none
  | [], _, _ => rfl
  | (a, b) :: r, c, h => by
    have h1 : (c == a) = false := by simpa using fun e : c = a => h (a, b) (.head _) e.symm
    rw [List.lookup_cons, h1]
    exact lookup_none' r c fun q hq => h q (.tail _ hq)
theorem lookup_noneI {α : Type} : ∀ (l : List (Int × α)) (c : Int), (∀ q ∈ l, q.1 ≠ c) → l.lookup c = none
  | [], _, _ => rfl
  | (a, b) :: r, c, h => by
    have h1 : (c == a) = false := by simpa using fun e : c = a => h (a, b) (.head _) e.symm
    rw [List.lookup_cons, h1]
    exact lookup_noneI r c fun q hq => h q (.tail _ hq)
theorem lower1 {c : Nat} (h : c ≠ 931) : (Txt.lower ⟨#[c]⟩).cps.toList = Unicode.lowerOf c := by
  unfold Txt.lower placed
  have e : Unicode.lowerAt #[c] 0 = Unicode.lowerOf c := by
    unfold Unicode.lowerAt
    show (if (c == 0x3A3 && _) = true then _ else _) = _
    have : (c == 0x3A3) = false := by simpa using h
    rw [this]; rfl
  simp [e]
theorem fold_spot {r : Nat × Nat × Nat} (hr : r ∈ runsL) {c : Nat} (h1 : r.2.1 - 1 ≤ c) (h2 : c ≤ r.2.2 + 1) : fold1 c = [c] := by
  have e1 : b3Look c = none := by
    unfold b3Look
    refine lookup_noneI _ _ fun q hq e => ?_
    have := List.all_eq_true.mp (List.all_eq_true.mp chk_b3 q hq) r hr
    have e' : q.1.toNat = c := by omega
    rw [e'] at this
    simp only [Bool.or_eq_true, decide_eq_true_eq] at this
    omega
  have e2 : c ≠ 931 := by
    have := List.all_eq_true.mp chk_low3 r hr
    simp only [Bool.or_eq_true, decide_eq_true_eq] at this
    omega
  unfold fold1
  rw [e1]
  show (Txt.lower ⟨#[c]⟩).cps.toList = _
  rw [lower1 e2]
  unfold Unicode.lowerOf Unicode.image
  rw [lookup_none' _ _ fun q hq e => by
    have := List.all_eq_true.mp (List.all_eq_true.mp chk_low2 q hq) r hr
    simp only [Bool.or_eq_true, decide_eq_true_eq] at this
    omega]
  show [(Unicode.shifted UnicodeData.oneLower c).getD c] = [c]
  rw [shifted_none _ _ fun q hq e => by
    have := List.all_eq_true.mp (List.all_eq_true.mp chk_low q hq) r hr
    simp only [Bool.or_eq_true, decide_eq_true_eq] at this
    omega]
  rfl
theorem good_spot {r : Nat × Nat × Nat} (hr : r ∈ runsL) {c m : Nat} (h1 : r.2.1 - 1 ≤ c) (h2 : c ≤ r.2.2 + 1) (h3 : c ≤ 1114111) (hm : m ≤ 8) : Good ⟨m, [c], [c], tabOf c⟩ := by
  have h0 := List.all_eq_true.mp chk_low1 r hr
  have h0' : 1 ≤ r.2.1 := by simpa using h0
  have := List.all_eq_true.mp (List.all_eq_true.mp chk_tab r hr) (c - (r.2.1 - 1)) (List.mem_range.mpr (by omega))
  have ec : r.2.1 - 1 + (c - (r.2.1 - 1)) = c := by omega
  rw [ec] at this
  rw [Bool.or_eq_true, decide_eq_true_eq, Bool.and_eq_true, Bool.and_eq_true] at this
  obtain ⟨⟨ht, h34⟩, hle⟩ := this.resolve_left (by omega)
  have hf : foldL [c] = [c] := by show fold1 c ++ [] = _; rw [fold_spot hr h1 h2]; rfl
  have hc : c ≠ 34 := by simpa using h34
  have hn : 34 ∉ [c] := by simpa using fun e => hc e.symm
  have htab : ∀ x ∈ [c], ∀ t, t < 7 → inT t x = (tabOf c == t) := by
    intro x hx t htt
    obtain rfl := List.mem_singleton.mp hx
    have := List.all_eq_true.mp ht t (List.mem_range.mpr htt)
    exact beq_iff_eq.mp this
  exact ⟨hm, hn, hn, by simp, by simp, by simp, by simp, hf, hf, htab, htab, by simpa using hle⟩
/-! ## words and letters -/
def wordsL : List (Cp × Cp) := [([223], [115, 115]), ([304], [105, 775]), ([329], [700, 110]), ([383], [115]), ([8018], [965, 787, 768]), ([8481], [116, 101, 108]), ([13254], [99, 8725, 107, 103]), ([64259], [102, 102, 105])]
def startsL : List Nat := [97, 65, 119808, 119860, 119912, 120016, 120172, 120224, 120276, 120328, 120380, 120432]
def marksL : List Nat := [4, 2, 8, 0, 6, 1, 4, 3]
def okSign (l s : Cp) : Bool := !l.contains 34 && !s.contains 34 && !l.isEmpty && !s.isEmpty && decide (l.length ≤ 4) && decide (s.length ≤ 4) && foldL l == s && foldL s == s && (l ++ s).all fun c => tabsOk c 7
theorem good_of_ok {l s : Cp} {m : Nat} (h : okSign l s = true) (hm : m ≤ 8) : Good ⟨m, l, s, 7⟩ := by
  unfold okSign at h
  simp only [Bool.and_eq_true, decide_eq_true_eq, beq_iff_eq, Bool.not_eq_true', List.isEmpty_eq_false_iff] at h
  obtain ⟨⟨⟨⟨⟨⟨⟨⟨a, b⟩, c⟩, d⟩, e⟩, f⟩, g⟩, i⟩, j⟩ := h
  have tab : ∀ x, x ∈ l ++ s → ∀ t, t < 7 → inT t x = ((7 : Nat) == t) := fun x hx t ht => by
    have := List.all_eq_true.mp (List.all_eq_true.mp j x hx) t (List.mem_range.mpr ht)
    exact beq_iff_eq.mp this
  exact ⟨hm, by simpa using a, by simpa using b, c, d, e, f, g, i, fun x hx => tab x (List.mem_append_left _ hx), fun x hx => tab x (List.mem_append_right _ hx), Nat.le_refl _⟩
set_option maxHeartbeats 4000000 in
theorem chk_words : (wordsL.all fun q => okSign q.1 q.2) = true := by decide +kernel
def mathL : List Nat := [119808, 119860, 119912, 120016, 120172, 120224, 120276, 120328, 120380, 120432]
set_option maxHeartbeats 4000000 in
theorem chk_math : (mathL.all fun a => ((b3Pairs.dropWhile fun q => decide (q.1 < (a : Int))).take 26) == (List.range 26).map fun i => (((a + i : Nat) : Int), (mk [97 + i] : Str))) = true := by decide +kernel
theorem chk_above : (b3Pairs.all fun q => decide (123 < q.1)) = true := by decide +kernel
def risesI : List (Int × Str) → Bool
  | a :: b :: r => decide (a.1 < b.1) && risesI (b :: r)
  | _ => true
theorem chk_rises : risesI b3Pairs = true := by decide +kernel
theorem risesI_lt : ∀ {D : List (Int × Str)} {a : Int × Str}, risesI (a :: D) = true → ∀ b ∈ D, a.1 < b.1
  | [], _, _, _, hb => nomatch hb
  | c :: D, a, h, b, hb => by
    have h' : (decide (a.1 < c.1) && risesI (c :: D)) = true := h
    obtain ⟨h1, h2⟩ := Bool.and_eq_true_iff.mp h'
    have h1 := of_decide_eq_true h1
    rcases List.mem_cons.mp hb with rfl | hb
    · exact h1
    · exact Int.lt_trans h1 (risesI_lt h2 b hb)
theorem risesI_look : ∀ {D : List (Int × Str)} {k : Int} {x : Str}, risesI D = true → (k, x) ∈ D → D.lookup k = some x
  | [], _, _, _, h => nomatch h
  | c :: D, k, x, h, hm => by
    obtain ⟨ck, cx⟩ := c
    rcases List.mem_cons.mp hm with e | hm
    · cases e
      rw [List.lookup_cons, beq_self_eq_true]
    · have hlt := risesI_lt h _ hm
      have hb : (k == ck) = false := beq_eq_false_iff_ne.mpr (by dsimp only at hlt; omega)
      have hr : risesI D = true := by
        cases D with
        | nil => rfl
        | cons d D =>
          have h' : (decide (ck < d.1) && risesI (d :: D)) = true := h
          exact (Bool.and_eq_true_iff.mp h').2
      rw [List.lookup_cons, hb]
      exact risesI_look hr hm
theorem look_math {a i : Nat} (ha : a ∈ mathL) (hi : i < 26) : b3Look ((a + i : Nat) : Int) = some (mk [97 + i]) := by
  have h := beq_iff_eq.mp (List.all_eq_true.mp chk_math a ha)
  refine risesI_look chk_rises ?_
  have hm : ((((a + i : Nat) : Int), (mk [97 + i] : Str)) : Int × Str) ∈ (List.range 26).map fun i => (((a + i : Nat) : Int), (mk [97 + i] : Str)) := List.mem_map.mpr ⟨i, List.mem_range.mpr hi, rfl⟩
  rw [← h] at hm
  exact (List.dropWhile_sublist _).mem (List.mem_of_mem_take hm)
theorem look_low {c : Nat} (h : c ≤ 123) : b3Look c = none := by
  unfold b3Look
  refine lookup_noneI _ _ fun q hq e => ?_
  have := of_decide_eq_true (List.all_eq_true.mp chk_above q hq)
  omega
theorem chk_ascii : ((List.range 26).all fun i => (Txt.lower ⟨#[97 + i]⟩).cps.toList == [97 + i] && (Txt.lower ⟨#[65 + i]⟩).cps.toList == [97 + i]) = true := by decide +kernel
theorem starts_split {a : Nat} (ha : a ∈ startsL) : a = 97 ∨ a = 65 ∨ a ∈ mathL := by
  unfold startsL at ha
  rcases List.mem_cons.mp ha with e | ha
  · exact .inl e
  · rcases List.mem_cons.mp ha with e | ha
    · exact .inr (.inl e)
    · exact .inr (.inr ha)
theorem fold_letter {a i : Nat} (ha : a ∈ startsL) (hi : i < 26) : foldL [a + i] = [97 + i] := by
  show fold1 (a + i) ++ [] = _
  rw [List.append_nil]
  have hA := List.all_eq_true.mp chk_ascii i (List.mem_range.mpr hi)
  obtain ⟨h1, h2⟩ := Bool.and_eq_true_iff.mp hA
  unfold fold1
  rcases starts_split ha with rfl | rfl | hm
  · rw [look_low (by omega)]; exact beq_iff_eq.mp h1
  · rw [look_low (by omega)]; exact beq_iff_eq.mp h2
  · rw [look_math hm hi]; rfl
theorem chk_marks : (startsL.all fun a => decide (35 ≤ a)) = true := by decide
set_option maxHeartbeats 4000000 in
theorem chk_tabs : (startsL.all fun a => (List.range 26).all fun i => tabsOk (a + i) 7) = true := by decide +kernel
theorem good_letter {a i m : Nat} (ha : a ∈ startsL) (hi : i < 26) (hm : m ≤ 8) : Good ⟨m, [a + i], [97 + i], 7⟩ := by
  have a1 : (!([a + i] : Cp).contains 34) = true := by
    have := of_decide_eq_true (List.all_eq_true.mp chk_marks a ha)
    rw [Bool.not_eq_true', ← Bool.not_eq_true, List.contains_iff_mem, List.mem_singleton]
    omega
  have b1 : (!([97 + i] : Cp).contains 34) = true := by
    rw [Bool.not_eq_true', ← Bool.not_eq_true, List.contains_iff_mem, List.mem_singleton]
    omega
  have a2 : (foldL [a + i] == ([97 + i] : Cp)) = true := beq_iff_eq.mpr (fold_letter ha hi)
  have b2 : (foldL [97 + i] == ([97 + i] : Cp)) = true := beq_iff_eq.mpr (fold_letter (by decide) hi)
  have a3 := List.all_eq_true.mp (List.all_eq_true.mp chk_tabs a ha) i (List.mem_range.mpr hi)
  have b3 := List.all_eq_true.mp (List.all_eq_true.mp chk_tabs 97 (by decide)) i (List.mem_range.mpr hi)
  refine good_of_ok ?_ hm
  unfold okSign
  rw [a1, b1, a2, b2]
  show (true && true && true && true && true && true && true && true && ([a + i, 97 + i] : Cp).all fun c => tabsOk c 7) = true
  simp [a3, b3]
/-- the piece that the text makes of a number -/
def pieceOf (x place : Nat) : Pc :=
  let k := x / 48 + 13 * place
  let marks := marksL.getD (x / 6 % 8) 0
  let which := k / 4
  if k % 4 = 3 then
    if which % 20 < 8 then let q := wordsL.getD (which % 20) ([], []); ⟨marks, q.1, q.2, 7⟩
    else ⟨marks, [startsL.getD (which % 20 - 8) 0 + which / 20 % 26], [97 + which / 20 % 26], 7⟩
  else
    let q := runsL.getD (which % 35) (0, 0, 0)
    let spot := if k % 4 = 0 then q.2.1 + which / 35 % (q.2.2 - q.2.1 + 1) else if k % 4 = 2 then min 1114111 (if which / 35 % 2 = 0 then q.2.1 - 1 else q.2.2 + 1) else q.2.2
    ⟨marks, [spot], [spot], tabOf spot⟩
theorem getD_mem' {α : Type} {l : List α} {i : Nat} {d : α} (h : i < l.length) : l.getD i d ∈ l := by
  rw [List.getD_eq_getElem?_getD, List.getElem?_eq_getElem h]
  exact List.getElem_mem h
theorem chk_runs : (runsL.all fun r => decide (r.2.1 ≤ r.2.2) && decide (r.2.2 ≤ 1114111)) = true := by decide +kernel
theorem good_piece (x place : Nat) : Good (pieceOf x place) := by
  have hm : marksL.getD (x / 6 % 8) 0 ≤ 8 := by
    have h1 : (marksL.all fun m => decide (m ≤ 8)) = true := by decide
    have := List.all_eq_true.mp h1 _ (getD_mem' (l := marksL) (d := 0) (show x / 6 % 8 < 8 by omega))
    simpa using this
  unfold pieceOf
  dsimp only
  split
  · split
    · rename_i h
      have := List.all_eq_true.mp chk_words _ (getD_mem' (l := wordsL) (d := ([], [])) (show _ < 8 from h))
      exact good_of_ok this hm
    · exact good_letter (getD_mem' (show _ < 12 by omega)) (by omega) hm
  · have hr : runsL.getD ((x / 48 + 13 * place) / 4 % 35) (0, 0, 0) ∈ runsL := getD_mem' (show _ < 35 by omega)
    have h4 := List.all_eq_true.mp chk_runs _ hr
    rw [Bool.and_eq_true, decide_eq_true_eq, decide_eq_true_eq] at h4
    generalize runsL.getD ((x / 48 + 13 * place) / 4 % 35) (0, 0, 0) = q at hr h4
    have h5 : (x / 48 + 13 * place) / 4 / 35 % (q.2.2 - q.2.1 + 1) < q.2.2 - q.2.1 + 1 := Nat.mod_lt _ (by omega)
    generalize (x / 48 + 13 * place) / 4 / 35 % (q.2.2 - q.2.1 + 1) = u at h5
    have e : min 1114111 (if (x / 48 + 13 * place) / 4 / 35 % 2 = 0 then q.2.1 - 1 else q.2.2 + 1) ≤ 1114111 := Nat.min_le_left _ _
    refine good_spot hr ?_ ?_ ?_ hm
    · split
      · omega
      · split
        · split <;> omega
        · omega
    · split
      · omega
      · split
        · split <;> omega
        · omega
    · split
      · omega
      · split
        · exact e
        · omega
theorem fold34 : fold1 34 = [34] := by decide +kernel
theorem in34 : ((List.range 7).all fun t => !inT t 34) = true := by decide +kernel
end Mine

end PartP2
section PartC1
open PySem PySem.W PyProof.Rows PySem.Calls
set_option Elab.async false
set_option maxRecDepth 100000
set_option linter.unusedVariables false
namespace Mine
section
variable {w : World} {mg : Str → Option Value}
theorem EvE.conv {n : Nat} {env : Env} {ρ : Str → Option PV} {e : Expr} {p p' : PV} (h : EvE w mg n env e ρ p) (q : p = p') : EvE w mg n env e ρ p' := q ▸ h
theorem EvT.conv {n : Nat} {env : Env} {ρ : Str → Option PV} {e : Expr} {p p' : Bool} (h : EvT w mg n env e ρ p) (q : p = p') : EvT w mg n env e ρ p' := q ▸ h
theorem EvE.nm {n : Nat} {env : Env} {ρ : Str → Option PV} {x : Str} {pos : Pos} {p : PV} (hx : ρ x = some p) (hk : (env.kindOf x == some .local || env.kindOf x == some .cell) = true) (hd : (x == ("__debug__" : Str)) = false) :
    EvE w mg n env (.Name x pos) ρ p := EvE.name hx hk hd
theorem EvE.ord {n : Nat} {env : Env} {ρ : Str → Option PV} {e : Expr} {pf pos : Pos} {c : Nat} (he : EvE w mg n env e ρ (.str (mk [c]))) (hs : starEach [e] env = (false, eval e env) :: starEach [] env) (hk : (env.kindOf "ord" == some .globalImplicit) = true) :
    EvE w mg n env (.Call (.Name "ord" pf) [e] [] pos) ρ (.int c) :=
  EvE.callB (by decide) (by decide +kernel) (by decide) (.cons he hs .nil) CallOk.ord hk (by decide)
theorem args1 {P : List Value → Prop} (h : ∀ v, P [v]) : ∀ vs : List Value, vs.length = 1 → P vs := by
  intro vs e
  match vs, e with
  | [v], _ => exact h v
theorem args3 {P : List Value → Prop} (h : ∀ a b c, P [a, b, c]) : ∀ vs : List Value, vs.length = 3 → P vs := by
  intro vs e
  match vs, e with
  | [a, b, c], _ => exact h a b c
theorem args5 {P : List Value → Prop} (h : ∀ a b c d e, P [a, b, c, d, e]) : ∀ vs : List Value, vs.length = 5 → P vs := by
  intro vs e
  match vs, e with
  | [a, b, c, d, e], _ => exact h a b c d e
theorem mk_append (a b : Cp) : mk (a ++ b) = mk a ++ mk b := by
  show (⟨(a ++ b).toArray⟩ : Str) = ⟨a.toArray ++ b.toArray⟩
  simp
theorem mk_len (a : Cp) : (mk a).length = a.length := by show a.toArray.size = _; simp
theorem mk_inj {a b : Cp} (h : mk a = mk b) : a = b := by
  have : a.toArray = b.toArray := congrArg Str.cps h
  simpa using this
theorem mk_beq (a b : Cp) : (mk a == mk b) = (a == b) := by
  by_cases h : a = b
  · subst h; simp
  · rw [beq_eq_false_iff_ne.mpr h, beq_eq_false_iff_ne.mpr fun q => h (mk_inj q)]

set_option maxHeartbeats 4000000 in
theorem c11_ok (c : Nat) : FnC w mg 1 "in_table_c11" [.str (mk [c])] (.bool (inT 1 c)) := by
  refine FnC.of ["code"] (by decide) rfl ?_ (by decide) rfl ?_
  · intro pm cd doc
    exact args1 fun v => rfl
  · intro L a cd
    refine EvB.cons (EvS.ret (EvE.cmp (EvE.name rfl rfl (by decide)) EvE.str Op2.eqS (by with_unfolding_all rfl)) ?_)
    show PV.bool (mk [c] == mk [32]) = PV.bool (c == 32)
    rw [mk_beq]
    simp
set_option maxHeartbeats 4000000 in
theorem b1_ok (c : Nat) : FnC w mg 1 "in_table_b1" [.str (mk [c])] (.bool (inT 0 c)) := by
  refine FnC.of ["code"] (by decide) rfl ?_ (by decide) rfl ?_
  · intro pm cd doc
    exact args1 fun v => rfl
  · intro L a cd
    refine EvB.cons (EvS.ret (EvE.inSet (S := inB1) (by unfold setList; simp) (EvE.ord (EvE.name rfl rfl (by decide)) rfl rfl) rfl (by decide) (by with_unfolding_all rfl)) ?_)
    rfl
set_option maxHeartbeats 4000000 in
theorem c6_ok (c : Nat) : FnC w mg 1 "in_table_c6" [.str (mk [c])] (.bool (inT 3 c)) := by
  refine FnC.of ["code"] (by decide) rfl ?_ (by decide) rfl ?_
  · intro pm cd doc
    exact args1 fun v => rfl
  · intro L a cd
    refine EvB.cons (EvS.ret (EvE.inSet (S := inC6) (by unfold setList; simp) (EvE.ord (EvE.name rfl rfl (by decide)) rfl rfl) rfl (by decide) (by with_unfolding_all rfl)) ?_)
    rfl
set_option maxHeartbeats 4000000 in
theorem c7_ok (c : Nat) : FnC w mg 1 "in_table_c7" [.str (mk [c])] (.bool (inT 4 c)) := by
  refine FnC.of ["code"] (by decide) rfl ?_ (by decide) rfl ?_
  · intro pm cd doc
    exact args1 fun v => rfl
  · intro L a cd
    refine EvB.cons (EvS.ret (EvE.inSet (S := inC7) (by unfold setList; simp) (EvE.ord (EvE.name rfl rfl (by decide)) rfl rfl) rfl (by decide) (by with_unfolding_all rfl)) ?_)
    rfl
set_option maxHeartbeats 4000000 in
theorem c8_ok (c : Nat) : FnC w mg 1 "in_table_c8" [.str (mk [c])] (.bool (inT 5 c)) := by
  refine FnC.of ["code"] (by decide) rfl ?_ (by decide) rfl ?_
  · intro pm cd doc
    exact args1 fun v => rfl
  · intro L a cd
    refine EvB.cons (EvS.ret (EvE.inSet (S := inC8) (by unfold setList; simp) (EvE.ord (EvE.name rfl rfl (by decide)) rfl rfl) rfl (by decide) (by with_unfolding_all rfl)) ?_)
    rfl
set_option maxHeartbeats 4000000 in
theorem c9_ok (c : Nat) : FnC w mg 1 "in_table_c9" [.str (mk [c])] (.bool (inT 6 c)) := by
  refine FnC.of ["code"] (by decide) rfl ?_ (by decide) rfl ?_
  · intro pm cd doc
    exact args1 fun v => rfl
  · intro L a cd
    refine EvB.cons (EvS.ret (EvE.inSet (S := inC9) (by unfold setList; simp) (EvE.ord (EvE.name rfl rfl (by decide)) rfl rfl) rfl (by decide) (by with_unfolding_all rfl)) ?_)
    rfl
theorem and_low (c : Nat) : Builtin.bitAnd (c : Int) 65535 = ((c % 65536 : Nat) : Int) := by
  show ((c &&& 65535 : Nat) : Int) = _
  rw [show (65535 : Nat) = 2 ^ 16 - 1 from rfl, Nat.and_two_pow_sub_one_eq_mod]
set_option maxHeartbeats 4000000 in
theorem c4_ok (c : Nat) : FnC w mg 1 "in_table_c4" [.str (mk [c])] (.bool (inT 2 c)) := by
  refine FnC.of ["code"] (by decide) rfl ?_ (by decide) rfl ?_
  · intro pm cd doc
    exact args1 fun v => rfl
  · intro L a cd
    refine EvB.cons (EvS.assign (EvE.ord (EvE.name rfl rfl (by decide)) rfl rfl) ?_ rfl rfl)
    refine EvB.cons (EvS.ifB (EvT.cmp (EvE.name rfl rfl (by decide)) EvE.int Op2.ltI (by with_unfolding_all rfl)) (fun h => ?_) fun h => ?_)
    · have h' : (c : Int) < 64976 := of_decide_eq_true h
      refine EvB.cons (EvS.ret EvE.bool ?_)
      refine congrArg PV.bool ?_
      have e3 : decide (65008 ≤ c) = false := decide_eq_false (by omega)
      have e4 : decide (64976 ≤ c) = false := decide_eq_false (by omega)
      show false = (decide (64976 ≤ c) && _ || decide (65008 ≤ c) && _)
      rw [e3, e4]; rfl
    · have h' : ¬ (c : Int) < 64976 := of_decide_eq_false h
      refine EvB.nil (EvB.cons (EvS.ifB (EvT.cmp (EvE.name rfl rfl (by decide)) EvE.int Op2.ltI (by with_unfolding_all rfl)) (fun h => ?_) fun h => ?_))
      · have h'' : (c : Int) < 65008 := of_decide_eq_true h
        refine EvB.cons (EvS.ret EvE.bool ?_)
        refine congrArg PV.bool ?_
        have e3 : decide (c < 65008) = true := decide_eq_true (by omega)
        have e4 : decide (64976 ≤ c) = true := decide_eq_true (by omega)
        show true = (decide (64976 ≤ c) && decide (c < 65008) || _)
        rw [e3, e4]; rfl
      · have h'' : ¬ (c : Int) < 65008 := of_decide_eq_false h
        refine EvB.nil (EvB.cons (EvS.ret (EvE.cmp (EvE.bin (EvE.ord (EvE.name rfl rfl (by decide)) rfl rfl) EvE.int Op2.andI) (EvE.tup (.cons EvE.int rfl (.cons EvE.int rfl .nil)) (by rw [sizeLine_eq]; decide)) (Op2.inTup (is := [65534, 65535])) (by with_unfolding_all rfl)) ?_))
        refine congrArg PV.bool ?_
        rw [and_low]
        show _ = (decide (64976 ≤ c) && decide (c < 65008) || decide (65008 ≤ c) && (c % 65536 == 65534 || c % 65536 == 65535))
        simp only [List.any_cons, List.any_nil, Bool.or_false]
        have e1 : ((65534 : Int) == ((c % 65536 : Nat) : Int)) = (c % 65536 == 65534) := by
          rw [Bool.eq_iff_iff, beq_iff_eq, beq_iff_eq]; omega
        have e2 : ((65535 : Int) == ((c % 65536 : Nat) : Int)) = (c % 65536 == 65535) := by
          rw [Bool.eq_iff_iff, beq_iff_eq, beq_iff_eq]; omega
        rw [e1, e2]
        have e3 : decide (65008 ≤ c) = true := decide_eq_true (by omega)
        have e4 : decide (c < 65008) = false := decide_eq_false (by omega)
        simp only [e3, e4, Bool.and_false, Bool.false_or, Bool.true_and]
set_option maxHeartbeats 4000000 in
theorem b3_ok (c : Nat) : FnC w mg 1 "map_table_b3" [.str (mk [c])] (.str (mk (fold1 c))) := by
  refine FnC.of ["code"] (by decide) rfl ?_ (by decide) rfl ?_
  · intro pm cd doc
    exact args1 fun v => rfl
  · intro L a cd
    refine EvB.cons (EvS.assign (EvE.b3get (EvE.ord (EvE.name rfl rfl (by decide)) rfl rfl) rfl rfl rfl rfl) ?_ rfl rfl)
    cases hb : b3Look (c : Int) with
    | none =>
      have e : b3PV (c : Int) = .none := by unfold b3PV; rw [hb]
      rw [e]
      refine EvB.cons (EvS.ifF (EvT.cmp (b := .none) (EvE.name rfl rfl (by decide)) EvE.noneC (Op2.isNotNone (.inl ⟨rfl, rfl⟩)) (by with_unfolding_all rfl)) (EvB.nil ?_))
      refine EvB.cons (EvS.ret (EvE.lower (EvE.name rfl rfl (by decide)) (by rw [mk_len]; show 1 ≤ _; decide) rfl rfl) ?_)
      show PV.str _ = PV.str _
      unfold fold1
      rw [hb]
      rfl
    | some x =>
      have e : b3PV (c : Int) = .str x := by unfold b3PV; rw [hb]
      rw [e]
      refine EvB.cons (EvS.ifT (EvT.cmp (b := .none) (EvE.name rfl rfl (by decide)) EvE.noneC (Op2.isNotNone (.inr ⟨⟨x, rfl⟩, rfl⟩)) (by with_unfolding_all rfl)) ?_)
      refine EvB.cons (EvS.ret (EvE.name rfl rfl (by decide)) ?_)
      show PV.str _ = PV.str _
      unfold fold1
      rw [hb]
      rfl
end
end Mine

end PartC1
section PartC2
open PySem PySem.W PyProof.Rows PySem.Calls
set_option Elab.async false
set_option maxRecDepth 100000
set_option linter.unusedVariables false
namespace Mine
theorem slice_ss (l : Cp) (a b : Nat) (hab : a ≤ b) (hb : b ≤ l.length) : Txt.slice (mk l) (some (a : Int)) (some (b : Int)) = mk ((l.drop a).take (b - a)) := by
  have := StrLaws.sliceText_nat (mk l) hab (by rw [mk_len]; exact hb)
  have e : Txt.slice (mk l) (some (a : Int)) (some (b : Int)) = StrLaws.sliceText (mk l) (some (a : Int)) (some (b : Int)) := rfl
  rw [e, this]
  rfl
theorem slice_ns (l : Cp) (b : Nat) (hb : b ≤ l.length) : Txt.slice (mk l) none (some (b : Int)) = mk (l.take b) := by
  have e : Txt.slice (mk l) none (some (b : Int)) = Txt.slice (mk l) (some 0) (some (b : Int)) := by unfold Txt.slice; rw [StrLaws.sliceIdx_none_lo]
  have := slice_ss l 0 b (Nat.zero_le _) hb
  rw [e]
  simpa using this
theorem slice_sn (l : Cp) (a : Nat) (ha : a ≤ l.length) : Txt.slice (mk l) (some (a : Int)) none = mk (l.drop a) := by
  have e : Txt.slice (mk l) (some (a : Int)) none = Txt.slice (mk l) (some (a : Int)) (some ((mk l).length : Int)) := by unfold Txt.slice; rw [StrLaws.sliceIdx_none_hi]
  have := slice_ss l a l.length ha (Nat.le_refl _)
  rw [e, mk_len, this, List.take_of_length_le (by simp)]
section
variable {w : World} {mg : Str → Option Value}
structure PInv (full out : Cp) (m : Nat) (ρ : Str → Option PV) : Prop where
  ex : ∃ pre rest d, full = pre ++ rest ∧ m = rest.length ∧ d ++ read rest = out ∧ ρ "i" = some (.int (pre.length : Nat)) ∧ ρ "dirname" = some (.str (mk d)) ∧ d.length + rest.length ≤ full.length
  resp : ρ "resp" = some (.str (mk full))
  n : ρ "n" = some (.int (full.length : Nat))
set_option maxHeartbeats 8000000 in
theorem parse_ok (l : Cp) (hl : l.length ≤ 1000000) : FnC w mg 1 "parse257" [.str (mk (50 :: 53 :: 55 :: 32 :: 34 :: l))] (.str (mk (read l))) := by
  refine FnC.of ["resp"] (by decide) rfl ?_ (by decide) rfl ?_
  · intro pm cd doc
    exact args1 fun v => rfl
  · intro L a cd
    have hsz : (mk (50 :: 53 :: 55 :: 32 :: 34 :: l)).length ≤ sizeLine := by rw [mk_len, sizeLine_eq]; simp; omega
    have h5 : (50 :: 53 :: 55 :: 32 :: 34 :: l).length = l.length + 5 := by simp
    refine EvB.cons (EvS.ifF (EvT.conv (EvT.cmp (EvE.sliceS (EvE.name rfl rfl (by decide)) .none (.some .int) hsz) EvE.str Op2.neS (by with_unfolding_all rfl)) ?_) (EvB.nil ?_))
    · rw [show (3 : Int) = ((3 : Nat) : Int) from rfl, slice_ns _ 3 (by rw [h5]; omega)]
      show (mk [50, 53, 55] != mk [50, 53, 55]) = false
      simp
    refine EvB.cons (EvS.ifF (EvT.conv (EvT.cmp (EvE.sliceS (EvE.name rfl rfl (by decide)) (.some .int) (.some .int) hsz) EvE.str Op2.neS (by with_unfolding_all rfl)) ?_) (EvB.nil ?_))
    · rw [show (3 : Int) = ((3 : Nat) : Int) from rfl, show (5 : Int) = ((5 : Nat) : Int) from rfl, slice_ss _ 3 5 (by omega) (by rw [h5]; omega)]
      show (mk [32, 34] != mk [32, 34]) = false
      simp
    refine EvB.cons (EvS.assign EvE.str ?_ rfl rfl)
    refine EvB.cons (EvS.assign EvE.int ?_ rfl rfl)
    refine EvB.cons (EvS.assign (EvE.callB (by decide) (by decide +kernel) (by decide) (.cons (EvE.name rfl rfl (by decide)) rfl .nil) (CallOk.lenS hsz) rfl (by decide)) ?_ rfl rfl)
    generalize hfull : 50 :: 53 :: 55 :: 32 :: 34 :: l = full at *
    refine EvB.cons (EvS.while (PInv full (read l)) ?_ l.length ⟨⟨[50, 53, 55, 32, 34], l, [], by rw [← hfull]; rfl, rfl, rfl, rfl, rfl, by rw [h5]; simp⟩, rfl, by rw [← mk_len]; rfl⟩)
    rintro m ρ ⟨⟨pre, rest, d, e1, rfl, e3, hi, hd, hle⟩, hr, hn⟩
    have hfl : full.length = pre.length + rest.length := by rw [e1]; simp
    refine ⟨decide ((pre.length : Int) < (full.length : Int)), EvT.cmp (EvE.name hi rfl (by decide)) (EvE.name hn rfl (by decide)) Op2.ltI (by with_unfolding_all rfl), fun hb => ?_, fun hb => ?_⟩
    · have hlt : (pre.length : Int) < (full.length : Int) := of_decide_eq_true hb
      cases rest with
      | nil => simp at hfl; omega
      | cons c r =>
        have hc : (mk full).cps[(pre.length : Int).toNat]? = some c := by
          show full.toArray[_]? = _
          rw [e1]
          simp
        refine EvB.cons (EvS.assign (EvE.itemS (EvE.name hr rfl (by decide)) (EvE.name hi rfl (by decide)) (by omega) (by omega) hc (fun _ _ => rfl)) ?_ rfl rfl)
        refine EvB.cons (EvS.assign (EvE.bin (EvE.name hi rfl (by decide)) EvE.int Op2.addI) ?_ rfl rfl)
        have hi1 : ((pre.length : Int) + 1) = ((pre ++ [c]).length : Nat) := by simp
        have hdc : (mk d).length + (mk [c]).length ≤ sizeLine := by rw [mk_len, mk_len, sizeLine_eq]; simp at hle ⊢; omega
        refine EvB.cons (EvS.ifB (EvT.cmp (EvE.name rfl rfl (by decide)) EvE.str Op2.eqS (by with_unfolding_all rfl)) (fun h => ?_) fun h => ?_)
        · have hc34 : c = 34 := by
            have h' : (mk [c] == mk [34]) = true := h
            rw [mk_beq] at h'
            simpa using h'
          subst hc34
          cases r with
          | nil =>
            refine EvB.cons (EvS.ifT (EvT.conv (EvT.or2 (q := true) (EvT.cmp (EvE.name rfl rfl (by decide)) (EvE.name hn rfl (by decide)) Op2.geI (by with_unfolding_all rfl)) (fun hp => ?_)) ?_) (EvB.cons (EvS.brk ?_)))
            · exfalso
              have : ¬ ((full.length : Nat) : Int) ≤ (pre.length : Int) + 1 := of_decide_eq_false hp
              simp at hfl; omega
            · rw [decide_eq_true (by simp at hfl; omega)]; rfl
            · refine EvB.cons (EvS.ret (EvE.name hd rfl (by decide)) ?_)
              show PV.str (mk d) = PV.str (mk (read l))
              rw [← e3]
              simp [readS]
          | cons c2 r2 =>
            have hc2 : (mk full).cps[((pre.length : Int) + 1).toNat]? = some c2 := by
              show full.toArray[_]? = _
              have : ((pre.length : Int) + 1).toNat = pre.length + 1 := by omega
              rw [this, e1]
              simp
            by_cases h2 : c2 = 34
            · subst h2
              refine EvB.cons (EvS.ifF (EvT.conv (EvT.or2 (EvT.cmp (EvE.name rfl rfl (by decide)) (EvE.name hn rfl (by decide)) Op2.geI (by with_unfolding_all rfl)) (fun hp => EvT.cmp (EvE.itemS (EvE.name hr rfl (by decide)) (EvE.name rfl rfl (by decide)) (by omega) (by omega) hc2 (fun _ _ => rfl)) EvE.str Op2.neS (by with_unfolding_all rfl))) ?_) (EvB.nil ?_))
              · rw [decide_eq_false (by simp at hfl; omega)]
                show (false || (mk [34] != mk [34])) = false
                simp
              refine EvB.cons (EvS.assign (EvE.bin (EvE.name rfl rfl (by decide)) EvE.int Op2.addI) ?_ rfl rfl)
              refine EvB.nil (EvB.cons (EvS.assign (EvE.bin (EvE.name hd rfl (by decide)) (EvE.name rfl rfl (by decide)) (Op2.addS hdc)) (EvB.nil ?_) rfl rfl))
              refine ⟨r2.length, by simp; omega, ⟨pre ++ [34, 34], r2, d ++ [34], by rw [e1]; simp, rfl, ?_, ?_, ?_, by simp at hle ⊢; omega⟩, hr, hn⟩
              · rw [← e3]; simp [readS]
              · show some (PV.int ((pre.length : Int) + 1 + 1)) = _
                rw [show ((pre.length : Int) + 1 + 1) = (((pre ++ [34, 34]).length : Nat) : Int) by simp; omega]
              · show some (PV.str (mk d ++ mk [34])) = _
                rw [mk_append]
            · refine EvB.cons (EvS.ifT (EvT.conv (EvT.or2 (EvT.cmp (EvE.name rfl rfl (by decide)) (EvE.name hn rfl (by decide)) Op2.geI (by with_unfolding_all rfl)) (fun hp => EvT.cmp (EvE.itemS (EvE.name hr rfl (by decide)) (EvE.name rfl rfl (by decide)) (by omega) (by omega) hc2 (fun _ _ => rfl)) EvE.str Op2.neS (by with_unfolding_all rfl))) ?_) (EvB.cons (EvS.brk ?_)))
              · show (_ || (mk [c2] != mk [34])) = true
                have : (mk [c2] != mk [34]) = true := by
                  show (!(mk [c2] == mk [34])) = true
                  rw [mk_beq]
                  simpa using h2
                rw [this, Bool.or_true]
              · refine EvB.cons (EvS.ret (EvE.name hd rfl (by decide)) ?_)
                show PV.str (mk d) = PV.str (mk (read l))
                rw [← e3]
                simp [readS, h2]
        · have hc34 : c ≠ 34 := by
            rintro rfl
            have h' : (mk [34] == mk [34]) = false := h
            simp at h'
          refine EvB.nil (EvB.cons (EvS.assign (EvE.bin (EvE.name hd rfl (by decide)) (EvE.name rfl rfl (by decide)) (Op2.addS hdc)) (EvB.nil ?_) rfl rfl))
          refine ⟨r.length, by simp, ⟨pre ++ [c], r, d ++ [c], by rw [e1]; simp, rfl, ?_, ?_, ?_, by simp at hle ⊢; omega⟩, hr, hn⟩
          · rw [← e3]; simp [readS, hc34]
          · show some (PV.int ((pre.length : Int) + 1)) = _
            rw [hi1]
          · show some (PV.str (mk d ++ mk [c])) = _
            rw [mk_append]
    · have hge : ¬ (pre.length : Int) < (full.length : Int) := of_decide_eq_false hb
      have : rest = [] := List.length_eq_zero_iff.mp (by omega)
      subst this
      refine EvB.cons (EvS.ret (EvE.name hd rfl (by decide)) ?_)
      show PV.str (mk d) = PV.str (mk (read l))
      rw [← e3]
      simp [readS]
set_option maxHeartbeats 8000000 in
theorem parse_none (l : Cp) (hl : l.length ≤ 1000000) : FnC w mg 1 "parse257" [.str (mk (50 :: 53 :: 55 :: 45 :: 34 :: l))] (.str (mk [])) := by
  refine FnC.of ["resp"] (by decide) rfl ?_ (by decide) rfl ?_
  · intro pm cd doc
    exact args1 fun v => rfl
  · intro L a cd
    have hsz : (mk (50 :: 53 :: 55 :: 45 :: 34 :: l)).length ≤ sizeLine := by rw [mk_len, sizeLine_eq]; simp; omega
    have h5 : (50 :: 53 :: 55 :: 45 :: 34 :: l).length = l.length + 5 := by simp
    refine EvB.cons (EvS.ifF (EvT.conv (EvT.cmp (EvE.sliceS (EvE.name rfl rfl (by decide)) .none (.some .int) hsz) EvE.str Op2.neS (by with_unfolding_all rfl)) ?_) (EvB.nil ?_))
    · rw [show (3 : Int) = ((3 : Nat) : Int) from rfl, slice_ns _ 3 (by rw [h5]; omega)]
      show (mk [50, 53, 55] != mk [50, 53, 55]) = false
      simp
    refine EvB.cons (EvS.ifT (EvT.conv (EvT.cmp (EvE.sliceS (EvE.name rfl rfl (by decide)) (.some .int) (.some .int) hsz) EvE.str Op2.neS (by with_unfolding_all rfl)) ?_) (EvB.cons (EvS.ret EvE.str ?_)))
    · rw [show (3 : Int) = ((3 : Nat) : Int) from rfl, show (5 : Int) = ((5 : Nat) : Int) from rfl, slice_ss _ 3 5 (by omega) (by rw [h5]; omega)]
      show (!(mk [45, 34] == mk [32, 34])) = true
      rw [mk_beq]
      rfl
    · rfl
end
end Mine

end PartC2
section PartC3
open PySem PySem.W PyProof.Rows PySem.Calls
set_option Elab.async false
set_option maxRecDepth 100000
set_option linter.unusedVariables false
namespace Mine
def runPV (q : Nat × Nat × Nat) : PV := .tup [.int q.1, .int q.2.1, .int q.2.2]
theorem args0 {P : List Value → Prop} (h : P []) : ∀ vs : List Value, vs.length = 0 → P vs := by
  intro vs e
  match vs, e with
  | [], _ => exact h
theorem small3 {α : Type} {a b c : α} : [a, b, c].length ≤ sizeLine := by show 3 ≤ sizeLine; rw [sizeLine_eq]; omega
theorem small4 {α : Type} {a b c d : α} : [a, b, c, d].length ≤ sizeLine := by show 4 ≤ sizeLine; rw [sizeLine_eq]; omega
theorem filterMap_some' {α β : Type} (f : α → β) (l : List α) : l.filterMap (fun x => some (f x)) = l.map f := by
  induction l with
  | nil => rfl
  | cons a l ih => simp
section
variable {w : World} {mg : Str → Option Value}
theorem three {n : Nat} {env : Env} {ρ : Str → Option PV} {i j k : Int} {a b c d : Nat} {p1 p2 p3 p4 : Pos} : EvE w mg n env (.Tuple [.Constant (.int i) a p1, .Constant (.int j) b p2, .Constant (.int k) c p3] d p4) ρ (.tup [.int i, .int j, .int k]) :=
  EvE.tup (.cons EvE.int rfl (.cons EvE.int rfl (.cons EvE.int rfl .nil))) small3
theorem runs0_len : (runs0.map runPV).length ≤ sizeLine := by rw [List.length_map, sizeLine_eq]; decide +kernel
set_option maxHeartbeats 1000000 in
theorem runs_ok : FnC w mg 1 "_law_runs" [] (.lst (runsL.map runPV)) := by
  refine FnC.of [] (by decide) rfl ?_ (by decide) rfl ?_
  · intro pm cd doc
    exact args0 rfl
  · intro L a cd
    refine EvB.cons ?_
    refine EvS.assign (p := .lst (runs0.map runPV)) ?_ ?_ ?_ ?_
    · refine EvE.list (ps := runs0.map runPV) ?_ ?_
      · repeat (refine EvL.cons (p := runPV _) ?_ ?_ ?_; exact three; rfl)
        exact EvL.nil
      · exact runs0_len
    · refine EvB.cons ?_
      refine EvS.ret (p := .lst (runsL.map runPV)) ?_ ?_
      · refine EvE.bin (a := .lst (runs0.map runPV)) (b := .lst (((List.range 17).map fun (i : Nat) => PV.int (i : Nat)).filterMap fun p => match p with | .int i => some (.tup [.int 2, .int (65536 * i + 65534), .int (65536 * i + 65535)]) | _ => none)) ?_ ?_ ?_
        · exact EvE.name rfl rfl (by decide)
        · refine EvE.comp (ys := []) (cl := []) _ ?_ (EvI.range (m := 17) EvE.int (by rw [sizeLine_eq]; decide) rfl rfl) ?_ ?_ (fun _ => rfl)
          · exact ⟨rfl, rfl, rfl, rfl, rfl, fun y hy => (nomatch hy), fun y c hc => (nomatch hc), rfl, rfl⟩
          · rw [List.length_map, List.length_range, sizeLine_eq]; omega
          · intro C p hp
            obtain ⟨i, hi, rfl⟩ := List.mem_map.mp hp
            refine ⟨_, true, .name, .nil, fun _ => ⟨_, rfl, rfl, ?_⟩, fun q => nomatch q⟩
            refine EvE.tup (.cons EvE.int rfl (.cons (EvE.bin (EvE.bin EvE.int (EvE.name rfl rfl (by decide)) (Op2.mulI (.of_left (by decide)))) EvE.int Op2.addI) rfl (.cons (EvE.bin (EvE.bin EvE.int (EvE.name rfl rfl (by decide)) (Op2.mulI (.of_left (by decide)))) EvE.int Op2.addI) rfl .nil))) small3
        · have e : (((List.range 17).map fun (i : Nat) => PV.int (i : Nat)).filterMap fun p => match p with | .int i => some (PV.tup [.int 2, .int (65536 * i + 65534), .int (65536 * i + 65535)]) | _ => none) = ((List.range 17).map fun p => (2, 65536 * p + 65534, 65536 * p + 65535)).map runPV := by
            rw [List.filterMap_map, List.map_map]
            exact (filterMap_some' (fun i : Nat => PV.tup [.int 2, .int (65536 * (i : Int) + 65534), .int (65536 * (i : Int) + 65535)]) _).trans (List.map_congr_left fun i _ => by
              show PV.tup _ = PV.tup _
              rfl)
          have e2 : runsL.map runPV = runs0.map runPV ++ ((List.range 17).map fun p => (2, 65536 * p + 65534, 65536 * p + 65535)).map runPV := List.map_append
          rw [e, e2]
          exact Op2.addL (by rw [List.length_map, List.length_map, List.length_map, List.length_range, sizeLine_eq]; decide +kernel)
      · rfl
    · rfl
    · rfl
end
end Mine

end PartC3
section PartC4
open PySem PySem.W PyProof.Rows PySem.Calls
set_option Elab.async false
set_option maxRecDepth 100000
set_option linter.unusedVariables false
namespace Mine
def pcPV (p : Pc) : PV := .tup [.int (p.marks : Nat), .str (mk p.sign), .str (mk p.small), .int (p.table : Nat)]
section
variable {w : World} {mg : Str → Option Value} {n : Nat} {env : Env} {ρ : Str → Option PV}
theorem fdivN (a b : Nat) : (a : Int).fdiv (b : Int) = ((a / b : Nat) : Int) := by
  rw [Int.fdiv_eq_ediv_of_nonneg _ (Int.natCast_nonneg b)]; rfl
theorem fmodN (a b : Nat) : (a : Int).fmod (b : Int) = ((a % b : Nat) : Int) := by
  rw [Int.fmod_eq_emod_of_nonneg _ (Int.natCast_nonneg b)]; rfl
theorem EvE.intN {i : Int} {b k : Nat} {pos : Pos} (hi : i = (b : Nat)) : EvE w mg n env (.Constant (.int i) k pos) ρ (.int (b : Nat)) := by subst hi; exact EvE.int
theorem EvE.divC {l : Expr} {a b k : Nat} {i : Int} {p pos : Pos} (hl : EvE w mg n env l ρ (.int (a : Nat))) (hi : i = (b : Nat)) (h0 : 0 < b) (h1 : b < 1073741824) : EvE w mg n env (.BinOp l .FloorDiv (.Constant (.int i) k p) pos) ρ (.int ((a / b : Nat) : Int)) := by
  subst hi
  rw [← fdivN]
  exact EvE.bin hl EvE.int (Op2.divI (by omega) (by omega))
theorem EvE.modC {l : Expr} {a b k : Nat} {i : Int} {p pos : Pos} (hl : EvE w mg n env l ρ (.int (a : Nat))) (hi : i = (b : Nat)) (h0 : 0 < b) : EvE w mg n env (.BinOp l .Mod (.Constant (.int i) k p) pos) ρ (.int ((a % b : Nat) : Int)) := by
  subst hi
  rw [← fmodN]
  exact EvE.bin hl EvE.int (Op2.modI (by omega))
theorem EvE.modN {l r : Expr} {a b : Nat} {pos : Pos} (hl : EvE w mg n env l ρ (.int (a : Nat))) (hr : EvE w mg n env r ρ (.int (b : Nat))) (h0 : 0 < b) : EvE w mg n env (.BinOp l .Mod r pos) ρ (.int ((a % b : Nat) : Int)) := by
  rw [← fmodN]
  exact EvE.bin hl hr (Op2.modI (by omega))
theorem EvE.addN {l r : Expr} {a b : Nat} {pos : Pos} (hl : EvE w mg n env l ρ (.int (a : Nat))) (hr : EvE w mg n env r ρ (.int (b : Nat))) : EvE w mg n env (.BinOp l .Add r pos) ρ (.int ((a + b : Nat) : Int)) := by
  rw [Int.natCast_add]
  exact EvE.bin hl hr Op2.addI
theorem EvE.subN {l r : Expr} {a b : Nat} {pos : Pos} (hl : EvE w mg n env l ρ (.int (a : Nat))) (hr : EvE w mg n env r ρ (.int (b : Nat))) (h : b ≤ a) : EvE w mg n env (.BinOp l .Sub r pos) ρ (.int ((a - b : Nat) : Int)) := by
  rw [Int.ofNat_sub h]
  exact EvE.bin hl hr Op2.subI
theorem EvE.mulC {r : Expr} {a b k : Nat} {i : Int} {p pos : Pos} (hr : EvE w mg n env r ρ (.int (b : Nat))) (hi : i = (a : Nat)) (h : a < 2 ^ 60) : EvE w mg n env (.BinOp (.Constant (.int i) k p) .Mult r pos) ρ (.int ((a * b : Nat) : Int)) := by
  subst hi
  rw [Int.natCast_mul]
  exact EvE.bin EvE.int hr (Op2.mulI (.of_left (intBits_le_64 (by omega) (by omega))))
theorem EvT.eqN {l : Expr} {a b k : Nat} {i : Int} {p pos : Pos} (hl : EvE w mg n env l ρ (.int (a : Nat))) (hi : i = (b : Nat)) : EvT w mg n env (.Compare l [.Eq] [.Constant (.int i) k p] pos) ρ (a == b) := by
  subst hi
  refine EvT.conv (EvT.cmp hl EvE.int Op2.eqI (by with_unfolding_all rfl)) ?_
  rw [Bool.eq_iff_iff, beq_iff_eq, beq_iff_eq]
  omega
theorem EvT.ltN {l r : Expr} {a b : Nat} {pos : Pos} (hl : EvE w mg n env l ρ (.int (a : Nat))) (hr : EvE w mg n env r ρ (.int (b : Nat))) (hm : behindInMarks .Lt r = false) : EvT w mg n env (.Compare l [.Lt] [r] pos) ρ (decide (a < b)) := by
  refine EvT.conv (EvT.cmp hl hr Op2.ltI hm) ?_
  rw [Bool.eq_iff_iff, decide_eq_true_iff, decide_eq_true_iff]
  omega
theorem EvE.itemTN {value slice : Expr} {pos : Pos} {l : List PV} {i : Nat} {p : PV} (hv : EvE w mg n env value ρ (.tup l)) (hs : EvE w mg n env slice ρ (.int (i : Nat))) (h1 : i < 2 ^ 62) (hp : l[i]? = some p)
    (hsub : ∀ o j, subscripted slice false o j = operate [o, j] (getItem o j)) : EvE w mg n env (.Subscript value slice pos) ρ p := EvE.itemT hv hs (by omega) (by omega) hp hsub
theorem EvE.itemLN {value slice : Expr} {pos : Pos} {l : List PV} {i : Nat} {p : PV} (hv : EvE w mg n env value ρ (.lst l)) (hs : EvE w mg n env slice ρ (.int (i : Nat))) (h1 : i < 2 ^ 62) (hp : l[i]? = some p)
    (hsub : ∀ o j, subscripted slice false o j = operate [o, j] (getItem o j)) : EvE w mg n env (.Subscript value slice pos) ρ p := EvE.itemL hv hs (by omega) (by omega) hp hsub
theorem EvE.chrN {e : Expr} {c : Nat} {pf pos : Pos} (he : EvE w mg n env e ρ (.int (c : Nat))) (hc : c ≤ 1114111) (hs : starEach [e] env = (false, eval e env) :: starEach [] env) (hk : (env.kindOf "chr" == some .globalImplicit) = true) :
    EvE w mg n env (.Call (.Name "chr" pf) [e] [] pos) ρ (.str (mk [c])) :=
  EvE.callB (by decide) (by decide +kernel) (by decide) (.cons he hs .nil) (CallOk.chr (by omega) (by omega)) hk (by decide)
theorem getMap {α : Type} (f : α → PV) (l : List α) (i : Nat) (d : α) (h : i < l.length) : (l.map f)[i]? = some (f (l.getD i d)) := by
  rw [List.getElem?_map, List.getD_eq_getElem?_getD, List.getElem?_eq_getElem h]; rfl
end
end Mine

end PartC4
section PartC5d
open PySem PySem.W PyProof.Rows PySem.Calls
set_option Elab.async false
set_option maxRecDepth 100000
set_option linter.unusedVariables false
namespace Mine
def bodyOf (f : Str) : List Stmt := match p0.theDef f with | some (_, b, _) => b | none => []
def scopeOf (f : Str) : Scope := match p0.theDef f with | some (_, _, s) => s | none => default
def chrRun (spot : Nat) (q : PV) : Option PV := match q with
  | .tup [.int o, .int lo, .int hi] => if lo ≤ (spot : Int) ∧ (spot : Int) ≤ hi then some (.int o) else none
  | _ => none
theorem held_eq (spot : Nat) : (runsL.map runPV).filterMap (chrRun spot) = ((runsL.filterMap fun (q : Nat × Nat × Nat) => if q.2.1 ≤ spot ∧ spot ≤ q.2.2 then some q.1 else none)).map fun (t : Nat) => PV.int (t : Nat) := by
  rw [List.filterMap_map, List.map_filterMap]
  congr 1
  funext q
  show (if ((q.2.1 : Nat) : Int) ≤ (spot : Int) ∧ (spot : Int) ≤ ((q.2.2 : Nat) : Int) then some (PV.int ((q.1 : Nat) : Int)) else none) = _
  by_cases h : q.2.1 ≤ spot ∧ spot ≤ q.2.2
  · rw [if_pos h, if_pos (by omega)]; rfl
  · rw [if_neg h, if_neg (by omega)]; rfl
section
variable {w : World} {mg : Str → Option Value}
set_option maxHeartbeats 2000000 in
theorem piece_tail (L a : Addr) (cd : Value) (m k spot : Nat) (hs : spot ≤ 1114111) (ρ : Str → Option PV) (h1 : ρ "marks" = some (.int (m : Nat))) (h2 : ρ "spot" = some (.int (spot : Nat))) (h3 : ρ "runs" = some (.lst (runsL.map runPV))) :
    EvB w mg 0 (envOfC "_law_piece" (scopeOf "_law_piece") L a cd) ((bodyOf "_law_piece").drop 9) ρ (retIs (pcPV ⟨m, [spot], [spot], tabOf spot⟩)) := by
  refine EvB.cons ?_
  refine EvS.assignComp (cl := [("spot", L + 1)]) (ys := ["spot"]) (ps := runsL.map runPV) (chrRun spot) ?_ ?_ ?_ ?_ ?_ ?_ ?_ ?_
  · exact ⟨rfl, rfl, rfl, rfl, rfl, fun y hy => by obtain rfl := List.mem_singleton.mp hy; exact ⟨rfl, rfl⟩, (fun y c hc => by
      have h : List.lookup y [(("spot" : Str), L + 1)] = some c := hc
      rw [List.lookup_cons] at h
      split at h
      · cases h; exact ⟨"spot", rfl⟩
      · cases h), rfl, rfl⟩
  · exact EvI.list (EvE.name h3 rfl (by decide)) (.inr ⟨_, _, _, rfl⟩) (.inr fun p hp => by obtain ⟨q, _, rfl⟩ := List.mem_map.mp hp; exact ⟨_, rfl⟩)
  · rw [List.length_map, sizeLine_eq]; decide +kernel
  · intro C p hp
    obtain ⟨q, hq, rfl⟩ := List.mem_map.mp hp
    refine ⟨_, decide ((q.2.1 : Int) ≤ (spot : Int)) && decide ((spot : Int) ≤ (q.2.2 : Int)), .tup [(_, _), (_, _), (_, _)] rfl rfl rfl, .one (EvT.chain (b := .int (spot : Nat)) (EvE.name rfl rfl (by decide)) (EvE.name h2 rfl (by decide)) (EvE.name rfl rfl (by decide)) Op2.leI Op2.leI rfl), fun hb => ?_, fun hb => ?_⟩
    · rw [Bool.and_eq_true, decide_eq_true_iff, decide_eq_true_iff] at hb
      exact ⟨.int (q.1 : Nat), if_pos hb, rfl, EvE.name rfl rfl (by decide)⟩
    · refine if_neg fun hc => ?_
      rw [decide_eq_true hc.1, decide_eq_true hc.2] at hb
      cases hb
  · refine EvB.cons ?_
    have hh : ∃ t, tabOf spot = t ∧ ((runsL.map runPV).filterMap (chrRun spot) ++ [PV.int (7 : Nat)])[0]? = some (PV.int (t : Nat)) := by
      refine ⟨_, rfl, ?_⟩
      rw [held_eq]
      unfold tabOf
      generalize (runsL.filterMap fun (q : Nat × Nat × Nat) => if q.2.1 ≤ spot ∧ spot ≤ q.2.2 then some q.1 else none) = l
      cases l <;> rfl
    obtain ⟨t, ht, hget⟩ := hh
    refine EvS.ret (p := pcPV ⟨m, [spot], [spot], tabOf spot⟩) ?_ rfl
    rw [ht]
    refine EvE.tup (.cons (EvE.name h1 rfl (by decide)) rfl (.cons (EvE.chrN (EvE.name h2 rfl (by decide)) hs rfl rfl) rfl (.cons (EvE.chrN (EvE.name h2 rfl (by decide)) hs rfl rfl) rfl (.cons (EvE.itemLN (i := 0) (EvE.bin (EvE.name rfl rfl (by decide)) (EvE.list (.cons (EvE.intN (b := 7) rfl) rfl .nil) (by show 1 ≤ _; rw [sizeLine_eq]; omega)) (Op2.addL ?_)) (EvE.intN rfl) (by omega) hget (fun _ _ => rfl)) rfl .nil)))) small4
    have := List.length_filterMap_le (chrRun spot) (runsL.map runPV)
    have h35 : (runsL.map runPV).length = 35 := by rw [List.length_map]; rfl
    rw [sizeLine_eq]
    simp only [List.length_cons, List.length_nil]
    omega
  · rfl
  · rfl
  · exact fun _ => rfl
end
end Mine

end PartC5d
section PartC5m
open PySem PySem.W PyProof.Rows PySem.Calls
set_option Elab.async false
set_option maxRecDepth 100000
set_option linter.unusedVariables false
namespace Mine
section
variable {w : World} {mg : Str → Option Value}
set_option maxHeartbeats 2000000 in
theorem piece_mid (L a : Addr) (cd : Value) (x place k : Nat) (hk : x / 48 + 13 * place = k) (hk4 : k / 4 < 2 ^ 40) (h3 : k % 4 ≠ 3) (ρ : Str → Option PV) (hm : ρ "marks" = some (.int (marksL.getD (x / 6 % 8) 0 : Nat))) (hkind : ρ "kind" = some (.int (k % 4 : Nat))) (hwh : ρ "which" = some (.int (k / 4 : Nat))) (hr : ρ "runs" = some (.lst (runsL.map runPV))) :
    EvB w mg 0 (envOfC "_law_piece" (scopeOf "_law_piece") L a cd) ((bodyOf "_law_piece").drop 5) ρ (retIs (pcPV (pieceOf x place))) := by
  have hmem : runsL.getD (k / 4 % 35) (0, 0, 0) ∈ runsL := getD_mem' (show _ < 35 by omega)
  have h4 := List.all_eq_true.mp chk_runs _ hmem
  have h0 := List.all_eq_true.mp chk_low1 _ hmem
  rw [Bool.and_eq_true, decide_eq_true_eq, decide_eq_true_eq] at h4
  rw [decide_eq_true_eq] at h0
  generalize hq : runsL.getD (k / 4 % 35) (0, 0, 0) = q at *
  have hres : pieceOf x place = (let spot := if k % 4 = 0 then q.2.1 + k / 4 / 35 % (q.2.2 - q.2.1 + 1) else if k % 4 = 2 then min 1114111 (if k / 4 / 35 % 2 = 0 then q.2.1 - 1 else q.2.2 + 1) else q.2.2; (⟨marksL.getD (x / 6 % 8) 0, [spot], [spot], tabOf spot⟩ : Pc)) := by
    unfold pieceOf
    dsimp only
    rw [hk, if_neg h3, hq]
  rw [hres]
  dsimp only
  have hget : (runsL.map runPV)[k / 4 % 35]? = some (runPV q) := by
    rw [← hq]; exact getMap _ runsL _ (0, 0, 0) (show _ < 35 by omega)
  refine EvB.cons ?_
  refine EvS.assignT (p := .tup [.int (q.2.1 : Nat), .int (q.2.2 : Nat)]) ?_ (.tup [(_, _), (_, _)] rfl rfl rfl) ?_ ?_ ?_ ?_ ?_
  · exact EvE.sliceT (i := 1) (l := [.int (q.1 : Nat), .int (q.2.1 : Nat), .int (q.2.2 : Nat)]) (EvE.itemLN (i := k / 4 % 35) (EvE.name hr rfl (by decide)) (EvE.modC (b := 35) (EvE.name hwh rfl (by decide)) rfl (by omega)) (by omega) hget (fun _ _ => rfl)) (EvE.intN rfl) (by omega) (by show 1 ≤ 3; omega) small3
  rotate_left
  · rfl
  · rfl
  · rfl
  · rfl
  refine EvB.cons ?_
  refine EvS.assign (p := .int (q.2.2 : Nat)) (EvE.name rfl rfl (by decide)) ?_ ?_ ?_
  rotate_left
  · rfl
  · rfl
  refine EvB.cons ?_
  refine EvS.ifB (EvT.eqN (b := 0) (EvE.name hkind rfl (by decide)) rfl) (fun h => ?_) fun h => ?_
  · rw [beq_iff_eq] at h
    rw [if_pos h]
    refine EvB.cons ?_
    have hlt : k / 4 / 35 % (q.2.2 - q.2.1 + 1) < q.2.2 - q.2.1 + 1 := Nat.mod_lt _ (by omega)
    refine EvS.assign (p := .int (q.2.1 + k / 4 / 35 % (q.2.2 - q.2.1 + 1) : Nat)) (EvE.addN (EvE.name rfl rfl (by decide)) (EvE.modN (EvE.divC (b := 35) (EvE.name hwh rfl (by decide)) rfl (by omega) (by omega)) (EvE.addN (EvE.subN (EvE.name rfl rfl (by decide)) (EvE.name rfl rfl (by decide)) h4.1) (EvE.intN (b := 1) rfl)) (by omega))) ?_ ?_ ?_
    rotate_left
    · rfl
    · rfl
    refine EvB.nil (EvB.cons ?_)
    refine EvS.ifF (EvT.conv (EvT.eqN (b := 2) (EvE.name hkind rfl (by decide)) rfl) (by rw [h]; rfl)) (EvB.nil ?_)
    exact piece_tail L a cd _ k _ (by omega) _ hm rfl hr
  · rw [beq_eq_false_iff_ne] at h
    rw [if_neg h]
    refine EvB.nil (EvB.cons ?_)
    refine EvS.ifB (EvT.eqN (b := 2) (EvE.name hkind rfl (by decide)) rfl) (fun h2 => ?_) fun h2 => ?_
    · rw [beq_iff_eq] at h2
      rw [if_pos h2]
      refine EvB.cons ?_
      refine EvS.assign (p := .int (min 1114111 (if k / 4 / 35 % 2 = 0 then q.2.1 - 1 else q.2.2 + 1) : Nat)) ?_ ?_ ?_ ?_
      · have hi : ([PV.int ((q.2.1 - 1 : Nat) : Int), PV.int ((q.2.2 + 1 : Nat) : Int)])[k / 4 / 35 % 2]? = some (.int ((if k / 4 / 35 % 2 = 0 then q.2.1 - 1 else q.2.2 + 1 : Nat) : Int)) := by
          rcases Nat.mod_two_eq_zero_or_one (k / 4 / 35) with e | e
          · rw [e]; rfl
          · rw [e]; rfl
        refine EvE.conv (EvE.callB (by decide) (by decide +kernel) (by decide) (.cons (EvE.intN (b := 1114111) rfl) rfl (.cons (EvE.itemTN (i := k / 4 / 35 % 2) (EvE.tup (.cons (EvE.subN (EvE.name rfl rfl (by decide)) (EvE.intN (b := 1) rfl) h0) rfl (.cons (EvE.addN (EvE.name rfl rfl (by decide)) (EvE.intN (b := 1) rfl)) rfl .nil)) (by show 2 ≤ _; rw [sizeLine_eq]; omega)) (EvE.modC (b := 2) (EvE.divC (b := 35) (EvE.name hwh rfl (by decide)) rfl (by omega) (by omega)) rfl (by omega)) (by omega) hi (fun _ _ => rfl)) rfl .nil)) CallOk.min2 rfl (by decide)) ?_
        refine congrArg PV.int ?_
        generalize (if k / 4 / 35 % 2 = 0 then q.2.1 - 1 else q.2.2 + 1) = y
        split <;> omega
      rotate_left
      · rfl
      · rfl
      refine EvB.nil ?_
      exact piece_tail L a cd _ k _ (Nat.min_le_left _ _) _ hm rfl hr
    · rw [beq_eq_false_iff_ne] at h2
      rw [if_neg h2]
      refine EvB.nil ?_
      exact piece_tail L a cd _ k _ h4.2 _ hm rfl hr
end
end Mine

end PartC5m
section PartC5
open PySem PySem.W PyProof.Rows PySem.Calls
set_option Elab.async false
set_option maxRecDepth 100000
set_option linter.unusedVariables false
namespace Mine
def wordPV (q : Cp × Cp) : PV := .tup [.str (mk q.1), .str (mk q.2)]
theorem lenLe {α : Type} {l : List α} (m : Nat) (h : l.length = m) (hm : m ≤ 1000) : l.length ≤ sizeLine := by rw [h, sizeLine_eq]; omega
section
variable {w : World} {mg : Str → Option Value}
set_option maxHeartbeats 4000000 in
theorem piece_ok (x place : Nat) (hx : x < 1000000000) (hpl : place < 100) : FnC w mg 1 "_law_piece" [.int (x : Nat), .int (place : Nat), .lst (runsL.map runPV)] (pcPV (pieceOf x place)) := by
  refine FnC.of ["x", "place", "runs"] (by decide) rfl ?_ (by decide) rfl ?_
  · intro pm cd doc
    exact args3 fun a b c => rfl
  · intro L a cd
    have hgood := good_piece x place
    generalize hk : x / 48 + 13 * place = k
    have hk4 : k / 4 < 2 ^ 40 := by omega
    refine EvB.cons ?_
    refine EvS.assign (p := .int (marksL.getD (x / 6 % 8) 0 : Nat)) ?_ ?_ ?_ ?_
    · refine @EvE.itemTN w mg 0 _ _ _ _ _ (marksL.map fun (m : Nat) => PV.int (m : Nat)) (x / 6 % 8) _ ?_ ?_ (by omega) ?_ (fun _ _ => rfl)
      · refine EvE.tup (ps := marksL.map fun (m : Nat) => PV.int (m : Nat)) ?_ ?_
        · repeat (refine EvL.cons ?_ ?_ ?_; exact EvE.int; rfl)
          exact EvL.nil
        · exact lenLe 8 rfl (by omega)
      · exact EvE.modC (b := 8) (EvE.divC (b := 6) (EvE.name rfl rfl (by decide)) rfl (by omega) (by omega)) rfl (by omega)
      · exact getMap _ marksL _ 0 (by show _ < 8; omega)
    rotate_left
    · rfl
    · rfl
    have hK : ∀ {env : Env} {ρ : Str → Option PV} {c1 c2 : Nat} {q1 q2 q3 q4 q5 q6 q7 : Pos}, ρ "x" = some (.int (x : Nat)) → ρ "place" = some (.int (place : Nat)) → (env.kindOf "x" == some .local || env.kindOf "x" == some .cell) = true → (env.kindOf "place" == some .local || env.kindOf "place" == some .cell) = true →
        EvE w mg 0 env (.BinOp (.BinOp (.Name "x" q1) .FloorDiv (.Constant (.int 48) c1 q2) q3) .Add (.BinOp (.Constant (.int 13) c2 q4) .Mult (.Name "place" q5) q6) q7) ρ (.int (k : Nat)) := by
      intro env ρ c1 c2 q1 q2 q3 q4 q5 q6 q7 h1 h2 h3 h4
      rw [← hk]
      exact EvE.addN (EvE.divC (b := 48) (EvE.name h1 h3 (by decide)) rfl (by omega) (by omega)) (EvE.mulC (a := 13) (EvE.name h2 h4 (by decide)) rfl (by omega))
    refine EvB.cons ?_
    refine EvS.assign (p := .int (k % 4 : Nat)) (EvE.modC (b := 4) (hK rfl rfl rfl rfl) rfl (by omega)) ?_ ?_ ?_
    rotate_left
    · rfl
    · rfl
    refine EvB.cons ?_
    refine EvS.assign (p := .int (k / 4 : Nat)) (EvE.divC (b := 4) (hK rfl rfl rfl rfl) rfl (by omega) (by omega)) ?_ ?_ ?_
    rotate_left
    · rfl
    · rfl
    have hpc : pieceOf x place = (if k % 4 = 3 then (if k / 4 % 20 < 8 then ⟨marksL.getD (x / 6 % 8) 0, (wordsL.getD (k / 4 % 20) ([], [])).1, (wordsL.getD (k / 4 % 20) ([], [])).2, 7⟩
        else ⟨marksL.getD (x / 6 % 8) 0, [startsL.getD (k / 4 % 20 - 8) 0 + k / 4 / 20 % 26], [97 + k / 4 / 20 % 26], 7⟩) else pieceOf x place) := by
      subst hk
      unfold pieceOf
      dsimp only
      split <;> (try split) <;> first | rfl | (rename_i h; simp [h])
    refine EvB.cons ?_
    refine EvS.ifB (EvT.and2 (EvT.eqN (b := 3) (EvE.name rfl rfl (by decide)) rfl) (fun _ => EvT.ltN (b := 8) (EvE.modC (b := 20) (EvE.name rfl rfl (by decide)) rfl (by omega)) (EvE.intN rfl) (by with_unfolding_all rfl))) (fun h => ?_) fun h => ?_
    · rw [Bool.and_eq_true, beq_iff_eq, decide_eq_true_iff] at h
      obtain ⟨h3, h8⟩ := h
      have hres : pieceOf x place = ⟨marksL.getD (x / 6 % 8) 0, (wordsL.getD (k / 4 % 20) ([], [])).1, (wordsL.getD (k / 4 % 20) ([], [])).2, 7⟩ := by rw [hpc, if_pos h3, if_pos h8]
      rw [hres]
      refine EvB.cons ?_
      refine EvS.assign (p := .lst (wordsL.map wordPV)) ?_ ?_ ?_ ?_
      · refine EvE.list (ps := wordsL.map wordPV) ?_ ?_
        · repeat (refine EvL.cons (p := wordPV _) ?_ ?_ ?_; exact EvE.tup (.cons EvE.str rfl (.cons EvE.str rfl .nil)) (by show 2 ≤ _; rw [sizeLine_eq]; omega); rfl)
          exact EvL.nil
        · exact lenLe 8 rfl (by omega)
      rotate_left
      · rfl
      · rfl
      have hw : ∀ {env : Env} {ρ : Str → Option PV} {c1 : Nat} {q1 q2 q3 q4 q5 : Pos}, ρ "words" = some (.lst (wordsL.map wordPV)) → ρ "which" = some (.int (k / 4 : Nat)) → (env.kindOf "words" == some .local || env.kindOf "words" == some .cell) = true → (env.kindOf "which" == some .local || env.kindOf "which" == some .cell) = true →
          EvE w mg 0 env (.Subscript (.Name "words" q1) (.BinOp (.Name "which" q2) .Mod (.Constant (.int 20) c1 q3) q4) q5) ρ (wordPV (wordsL.getD (k / 4 % 20) ([], []))) := fun h1 h2 h4 h5 =>
        EvE.itemLN (l := wordsL.map wordPV) (i := k / 4 % 20) (EvE.name h1 h4 (by decide)) (EvE.modC (b := 20) (EvE.name h2 h5 (by decide)) rfl (by omega)) (by omega) (getMap _ wordsL _ ([], []) (by show _ < 8; omega)) (fun _ _ => rfl)
      refine EvB.cons ?_
      refine EvS.ret (p := pcPV ⟨marksL.getD (x / 6 % 8) 0, (wordsL.getD (k / 4 % 20) ([], [])).1, (wordsL.getD (k / 4 % 20) ([], [])).2, 7⟩) ?_ rfl
      refine EvE.tup (ps := [.int (marksL.getD (x / 6 % 8) 0 : Nat), .str (mk (wordsL.getD (k / 4 % 20) ([], [])).1), .str (mk (wordsL.getD (k / 4 % 20) ([], [])).2), .int (7 : Nat)]) ?_ small4
      refine .cons ?_ ?_ (.cons ?_ ?_ (.cons ?_ ?_ (.cons ?_ ?_ .nil)))
      · exact EvE.name rfl rfl (by decide)
      · rfl
      · refine EvE.itemTN (l := [.str (mk (wordsL.getD (k / 4 % 20) ([], [])).1), .str (mk (wordsL.getD (k / 4 % 20) ([], [])).2)]) (i := 0) ?_ ?_ (by omega) rfl (fun _ _ => rfl)
        · refine hw ?_ ?_ ?_ ?_ <;> rfl
        · exact EvE.intN rfl
      · rfl
      · refine EvE.itemTN (l := [.str (mk (wordsL.getD (k / 4 % 20) ([], [])).1), .str (mk (wordsL.getD (k / 4 % 20) ([], [])).2)]) (i := 1) ?_ ?_ (by omega) rfl (fun _ _ => rfl)
        · refine hw ?_ ?_ ?_ ?_ <;> rfl
        · exact EvE.intN rfl
      · rfl
      · exact EvE.intN rfl
      · rfl
    · refine EvB.nil (EvB.cons ?_)
      refine EvS.ifB (EvT.eqN (b := 3) (EvE.name rfl rfl (by decide)) rfl) (fun h3 => ?_) fun h3 => ?_
      · rw [beq_iff_eq] at h3
        have h8 : ¬ k / 4 % 20 < 8 := fun q => by rw [h3] at h; simp [q] at h
        have hres : pieceOf x place = ⟨marksL.getD (x / 6 % 8) 0, [startsL.getD (k / 4 % 20 - 8) 0 + k / 4 / 20 % 26], [97 + k / 4 / 20 % 26], 7⟩ := by rw [hpc, if_pos h3, if_neg h8]
        rw [hres]
        have hst : startsL.getD (k / 4 % 20 - 8) 0 ≤ 120432 := by
          have h1 : (startsL.all fun m => decide (m ≤ 120432)) = true := by decide
          have := List.all_eq_true.mp h1 _ (getD_mem' (l := startsL) (d := 0) (show k / 4 % 20 - 8 < 12 by omega))
          simpa using this
        refine EvB.cons ?_
        refine EvS.assign (p := .int (k / 4 / 20 % 26 : Nat)) (EvE.modC (b := 26) (EvE.divC (b := 20) (EvE.name rfl rfl (by decide)) rfl (by omega) (by omega)) rfl (by omega)) ?_ ?_ ?_
        rotate_left
        · rfl
        · rfl
        refine EvB.cons ?_
        refine EvS.assign (p := .int (startsL.getD (k / 4 % 20 - 8) 0 : Nat)) ?_ ?_ ?_ ?_
        · refine @EvE.itemTN w mg 0 _ _ _ _ _ (startsL.map fun (m : Nat) => PV.int (m : Nat)) (k / 4 % 20 - 8) _ ?_ ?_ (by omega) ?_ (fun _ _ => rfl)
          · refine EvE.tup (ps := startsL.map fun (m : Nat) => PV.int (m : Nat)) ?_ ?_
            · repeat (refine EvL.cons ?_ ?_ ?_; exact EvE.int; rfl)
              exact EvL.nil
            · exact lenLe 12 rfl (by omega)
          · exact EvE.subN (b := 8) (EvE.modC (b := 20) (EvE.name rfl rfl (by decide)) rfl (by omega)) (EvE.intN rfl) (by omega)
          · exact getMap _ startsL _ 0 (by show _ < 12; omega)
        rotate_left
        · rfl
        · rfl
        refine EvB.cons ?_
        refine EvS.ret (p := pcPV ⟨marksL.getD (x / 6 % 8) 0, [startsL.getD (k / 4 % 20 - 8) 0 + k / 4 / 20 % 26], [97 + k / 4 / 20 % 26], 7⟩) ?_ rfl
        refine EvE.tup (.cons (EvE.name rfl rfl (by decide)) rfl (.cons (EvE.chrN (EvE.addN (EvE.name rfl rfl (by decide)) (EvE.name rfl rfl (by decide))) (by omega) rfl rfl) rfl (.cons (EvE.chrN (EvE.addN (a := 97) (EvE.intN rfl) (EvE.name rfl rfl (by decide))) (by omega) rfl rfl) rfl (.cons (EvE.intN rfl) rfl .nil)))) small4
      · rw [beq_eq_false_iff_ne] at h3
        refine EvB.nil ?_
        exact piece_mid L a cd x place k hk hk4 h3 _ rfl rfl rfl rfl
end
end Mine

end PartC5
section PartC6a
open PySem PySem.W PyProof.Rows PySem.Calls
set_option Elab.async false
set_option maxRecDepth 100000
set_option linter.unusedVariables false
namespace Mine
theorem expand_join (m : Nat) : ∀ parts : List Str, (∀ p ∈ parts, 34 ∉ p.cps.toList) → expand m (Str.join ⟨#[34]⟩ parts).cps.toList = (Str.join (mk (rep m)) parts).cps.toList
  | [], _ => rfl
  | [p], h => expand_plain (h p (List.mem_singleton.mpr rfl))
  | p :: q :: r, h => by
    have ih := expand_join m (q :: r) fun a ha => h a (List.mem_cons_of_mem _ ha)
    show expand m (p ++ ⟨#[34]⟩ ++ Str.join ⟨#[34]⟩ (q :: r)).cps.toList = (p ++ mk (rep m) ++ Str.join (mk (rep m)) (q :: r)).cps.toList
    simp only [Str.cps_append, Array.toList_append]
    rw [expand_append, expand_append, ih, expand_plain (h p (List.mem_cons_self ..))]
    show p.cps.toList ++ expand m [34] ++ _ = _
    have e : expand m [34] = rep m := by show rep m ++ [] = _; simp
    rw [e]
    show _ = p.cps.toList ++ (rep m).toArray.toList ++ _
    simp
theorem replace_marks (l : Cp) (m : Nat) : Txt.replace (mk l) (mk [34]) (mk (rep m)) = mk (expand m l) := by
  have e : (Txt.replace (mk l) ⟨#[34]⟩ (mk (rep m))).cps.toList = expand m l := by
    rw [StrLaws.replace_one, ← expand_join m _ (StrLaws.split_free (mk l) 34), StrLaws.join_split]
    show expand m l.toArray.toList = _
    simp
  show Txt.replace (mk l) ⟨#[34]⟩ (mk (rep m)) = mk (expand m l)
  generalize Txt.replace (mk l) ⟨#[34]⟩ (mk (rep m)) = z at e
  obtain ⟨c⟩ := z
  unfold mk
  congr 1
  rw [← e]
theorem fold_rep (n : Nat) (acc : Array Nat) : (List.replicate n (#[34] : Array Nat)).foldl (· ++ ·) acc = acc ++ (rep n).toArray := by
  induction n generalizing acc with
  | zero => simp [rep]
  | succ n ih =>
    rw [List.replicate_succ, List.foldl_cons, ih]
    have : rep (n + 1) = [34] ++ rep n := by rw [Nat.add_comm, rep_add]; rfl
    rw [this]
    simp
theorem mul_marks (n : Nat) : Txt.mul (mk [34]) (n : Int) = mk (rep n) := by
  unfold Txt.mul
  split
  · have : n = 0 := by omega
    subst this; rfl
  · split
    · rename_i h
      have : n = 1 := by
        have h' : ((n : Int) == 1 || (1 : Nat) == 0) = true := h
        simp at h'
        omega
      subst this; rfl
    · have := fold_rep n #[]
      show (⟨(List.replicate (n : Int).toNat #[34]).foldl (· ++ ·) #[]⟩ : Str) = _
      rw [Int.toNat_natCast, this]
      unfold mk; simp
theorem mulOk_marks (n : Nat) (hn : n ≤ 1000000) : MulOk (mk [34]) (n : Int) := by
  refine ⟨?_, fun _ _ => ?_, fun _ _ => ?_⟩
  · rw [decide_eq_false (by omega), decide_eq_false (by omega)]; rfl
  · rw [mk_len]
    show ¬ ((1 : Nat) : Int) > _
    have h : 1 ≤ ((2 : Int) ^ 63 - 1) / (n : Int) ∨ n = 0 := by
      rcases Nat.eq_zero_or_pos n with h | h
      · exact .inr h
      · refine .inl ?_
        exact Int.le_ediv_of_mul_le (by omega) (by omega)
    rename_i h1 _
    rcases h with h | h
    · omega
    · omega
  · unfold Builtin.Str.tooLong
    rw [mk_len, sizeLine_eq]
    exact decide_eq_false (by simp; omega)
def stPV (q : Nat × Nat) : PV := .tup [.int (q.1 : Nat), .int (q.2 : Nat)]
def doneAt (t : Nat) (p : PV) : Option PV := match p with
  | .tup [.int o, .int d] => if o = (t : Int) then some (.int d) else none
  | _ => none
theorem done_eq (t : Nat) (st : List (Nat × Nat)) : (st.map stPV).filterMap (doneAt t) = (((st.filter fun q => q.1 == t).map (·.2)).map fun (d : Nat) => (d : Int)).map PV.int := by
  induction st with
  | nil => rfl
  | cons q r ih =>
    rw [List.map_cons, List.filterMap_cons]
    have e : doneAt t (stPV q) = if ((q.1 : Nat) : Int) = (t : Int) then some (.int (q.2 : Nat)) else none := rfl
    by_cases h : q.1 = t
    · rw [e, if_pos (by omega), List.filter_cons_of_pos (by simpa using h)]
      simp only [List.map_cons]
      rw [ih]
    · rw [e, if_neg (by omega), List.filter_cons_of_neg (by simpa using h), ih]
theorem foldr_mem : ∀ (l : List Nat) (n : Nat), l.foldr min n ∈ l ++ [n] ∧ ∀ j ∈ l ++ [n], l.foldr min n ≤ j
  | [], n => ⟨by simp, by simp⟩
  | a :: l, n => by
    obtain ⟨h1, h2⟩ := foldr_mem l n
    show min a (l.foldr min n) ∈ _ ∧ ∀ j ∈ _, min a (l.foldr min n) ≤ j
    refine ⟨?_, fun j hj => ?_⟩
    · rcases Nat.le_total a (l.foldr min n) with h | h
      · rw [Nat.min_eq_left h]; exact .head _
      · rw [Nat.min_eq_right h]; exact .tail _ h1
    · rcases List.mem_cons.mp hj with rfl | hj
      · exact Nat.min_le_left _ _
      · exact Nat.le_trans (Nat.min_le_right _ _) (h2 j hj)
end Mine

end PartC6a
section PartC6
open PySem PySem.W PyProof.Rows PySem.Calls
set_option Elab.async false
set_option maxRecDepth 100000
set_option linter.unusedVariables false
namespace Mine
section
variable {w : World} {mg : Str → Option Value} {n : Nat} {env : Env} {ρ : Str → Option PV}
theorem EvE.pow2 {r : Expr} {b k : Nat} {i : Int} {p pos : Pos} (hr : EvE w mg n env r ρ (.int (b : Nat))) (hi : i = 2) (hb : b ≤ 1000) : EvE w mg n env (.BinOp (.Constant (.int i) k p) .Pow r pos) ρ (.int ((2 ^ b : Nat) : Int)) := by
  subst hi
  have := EvE.bin (op := .Pow) (pos := pos) (l := .Constant (.int 2) k p) EvE.int hr (Op2.powI (a := 2) (b := (b : Int)) (by omega) (by omega) (by decide))
  rw [Int.toNat_natCast] at this
  rw [Int.natCast_pow]
  exact this
structure LInv (ps : List Pc) (op rd : Nat) (f : Bool) (st : List (Nat × Nat)) (ρ : Str → Option PV) : Prop where
  opened : ρ "opened" = some (.int (op : Nat))
  reads : ρ "reads" = some (.int (rd : Nat))
  folded : ρ "folded" = some (.bool f)
  struck : ρ "struck" = some (.lst (st.map stPV))
def LAt (ps : List Pc) (rd : Nat) (f : Bool) (st : List (Nat × Nat)) (rest : Option (List Pc)) (i : Nat) (ρ : Str → Option PV) : Prop :=
  ∃ told ahead, ρ "told" = some (.str (mk told)) ∧ ρ "ahead" = some (.int (ahead : Nat)) ∧ ahead ≤ 8 * i ∧
    told ++ (match rest with | some r => leftS 1 rd f st ahead r | none => rep (ahead / 2 ^ rd)) = leftS 1 rd f st 0 ps
set_option maxHeartbeats 2000000 in
theorem left_end (L a : Addr) (cd : Value) (ps : List Pc) (op rd : Nat) (f : Bool) (st : List (Nat × Nat)) (hg : ∀ p ∈ ps, Good p) (h8 : ps.length ≤ 8) (hop : op ≤ 2) (hrd : rd ≤ 8) (ρ : Str → Option PV) (I : LInv ps op rd f st ρ) (i : Nat) (hi : i ≤ 8) (J : LAt ps rd f st none i ρ) :
    EvB w mg 0 (envOfC "_law_left" (scopeOf "_law_left") L a cd) ((bodyOf "_law_left").drop 3) ρ (retIs (.str (mk (leftS (2 ^ op) rd f st 0 ps)))) := by
  obtain ⟨told, ahead, h1, h2, h3, h4⟩ := J
  have h4' : told ++ rep (ahead / 2 ^ rd) = leftS 1 rd f st 0 ps := h4
  have hlen := leftS_len 1 rd f st ps 0 hg
  have hdv : ahead / 2 ^ rd ≤ ahead := Nat.div_le_self _ _
  have hl2 : told.length ≤ (leftS 1 rd f st 0 ps).length := by rw [← h4', List.length_append]; omega
  have hop4 : 2 ^ op ≤ 4 := Nat.le_trans (Nat.pow_le_pow_right (by omega) hop) (by decide)
  refine EvB.cons ?_
  refine EvS.assign (p := .str (mk (leftS 1 rd f st 0 ps))) ?_ ?_ ?_ ?_
  · refine EvE.conv (EvE.bin (EvE.name h1 rfl (by decide)) (EvE.bin EvE.str (EvE.conv (EvE.bin (EvE.name h2 rfl (by decide)) (EvE.pow2 (EvE.name I.reads rfl (by decide)) rfl (by omega)) (Op2.divI (by have := Nat.two_pow_pos rd; omega) ?_)) (congrArg PV.int (fdivN _ _))) (Op2.mulS (mulOk_marks _ (by omega)))) (Op2.addS ?_)) ?_
    · have : 2 ^ rd ≤ 256 := Nat.le_trans (Nat.pow_le_pow_right (by omega) hrd) (by decide)
      rw [Int.natAbs_natCast]
      omega
    · show (mk told).length + (Txt.mul (mk [34]) _).length ≤ _
      rw [mul_marks, mk_len, mk_len, sizeLine_eq]
      unfold rep
      rw [List.length_replicate]
      omega
    · refine congrArg PV.str ?_
      show mk told ++ Txt.mul (mk [34]) _ = _
      rw [mul_marks, ← mk_append, h4']
  rotate_left
  · rfl
  · rfl
  refine EvB.cons ?_
  refine EvS.ret (EvE.replaceM (m := ((2 ^ op : Nat) : Int)) (EvE.name rfl rfl (by decide)) (EvE.pow2 (EvE.name I.opened rfl (by decide)) rfl (by omega)) ?_ ?_ ?_ rfl rfl) ?_
  · have := Nat.two_pow_pos op; omega
  · exact mulOk_marks _ (by omega)
  · show _ + _ * (Txt.mul (mk [34]) _).length ≤ _
    rw [mul_marks, mk_len, mk_len]
    unfold rep
    rw [List.length_replicate]
    have h96 : (leftS 1 rd f st 0 ps).length ≤ 96 := by omega
    have h97 := Nat.mul_le_mul (show (leftS 1 rd f st 0 ps).length + 1 ≤ 97 by omega) hop4
    omega
  · show PV.str (Txt.replace _ (mk [34]) (Txt.mul (mk [34]) _)) = PV.str _
    rw [mul_marks, replace_marks, expand_left _ _ _ _ _ _ _ hg, Nat.mul_one]
end
end Mine

end PartC6
section PartC7
open PySem PySem.W PyProof.Rows PySem.Calls
set_option Elab.async false
set_option maxRecDepth 100000
set_option linter.unusedVariables false
namespace Mine
section
variable {w : World} {mg : Str → Option Value}
set_option maxHeartbeats 4000000 in
theorem left_ok (ps : List Pc) (op rd : Nat) (f : Bool) (st : List (Nat × Nat)) (hg : ∀ p ∈ ps, Good p) (h8 : ps.length ≤ 8) (hop : op ≤ 2) (hrd : rd ≤ 8) (hst : st.length ≤ 1000) :
    FnC w mg 1 "_law_left" [.lst (ps.map pcPV), .int (op : Nat), .int (rd : Nat), .bool f, .lst (st.map stPV)] (.str (mk (leftS (2 ^ op) rd f st 0 ps))) := by
  refine FnC.of ["pieces", "opened", "reads", "folded", "struck"] (by decide) rfl ?_ (by decide) rfl ?_
  · intro pm cd doc
    exact args5 fun a b c d e => rfl
  · intro L a cd
    have hp2 : 2 ^ rd ≤ 256 := Nat.le_trans (Nat.pow_le_pow_right (by omega) hrd) (by decide)
    have htot := leftS_len 1 rd f st ps 0 hg
    refine EvB.cons (EvS.assign EvE.str ?_ rfl rfl)
    refine EvB.cons (EvS.assign EvE.int ?_ rfl rfl)
    refine EvB.cons ?_
    refine EvS.for (ps := ps.map pcPV) (EvI.list (EvE.name rfl rfl (by decide)) (.inr ⟨_, _, _, rfl⟩) (.inr fun p hp => by obtain ⟨q, _, rfl⟩ := List.mem_map.mp hp; exact ⟨_, rfl⟩))
      (fun i ρ => LInv ps op rd f st ρ ∧ LAt ps rd f st (some (ps.drop i)) i ρ) ?_ ?_ ?_ ?_ ?_
    · exact ⟨⟨rfl, rfl, rfl, rfl⟩, [], 0, rfl, rfl, by omega, rfl⟩
    · rintro i p ρ hp ⟨I, told, ahead, h1, h2, h3, h4⟩
      rw [List.getElem?_map] at hp
      obtain ⟨pc, hpc, rfl⟩ := Option.map_eq_some_iff.mp hp
      have hilt : i < ps.length := (List.getElem?_eq_some_iff.mp hpc).1
      have hdrop : ps.drop i = pc :: ps.drop (i + 1) := by
        rw [List.drop_eq_getElem_cons hilt]
        congr 1
        exact (List.getElem?_eq_some_iff.mp hpc).2
      have gp : Good pc := hg pc (List.mem_of_getElem? hpc)
      have hmk := gp.marks
      have h4' : told ++ leftS 1 rd f st ahead (pc :: ps.drop (i + 1)) = leftS 1 rd f st 0 ps := by rw [← hdrop]; exact h4
      have htl : told.length ≤ 96 := by
        have : told.length ≤ (leftS 1 rd f st 0 ps).length := by rw [← h4', List.length_append]; omega
        omega
      refine ⟨_, .tup [(_, _), (_, _), (_, _), (_, _)] rfl rfl rfl, ?_⟩
      refine EvB.cons ?_
      refine EvS.assign (p := .int ((ahead + pc.marks : Nat) : Int)) (EvE.addN (EvE.name h2 rfl (by decide)) (EvE.name rfl rfl (by decide))) ?_ ?_ ?_
      rotate_left
      · rfl
      · rfl
      refine EvB.cons ?_
      generalize hgo : goneOf st rd pc.table = gone
      have hgone : gone ≤ rd + 1 := by rw [← hgo]; exact gone_le_foldr
      refine EvS.assign (p := .int (gone : Nat)) ?_ ?_ ?_ ?_
      · refine EvE.callB (by decide) (by decide +kernel) (by decide) (.cons (EvE.conv (EvE.bin (a := .lst ((st.map stPV).filterMap (doneAt pc.table))) (b := .lst [.int ((rd + 1 : Nat) : Int)]) ?_ ?_ (Op2.addL ?_)) ?_) rfl .nil) (CallOk.minL (is := (((st.filter fun q => q.1 == pc.table).map (·.2)) ++ [rd + 1]).map fun (d : Nat) => (d : Int)) ?_ ?_) rfl (by decide)
        · refine EvE.comp (cl := [("table", L + 1)]) (ys := ["table"]) (doneAt pc.table) ?_ ?_ ?_ ?_ (fun _ => rfl)
          · exact ⟨rfl, rfl, rfl, rfl, rfl, fun y hy => by obtain rfl := List.mem_singleton.mp hy; exact ⟨rfl, rfl⟩, (fun y c hc => by
              have h : List.lookup y [(("table" : Str), L + 1)] = some c := hc
              rw [List.lookup_cons] at h
              split at h
              · cases h; exact ⟨"table", rfl⟩
              · cases h), rfl, rfl⟩
          · exact EvI.list (EvE.name I.struck rfl (by decide)) (.inr ⟨_, _, _, rfl⟩) (.inr fun p hp => by obtain ⟨q, _, rfl⟩ := List.mem_map.mp hp; exact ⟨_, rfl⟩)
          · rw [List.length_map, sizeLine_eq]; omega
          · intro C p hp
            obtain ⟨q, hq, rfl⟩ := List.mem_map.mp hp
            refine ⟨_, ((q.1 : Int) == (pc.table : Int)), .tup [(_, _), (_, _)] rfl rfl rfl, .one (EvT.cmp (b := .int (pc.table : Nat)) (EvE.name rfl rfl (by decide)) (EvE.name rfl rfl (by decide)) Op2.eqI (by with_unfolding_all rfl)), fun hb => ?_, fun hb => ?_⟩
            · rw [beq_iff_eq] at hb
              exact ⟨.int (q.2 : Nat), if_pos hb, rfl, EvE.name rfl rfl (by decide)⟩
            · rw [beq_eq_false_iff_ne] at hb
              exact if_neg hb
        · exact EvE.list (.cons (EvE.addN (EvE.name I.reads rfl (by decide)) (EvE.intN (b := 1) rfl)) rfl .nil) (by show 1 ≤ _; rw [sizeLine_eq]; omega)
        · have := List.length_filterMap_le (doneAt pc.table) (st.map stPV)
          rw [List.length_map] at this
          rw [sizeLine_eq]
          simp only [List.length_cons, List.length_nil]
          omega
        · rw [done_eq]
          simp
        · rw [← hgo]
          exact List.mem_map.mpr ⟨_, (foldr_mem _ _).1, rfl⟩
        · intro j hj
          obtain ⟨d, hd, rfl⟩ := List.mem_map.mp hj
          have := (foldr_mem _ _).2 d hd
          rw [← hgo]
          exact Int.ofNat_le.mpr this
      rotate_left
      · rfl
      · rfl
      refine EvB.cons ?_
      have hmin : (if ((rd : Nat) : Int) < ((gone : Nat) : Int) then ((rd : Nat) : Int) else ((gone : Nat) : Int)) = ((min gone rd : Nat) : Int) := by split <;> omega
      have hunf : leftS 1 rd f st ahead (pc :: ps.drop (i + 1)) = (if (ahead + pc.marks) % 2 ^ min gone rd ≠ 0 then rep (1 * ((ahead + pc.marks) / 2 ^ rd))
          else if rd < gone then rep (1 * ((ahead + pc.marks) / 2 ^ rd)) ++ (if f then pc.small else pc.sign) ++ leftS 1 rd f st 0 (ps.drop (i + 1)) else leftS 1 rd f st (ahead + pc.marks) (ps.drop (i + 1))) := by
        rw [leftS, hgo]
      rw [hunf] at h4'
      refine EvS.ifB (EvT.cmp (EvE.modN (b := 2 ^ min gone rd) (EvE.name rfl rfl (by decide)) (EvE.pow2 (EvE.conv (EvE.callB (by decide) (by decide +kernel) (by decide) (.cons (EvE.name rfl rfl (by decide)) rfl (.cons (EvE.name I.reads rfl (by decide)) rfl .nil)) CallOk.min2 rfl (by decide)) (congrArg PV.int hmin)) rfl (by omega)) (Nat.two_pow_pos _)) EvE.int Op2.neI (by with_unfolding_all rfl)) (fun h => ?_) fun h => ?_
      · have hne : (ahead + pc.marks) % 2 ^ min gone rd ≠ 0 := by
          intro e
          rw [e] at h
          simp at h
        rw [if_pos hne, Nat.one_mul] at h4'
        refine EvB.cons (EvS.brk ?_)
        exact left_end L a cd ps op rd f st hg h8 hop hrd _ ⟨I.opened, I.reads, I.folded, I.struck⟩ (i + 1) (by omega) ⟨told, ahead + pc.marks, h1, rfl, by omega, h4'⟩
      · have he : ¬ (ahead + pc.marks) % 2 ^ min gone rd ≠ 0 := by
          intro e
          have : ((((ahead + pc.marks) % 2 ^ min gone rd : Nat) : Int) != 0) = true := by
            rw [bne_iff_ne]; omega
          rw [this] at h
          cases h
        rw [if_neg he, Nat.one_mul] at h4'
        refine EvB.nil (EvB.cons ?_)
        refine EvS.ifB (EvT.cmp (EvE.name rfl rfl (by decide)) (EvE.name I.reads rfl (by decide)) Op2.gtI (by with_unfolding_all rfl)) (fun hgt => ?_) fun hgt => ?_
        · have hgt' : rd < gone := by have := of_decide_eq_true hgt; omega
          rw [if_pos hgt'] at h4'
          have hq : (ahead + pc.marks) / 2 ^ rd ≤ ahead + pc.marks := Nat.div_le_self _ _
          have hol := gp.outLen f
          refine EvB.cons ?_
          refine EvS.assign (p := .str (mk (told ++ rep ((ahead + pc.marks) / 2 ^ rd) ++ outOf f pc))) ?_ ?_ ?_ ?_
          · refine EvE.conv (EvE.bin (EvE.bin (EvE.name h1 rfl (by decide)) (EvE.bin EvE.str (EvE.conv (EvE.bin (EvE.name rfl rfl (by decide)) (EvE.pow2 (EvE.name I.reads rfl (by decide)) rfl (by omega)) (Op2.divI (by have := Nat.two_pow_pos rd; omega) ?_)) (congrArg PV.int (fdivN _ _))) (Op2.mulS (mulOk_marks _ (by omega)))) (Op2.addS ?_))
              (EvE.conv (EvE.ifExp (c := f) (p := .str (mk pc.small)) (q := .str (mk pc.sign)) (EvT.val (EvE.name I.folded rfl (by decide)) (fun _ => rfl)) (fun _ => EvE.name rfl rfl (by decide)) (fun _ => EvE.name rfl rfl (by decide))) (show _ = PV.str (mk (outOf f pc)) by cases f <;> rfl)) (Op2.addS ?_)) ?_
            · rw [Int.natAbs_natCast]; omega
            · show (mk told).length + (Txt.mul (mk [34]) _).length ≤ _
              rw [mul_marks, mk_len, mk_len, sizeLine_eq]
              unfold rep
              rw [List.length_replicate]
              omega
            · show (mk told ++ Txt.mul (mk [34]) _).length + _ ≤ _
              rw [mul_marks, ← mk_append, mk_len, mk_len, sizeLine_eq, List.length_append]
              unfold rep
              rw [List.length_replicate]
              omega
            · refine congrArg PV.str ?_
              show mk told ++ Txt.mul (mk [34]) _ ++ _ = _
              rw [mul_marks, mk_append, mk_append]
          rotate_left
          · rfl
          · rfl
          refine EvB.cons (EvS.assign EvE.int (EvB.nil (EvB.nil ?_)) rfl rfl)
          refine ⟨⟨I.opened, I.reads, I.folded, I.struck⟩, told ++ rep ((ahead + pc.marks) / 2 ^ rd) ++ outOf f pc, 0, rfl, rfl, by omega, ?_⟩
          rw [← h4']
          simp only [List.append_assoc]
        · have hgt' : ¬ rd < gone := by have := of_decide_eq_false hgt; omega
          rw [if_neg hgt'] at h4'
          exact EvB.nil (EvB.nil ⟨⟨I.opened, I.reads, I.folded, I.struck⟩, told, ahead + pc.marks, h1, rfl, by omega, h4'⟩)
    · rintro ρ ⟨I, told, ahead, h1, h2, h3, h4⟩
      rw [List.length_map] at h3 h4
      have h4' : told ++ leftS 1 rd f st ahead (ps.drop ps.length) = leftS 1 rd f st 0 ps := h4
      rw [List.drop_length] at h4'
      have e : leftS 1 rd f st ahead [] = rep (ahead / 2 ^ rd) := by rw [leftS, Nat.one_mul]
      rw [e] at h4'
      exact left_end L a cd ps op rd f st hg h8 hop hrd _ I ps.length h8 ⟨told, ahead, h1, h2, h3, h4'⟩
    · rfl
    · exact fun _ => rfl
end
end Mine

end PartC7
section PartD1
open PySem PySem.W PyProof.Rows PySem.Calls
set_option Elab.async false
set_option maxRecDepth 100000
set_option linter.unusedVariables false
namespace Mine
mutual
theorem Rep.keepU {h h' : Heap} (k : h.UpToSlots h') : ∀ (p : PV) {v : Value}, Rep h p v → Rep h' p v
  | .none, _, x => x
  | .bool _, _, x => x
  | .int _, _, x => x
  | .str _, _, x => x
  | .tup l, _, x => by
    unfold Rep at x ⊢
    obtain ⟨a, vs, e, ⟨o, ho, hc, n, hd⟩, r⟩ := x
    obtain ⟨sl, hs⟩ := k a o ho fun ws q => by rw [hd] at q; cases q
    exact ⟨a, vs, e, ⟨_, hs, hc, n, hd⟩, RepL.keepU k l r⟩
  | .lst l, _, x => by
    unfold Rep at x ⊢
    obtain ⟨a, vs, e, ⟨o, ho, hc, n, hd⟩, r⟩ := x
    obtain ⟨sl, hs⟩ := k a o ho fun ws q => by rw [hd] at q; cases q
    exact ⟨a, vs, e, ⟨_, hs, hc, n, hd⟩, RepL.keepU k l r⟩
  | .raw _, _, x => x
theorem RepL.keepU {h h' : Heap} (k : h.UpToSlots h') : ∀ (l : List PV) {vs : List Value}, RepL h l vs → RepL h' l vs
  | [], _, x => x
  | p :: l, _, x => by
    unfold RepL at x ⊢
    obtain ⟨v, r, e, a, b⟩ := x
    exact ⟨v, r, e, Rep.keepU k p a, RepL.keepU k l b⟩
end
theorem Sta.up {w : World} {mg : Str → Option Value} {env : Env} {base h h' : Heap} {ρ : Str → Option PV} (S : Sta w mg env base h ρ) (kb : base.StaysIn h') (k : h.UpToSlots h') : Sta w mg env base h' ρ := by
  have kc : ∀ c ov, h.IsCell c ov → h'.IsCell c ov := fun c ov ⟨o, ho, hd⟩ => by
    obtain ⟨sl, hs⟩ := k c o ho fun ws q => by rw [hd] at q; cases q
    exact ⟨_, hs, hd⟩
  refine ⟨S.kind, S.glob, S.bi, S.W, kb, ?_, fun x hx => ?_, fun x c hc => ?_⟩
  · obtain ⟨m, hn, hm⟩ := S.loc
    exact ⟨m, k.ns hn, fun x p a b => let ⟨v, e, r⟩ := hm x p a b; ⟨v, e, Rep.keepU k p r⟩⟩
  · obtain ⟨c, ov, hc, hi, hm⟩ := S.cel x hx
    exact ⟨c, ov, hc, kc _ _ hi, fun p hp => let ⟨v, e, r⟩ := hm p hp; ⟨v, e, Rep.keepU k p r⟩⟩
  · obtain ⟨ov, hi⟩ := S.cells x c hc
    exact ⟨ov, kc _ _ hi⟩
theorem funFrames_keep {h h' base : Heap} : ∀ {l : List Env}, h.FunFrames base l → (∀ x ∈ l, ∀ L, x.frame = some L → ∀ o, h.get? L = some o → h'.get? L = some o) → h'.FunFrames base l
  | [], _, _ => trivial
  | env :: r, hl, k => by
    obtain ⟨h1, ⟨L, o, hf, hb, ho, hn⟩, h3⟩ := hl
    exact ⟨h1, ⟨L, o, hf, hb, k env (.head _) L hf o ho, hn⟩, funFrames_keep h3 fun x hx => k x (.tail _ hx)⟩
/-- a frame above other frames, all above a base -/
structure Stack (env : Env) (outer : List Env) (base : Heap) : Prop where
  own : Own env base
  apart : ∀ x ∈ outer, ∀ L, x.frame = some L → L ≠ env.locals ∧ ∀ y, env.cells.lookup y ≠ some L
  frame : env.frame = some env.locals
section
variable {w : World} {mg : Str → Option Value} {n : Nat} {env : Env} {outer : List Env} {base : Heap} {ρ : Str → Option PV}
def EvW (w : World) (mg : Str → Option Value) (n : Nat) (env : Env) (outer : List Env) (base : Heap) (b : List Stmt) (ρ : Str → Option PV) (P : Out → (Str → Option PV) → Prop) : Prop :=
  ∀ (A : Around) (s : Shared) (Q : Flow → Shared → Prop) (E : Value → Shared → Prop), AOk n A → A.frames = some (env :: outer) → Stack env outer base → Sta w mg env base s.heap ρ → 0 < s.toks → s.heap.FunFrames base outer →
    (∀ o ρ' f h' tk, 0 < tk → P o ρ' → OutRep h' o f → Sta w mg env base h' ρ' → h'.FunFrames base outer → Q f { s with heap := h', toks := tk }) → wpAny (model p0 w) A (execs b env) Q E s
theorem fun_ext {h h' : Heap} (K : Stack env outer base) (hl : h.FunFrames base outer) (e : ExtB env h h') : h'.FunFrames base outer :=
  funFrames_keep hl fun x hx L hf o ho => e L o (K.apart x hx L hf).1 (K.apart x hx L hf).2 ho
theorem EvW.ofB {b : List Stmt} {P : Out → (Str → Option PV) → Prop} (h : EvB w mg n env b ρ P) : EvW w mg n env outer base b ρ P := by
  intro A s Q E ha hfr K S ht hl hQ
  exact h A base s Q E ha K.own S ht fun o ρ' f h' tk z p q S' e => hQ o ρ' f h' tk z p q S' (fun_ext K hl e)
theorem EvW.cons {st : Stmt} {r : List Stmt} {P : Out → (Str → Option PV) → Prop}
    (h : EvS w mg n env st ρ fun o ρ' => match o with | .next => EvW w mg n env outer base r ρ' P | o => P o ρ') : EvW w mg n env outer base (st :: r) ρ P := by
  intro A s Q E ha hfr K S ht hl hQ
  refine wpAny_execs_cons (h A base s _ E ha K.own S ht fun o ρ' f h' tk hT hP hO hS hE => ?_)
  cases o with
  | next =>
    have e : f = .next := hO
    subst e
    exact hP A _ Q E ha hfr K hS hT (fun_ext K hl hE) hQ
  | brk =>
    have e : f = .brk := hO
    subst e
    exact hQ .brk ρ' .brk h' tk hT hP rfl hS (fun_ext K hl hE)
  | ret p =>
    obtain ⟨v, rfl, r⟩ := hO
    exact hQ (.ret p) ρ' _ h' tk hT hP ⟨v, rfl, r⟩ hS (fun_ext K hl hE)
theorem EvW.ifRefused {e t2 : Expr} {a r : List Stmt} {x : Str} {pf p1 p2 p3 p4 : Pos} {P : Out → (Str → Option PV) → Prop} (hn : 3 ≤ n) (he : EvE w mg n env e ρ (.str x)) (hx : (Txt.slice x none (some 3) != "257") = true) (hsz : x.length ≤ sizeLine)
    (h2 : EvT w mg n env t2 ρ false) (hr : EvW w mg n env outer base r ρ P) (hs : starEach [e] env = (false, eval e env) :: starEach [] env) (hk : (env.kindOf "_law_refused" == some .globalImplicit) = true) :
    EvW w mg n env outer base (.If (.BoolOp .Or [.UnaryOp .Not (.Call (.Name "_law_refused" pf) [e] [] p1) p2, t2] p3) a [] p4 :: r) ρ P := by
  intro A s Q E ha hfr K S ht hl hQ
  obtain ⟨aR, hm, _⟩ := S.W.fn "_law_refused" (by decide)
  refine wpAny_execs_cons (wpAny_If (wpAny_isTrue_BoolOp (wpAny_allTrue_Or_cons (wpAny_isTrue_Not (isTrue_plain ?_ rfl)))))
  refine wpAny_Call_NameR (EvE.glob hm hk (by decide) A base s _ _ ha S ht fun v h₁ t₁ z₁ k₁ r₁ => ?_)
  obtain rfl := r₁.r
  have S₁ := S.ext k₁
  obtain ⟨a', e', o, pm, cd, doc, prs, bd, sc, hd, ho, hdata, hcd⟩ := S₁.world.fn "_law_refused" (by decide)
  rw [hm] at e'
  cases e'
  refine callWith_function (o := o) (evalArgs_row (EvL.cons he hs .nil) A base _ _ _ ha S₁ z₁ fun vs h₂ t₂ z₂ k₂ r₂ => ⟨⟨k₂ _ _ ho, hdata⟩, ?_⟩)
  obtain ⟨v, rfl, rv⟩ := repL1 r₂
  have S₂ := S₁.ext k₂
  obtain ⟨mL, hnL, _⟩ := S₂.loc
  have hl₂ : h₂.FunFrames base outer := fun_ext K hl ((k₁.trans k₂).b env)
  have hlx : h₂.FunFrames base (env :: outer) := Heap.FunFrames.cons (by rw [S.kind]; decide) K.frame hnL K.own.loc hl₂
  refine refused_call (base := base) (outer := env :: outer) (ha.mono hn) hfr S.W S₂.keep hlx z₂ hm rv hx hsz fun h₃ t₃ z₃ kb₃ u₃ => ?_
  have S₃ := S₂.up kb₃ u₃
  have hl₃ : h₃.FunFrames base outer := hl₂.of_keeps fun b o hb hn => let ⟨sl, e⟩ := u₃ b o hb hn; ⟨_, e, rfl⟩
  refine wpAny_truthy_bool ?_
  refine wpAny_allTrue_Or_cons (h2 A base _ _ _ ha S₃ z₃ fun h₄ t₄ z₄ k₄ => wpAny_allTrue_Or_nil ?_)
  rw [if_neg Bool.false_ne_true]
  refine wpAny_execs_nil ?_
  exact hr A _ Q E ha hfr K (S₃.ext k₄) z₄ (fun_ext K hl₃ (k₄.b env)) hQ
end
end Mine

end PartD1
section PartD2
open PySem PySem.W PyProof.Rows PySem.Calls
set_option Elab.async false
set_option maxRecDepth 100000
set_option linter.unusedVariables false
namespace Mine
def codeOk (i : Nat) : Bool := let l := (Str.ofString (toString ((1000 + i : Nat) : Int))).cps.toList; l.length == 4 && (i == 257 || !(l.drop 1 == [50, 53, 55]))
set_option maxHeartbeats 4000000 in
theorem chk_code : ((List.range 1000).all codeOk) = true := by decide +kernel
theorem code_ok {i : Nat} (h : i < 1000) (hi : i ≠ 257) : ∃ l : Cp, Str.ofString (toString ((1000 + i : Nat) : Int)) = mk l ∧ l.length = 4 ∧ l.drop 1 ≠ [50, 53, 55] := by
  have := List.all_eq_true.mp chk_code i (List.mem_range.mpr h)
  unfold codeOk at this
  generalize Str.ofString (toString ((1000 + i : Nat) : Int)) = z at this
  obtain ⟨c⟩ := z
  refine ⟨c.toList, by unfold mk; simp, ?_, ?_⟩
  · simp at this; simpa using this.1
  · intro e
    simp only [Bool.and_eq_true, Bool.or_eq_true, beq_iff_eq, Bool.not_eq_true'] at this
    rcases this.2 with h | h
    · exact hi h
    · rw [e] at h; simp at h
end Mine

end PartD2
section PartD3
open PySem PySem.W PyProof.Rows PySem.Calls
set_option Elab.async false
set_option maxRecDepth 100000
set_option linter.unusedVariables false
namespace Mine
def tabName (t : Nat) : Str := ["in_table_b1", "in_table_c11", "in_table_c4", "in_table_c6", "in_table_c7", "in_table_c8", "in_table_c9"].getD t "in_table_b1"
section
variable {w : World} {mg : Str → Option Value} {n : Nat} {env : Env} {ρ : Str → Option PV}
theorem EvE.callV {f : Str} {fe : Expr} {a : Addr} {pos : Pos} {es : List Expr} {ps : List PV} {res : PV} (hf : f ∈ fnNames) (hm : mg f = some (.ref a)) (hfe : EvE w mg n env fe ρ (.raw (.ref a))) (x : EvL w mg n env ρ es ps) (hc : FnC w mg n f ps res)
    (he : eval (.Call fe es [] pos) env = (do let g ← eval fe env; callWith pos g [] (backTo pos (starEach es env)) (backToKw pos (keywordEach [] env)))) : EvE w mg n env (.Call fe es [] pos) ρ res := by
  intro A h₀ s Q E ha S ht hQ
  refine wpT ht (Call_ (hfe A h₀ s _ _ ha S ht fun v h₁ t₁ z₁ k₁ r₁ => ?_) he)
  obtain rfl := r₁.r
  exact callWith_fn x hf hm hc A h₀ _ _ _ ha (S.ext k₁) z₁ fun v h₂ t₂ k₂ r₂ hn => hQ v h₂ t₂ hn (k₁.trans k₂) r₂
theorem tab_ok {t c : Nat} (ht : t < 7) : FnC w mg 1 (tabName t) [.str (mk [c])] (.bool (inT t c)) := by
  match t, ht with
  | 0, _ => exact b1_ok c
  | 1, _ => exact c11_ok c
  | 2, _ => exact c4_ok c
  | 3, _ => exact c6_ok c
  | 4, _ => exact c7_ok c
  | 5, _ => exact c8_ok c
  | 6, _ => exact c9_ok c
theorem tab_mem {t : Nat} (ht : t < 7) : tabName t ∈ fnNames := by
  match t, ht with
  | 0, _ => decide
  | 1, _ => decide
  | 2, _ => decide
  | 3, _ => decide
  | 4, _ => decide
  | 5, _ => decide
  | 6, _ => decide
end
end Mine

end PartD3
section PartD5
open PySem PySem.W PyProof.Rows PySem.Calls
set_option Elab.async false
set_option maxRecDepth 100000
set_option linter.unusedVariables false
namespace Mine
theorem join_mk : ∀ ls : List Cp, Str.join (mk []) (ls.map mk) = mk ls.flatten
  | [] => rfl
  | [l] => by show mk l = mk (l ++ []); simp
  | l :: m :: r => by
    show mk l ++ mk [] ++ Str.join (mk []) ((m :: r).map mk) = mk (l ++ (m :: r).flatten)
    rw [join_mk (m :: r), mk_append, ← mk_append l [], List.append_nil]
theorem tjoin_mk (ls : List Cp) : Txt.join (mk []) (ls.map mk) = mk ls.flatten := by
  rw [← join_mk, ← StrLaws.glued_eq_join]
  rfl
def foldPV (p : PV) : Option PV := match p with
  | .str x => some (.str (mk (foldL x.cps.toList)))
  | _ => none
def keepPV (t : Nat) (p : PV) : Option PV := match p with
  | .str x => if (x.cps.toList.all fun c => !inT t c) then some (.str x) else none
  | _ => none
theorem fold_list (l : Cp) : ((mk l).cps.toList.map fun c => PV.str ⟨#[c]⟩).filterMap foldPV = ((l.map fun c => fold1 c).map mk).map PV.str := by
  have e : (mk l).cps.toList = l := by unfold mk; simp
  rw [e]
  induction l with
  | nil => rfl
  | cons c r ih =>
    have e1 : foldPV (PV.str ⟨#[c]⟩) = some (.str (mk (fold1 c))) := by
      show some (PV.str (mk (fold1 c ++ []))) = _
      rw [List.append_nil]
    rw [List.map_cons, List.filterMap_cons, e1]
    simp only [List.map_cons]
    rw [ih (by unfold mk; simp)]
theorem keep_list (t : Nat) (l : Cp) : ((mk l).cps.toList.map fun c => PV.str ⟨#[c]⟩).filterMap (keepPV t) = (((strike t l).map fun c => [c]).map mk).map PV.str := by
  have e : (mk l).cps.toList = l := by unfold mk; simp
  rw [e]
  unfold strike
  induction l with
  | nil => rfl
  | cons c r ih =>
    have e1 : keepPV t (PV.str ⟨#[c]⟩) = if (!inT t c) = true then some (.str ⟨#[c]⟩) else none := by
      show (if ([c].all fun c => !inT t c) = true then some (PV.str ⟨#[c]⟩) else none) = _
      simp
    rw [List.map_cons, List.filterMap_cons, e1]
    by_cases h : (!inT t c) = true
    · rw [if_pos h, List.filter_cons_of_pos (p := fun c => !inT t c) h]
      simp only [List.map_cons]
      rw [ih (by unfold mk; simp)]
      rfl
    · rw [if_neg h, List.filter_cons_of_neg (p := fun c => !inT t c) h, ih (by unfold mk; simp)]
theorem flat_single (l : Cp) : (l.map fun c => [c]).flatten = l := by
  induction l with
  | nil => rfl
  | cons c r ih => simp [ih]
end Mine

end PartD5
section PartD4
open PySem PySem.W PyProof.Rows PySem.Calls
set_option Elab.async false
set_option maxRecDepth 100000
set_option linter.unusedVariables false
namespace Mine
structure DInv (ps : List Pc) (ns : List Nat) (ta : Nat → Addr) (i : Nat) (ρ : Str → Option PV) : Prop where
  numbers : ρ "numbers" = some (.lst (ns.map fun (x : Nat) => PV.int (x : Nat)))
  pieces : ρ "pieces" = some (.lst (ps.map pcPV))
  tables : ρ "tables" = some (.tup ((List.range 7).map fun t => PV.raw (.ref (ta t))))
  st : ∃ op rd f st, ρ "opened" = some (.int (op : Nat)) ∧ ρ "reads" = some (.int (rd : Nat)) ∧ ρ "folded" = some (.bool f) ∧ ρ "struck" = some (.lst (st.map stPV)) ∧ ρ "text" = some (.str (mk (leftS (2 ^ op) rd f st 0 ps))) ∧
    op ≤ 2 ∧ rd ≤ i ∧ st.length ≤ i ∧ ∀ q ∈ st, q.2 ≤ rd
def deedsFor : List Stmt := match (bodyOf "_law_deeds").drop 10 with | .For _ _ b _ _ :: _ => b | _ => []
section
variable {w : World} {mg : Str → Option Value}
theorem text_len {ps : List Pc} (hg : ∀ p ∈ ps, Good p) (h8 : ps.length ≤ 8) {op rd : Nat} {f : Bool} {st : List (Nat × Nat)} (hop : op ≤ 2) : (leftS (2 ^ op) rd f st 0 ps).length ≤ 300 := by
  have := leftS_len (2 ^ op) rd f st ps 0 hg
  have h4 : 2 ^ op ≤ 4 := Nat.le_trans (Nat.pow_le_pow_right (by omega) hop) (by decide)
  have := Nat.mul_le_mul h4 (show 0 + 8 * ps.length ≤ 64 by omega)
  omega
set_option maxHeartbeats 4000000 in
theorem deeds_check (L a : Addr) (cd : Value) (ps : List Pc) (ns : List Nat) (ta : Nat → Addr) (hg : ∀ p ∈ ps, Good p) (hlen : ps.length = ns.length) (h8 : ns.length ≤ 8) (i : Nat) (hi : i ≤ ns.length) (ρ : Str → Option PV) (I : DInv ps ns ta i ρ) :
    EvB w mg 3 (envOfC "_law_deeds" (scopeOf "_law_deeds") L a cd) (deedsFor.drop 3) ρ (fun o ρ' => match o with | .next => DInv ps ns ta i ρ' | _ => False) := by
  obtain ⟨op, rd, f, st, i1, i2, i3, i4, i5, hop, hrd, hsl, hst⟩ := I.st
  refine EvB.cons ?_
  refine EvS.ifF (EvT.conv (EvT.cmp (EvE.name i5 rfl (by decide)) (EvE.callFn (by decide) (.cons (EvE.name I.pieces rfl (by decide)) rfl (.cons (EvE.name i1 rfl (by decide)) rfl (.cons (EvE.name i2 rfl (by decide)) rfl (.cons (EvE.name i3 rfl (by decide)) rfl (.cons (EvE.name i4 rfl (by decide)) rfl .nil))))) ((left_ok ps op rd f st hg (by omega) hop (by omega) (by omega)).mono (by omega)) rfl (by decide)) Op2.neS (by with_unfolding_all rfl)) ?_) (EvB.nil (EvB.nil I))
  simp
set_option maxHeartbeats 4000000 in
theorem deeds_turn (L a : Addr) (cd : Value) (ps : List Pc) (ns : List Nat) (ta : Nat → Addr) (hta : ∀ t, t < 7 → mg (tabName t) = some (.ref (ta t))) (hg : ∀ p ∈ ps, Good p) (hlen : ps.length = ns.length) (h8 : ns.length ≤ 8) (hns : ∀ x ∈ ns, x < 1000000000)
    (i : Nat) (hi : i < ns.length) (ρ : Str → Option PV) (I : DInv ps ns ta i ρ) (hp : ρ "place" = some (.int (i : Nat))) :
    EvB w mg 3 (envOfC "_law_deeds" (scopeOf "_law_deeds") L a cd) deedsFor ρ (fun o ρ' => match o with | .next => DInv ps ns ta (i + 1) ρ' | _ => False) := by
  obtain ⟨op, rd, f, st, i1, i2, i3, i4, i5, hop, hrd, hsl, hst⟩ := I.st
  generalize hx : ns.getD i 0 = x
  have hxl : x < 1000000000 := by rw [← hx]; exact hns _ (getD_mem' hi)
  refine EvB.cons ?_
  refine EvS.assign (p := .int (x : Nat)) (EvE.itemLN (i := i) (EvE.name I.numbers rfl (by decide)) (EvE.name hp rfl (by decide)) (by omega) (by rw [← hx]; exact getMap _ ns i 0 hi) (fun _ _ => rfl)) ?_ ?_ ?_
  rotate_left
  · rfl
  · rfl
  have hpl : 0 < ps.length := by omega
  have hj : (i + 1 + x / 6) % ps.length < ps.length := Nat.mod_lt _ hpl
  generalize hpc : ps.getD ((i + 1 + x / 6) % ps.length) ⟨0, [], [], 0⟩ = pc
  have gpc : Good pc := by rw [← hpc]; exact hg _ (getD_mem' hj)
  refine EvB.cons ?_
  refine EvS.assign (p := .int (pc.table : Nat)) (EvE.itemTN (i := 3) (l := [.int (pc.marks : Nat), .str (mk pc.sign), .str (mk pc.small), .int (pc.table : Nat)]) (EvE.itemLN (i := (i + 1 + x / 6) % ps.length) (p := pcPV pc) (EvE.name I.pieces rfl (by decide)) (EvE.modN (EvE.addN (EvE.addN (EvE.name hp rfl (by decide)) (EvE.intN (b := 1) rfl)) (EvE.divC (b := 6) (EvE.name rfl rfl (by decide)) rfl (by omega) (by omega))) (EvE.conv (EvE.callB (by decide) (by decide +kernel) (by decide) (.cons (EvE.name I.pieces rfl (by decide)) rfl .nil) (CallOk.lenL (by rw [List.length_map, sizeLine_eq]; omega)) rfl (by decide)) (by rw [List.length_map])) hpl) (by omega) (by rw [← hpc]; exact getMap _ ps _ _ hj) (fun _ _ => rfl)) (EvE.intN rfl) (by omega) rfl (fun _ _ => rfl)) ?_ ?_ ?_
  rotate_left
  · rfl
  · rfl
  refine EvB.cons ?_
  refine EvS.ifB (EvT.and2 (EvT.eqN (b := 2) (EvE.modC (b := 6) (EvE.name rfl rfl (by decide)) rfl (by omega)) rfl) (fun _ => EvT.ltN (b := 2) (EvE.name i1 rfl (by decide)) (EvE.intN rfl) (by with_unfolding_all rfl))) (fun h => ?_) fun h => ?_
  · rw [Bool.and_eq_true, beq_iff_eq, decide_eq_true_iff] at h
    have hl := text_len hg (by omega) (rd := rd) (f := f) (st := st) hop
    refine EvB.cons ?_
    refine EvS.assign (p := .str (mk (leftS (2 ^ (op + 1)) rd f st 0 ps))) ?_ ?_ ?_ ?_
    · refine EvE.conv (EvE.replaceC (EvE.name i5 rfl (by decide)) ?_ rfl rfl) ?_
      · rw [mk_len]; show _ + _ * (mk [34, 34]).length ≤ _; rw [mk_len]; show _ + _ * 2 ≤ _; omega
      · refine congrArg PV.str ?_
        show Txt.replace _ (mk [34]) (mk (rep 2)) = _
        rw [replace_marks, expand_left _ _ _ _ _ _ _ hg, Nat.pow_succ, Nat.mul_comm]
    rotate_left
    · rfl
    · rfl
    refine EvB.cons ?_
    refine EvS.assign (p := .int ((op + 1 : Nat) : Int)) (EvE.addN (EvE.name i1 rfl (by decide)) (EvE.intN (b := 1) rfl)) ?_ ?_ ?_
    rotate_left
    · rfl
    · rfl
    refine EvB.nil ?_
    exact deeds_check L a cd ps ns ta hg hlen h8 (i + 1) (by omega) _ ⟨I.numbers, I.pieces, I.tables, op + 1, rd, f, st, rfl, i2, i3, i4, rfl, by omega, by omega, by omega, hst⟩
  · refine EvB.cons ?_
    refine EvS.ifB (EvT.ltN (b := 3) (EvE.modC (b := 6) (EvE.name rfl rfl (by decide)) rfl (by omega)) (EvE.intN rfl) (by with_unfolding_all rfl)) (fun h3 => ?_) fun h3 => ?_
    · have hl := text_len hg (by omega) (rd := rd) (f := f) (st := st) hop
      have hstart : ∀ l : Cp, Str.ofString "257 \"" ++ mk l = mk (50 :: 53 :: 55 :: 32 :: 34 :: l) := fun l => (mk_append [50, 53, 55, 32, 34] l).symm
      refine EvB.cons ?_
      refine EvS.assign (p := .str (mk (read (leftS (2 ^ op) rd f st 0 ps)))) ?_ ?_ ?_ ?_
      · refine EvE.callFn (by decide) (.cons (EvE.conv (EvE.bin EvE.str (EvE.name i5 rfl (by decide)) (Op2.addS ?_)) (congrArg PV.str (hstart _))) rfl .nil) ((parse_ok _ (by omega)).mono (by omega)) rfl (by decide)
        show (mk [50, 53, 55, 32, 34]).length + _ ≤ _
        rw [mk_len, mk_len, sizeLine_eq]
        show 5 + _ ≤ _
        omega
      rotate_left
      · rfl
      · rfl
      refine EvB.cons ?_
      refine EvS.ifB (EvT.cmp (EvE.name i1 rfl (by decide)) EvE.int Op2.gtI (by with_unfolding_all rfl)) (fun h0 => ?_) fun h0 => ?_
      · have h0' : 0 < op := by have := of_decide_eq_true h0; omega
        obtain ⟨op', rfl⟩ : ∃ o, op = o + 1 := ⟨op - 1, by omega⟩
        refine EvB.cons ?_
        refine EvS.assign (p := .int ((op' + 1 - 1 : Nat) : Int)) (EvE.subN (EvE.name i1 rfl (by decide)) (EvE.intN (b := 1) rfl) (by omega)) ?_ ?_ ?_
        rotate_left
        · rfl
        · rfl
        refine EvB.nil (EvB.nil (EvB.nil ?_))
        refine deeds_check L a cd ps ns ta hg hlen h8 (i + 1) (by omega) _ ⟨I.numbers, I.pieces, I.tables, op', rd, f, st, rfl, i2, i3, i4, ?_, by omega, by omega, by omega, hst⟩
        have e : read (leftS (2 ^ (op' + 1)) rd f st 0 ps) = leftS (2 ^ op') rd f st 0 ps := by
          rw [Nat.pow_succ, Nat.mul_comm]; exact read_open _ _ _ _ ps 0 hg
        show some (PV.str (mk (read (leftS (2 ^ (op' + 1)) rd f st 0 ps)))) = _
        rw [e]
      · have h0' : op = 0 := by have := of_decide_eq_false h0; omega
        subst h0'
        refine EvB.cons ?_
        refine EvS.assign (p := .int ((rd + 1 : Nat) : Int)) (EvE.addN (EvE.name i2 rfl (by decide)) (EvE.intN (b := 1) rfl)) ?_ ?_ ?_
        rotate_left
        · rfl
        · rfl
        refine EvB.nil (EvB.nil (EvB.nil ?_))
        refine deeds_check L a cd ps ns ta hg hlen h8 (i + 1) (by omega) _ ⟨I.numbers, I.pieces, I.tables, 0, rd + 1, f, st, i1, rfl, i3, i4, ?_, by omega, by omega, by omega, fun q hq => Nat.le_succ_of_le (hst q hq)⟩
        have e : read (leftS (2 ^ 0) rd f st 0 ps) = leftS (2 ^ 0) (rd + 1) f st 0 ps := read_left rd f st hst ps 0 hg
        show some (PV.str (mk (read (leftS (2 ^ 0) rd f st 0 ps)))) = _
        rw [e]
    · refine EvB.cons ?_
      refine EvS.ifB (EvT.eqN (b := 7) (EvE.name rfl rfl (by decide)) rfl) (fun h7 => ?_) fun h7 => ?_
      · have hl := text_len hg (by omega) (rd := rd) (f := f) (st := st) hop
        generalize hT : leftS (2 ^ op) rd f st 0 ps = T at *
        refine EvB.cons ?_
        refine EvS.assign (p := .str (mk (foldL T))) ?_ ?_ ?_ ?_
        · refine EvE.conv (EvE.join (x := mk []) (xs := (T.map fun c => fold1 c).map mk) EvE.str (EvE.conv (EvE.comp (cl := []) (ys := []) foldPV ?_ (EvI.str (EvE.name i5 rfl (by decide))) ?_ ?_ (fun _ => rfl)) (congrArg PV.lst (fold_list T))) ?_ rfl rfl rfl rfl) ?_
          · exact ⟨rfl, rfl, rfl, rfl, rfl, fun y hy => (nomatch hy), fun y c hc => (nomatch hc), rfl, rfl⟩
          · rw [List.length_map, show (mk T).cps.toList = T by unfold mk; simp, sizeLine_eq]; omega
          · intro C p hp
            obtain ⟨c, hc, rfl⟩ := List.mem_map.mp hp
            refine ⟨_, true, .name, .nil, fun _ => ⟨.str (mk (fold1 c)), ?_, rfl, ?_⟩, fun q => nomatch q⟩
            · show some (PV.str (mk (fold1 c ++ []))) = _
              rw [List.append_nil]
            · exact EvE.callFn (by decide) (.cons (EvE.name rfl rfl (by decide)) rfl .nil) ((b3_ok c).mono (by omega)) rfl (by decide)
          · have e : foldL T = leftS (2 ^ op) rd true st 0 ps := by rw [← hT]; exact fold_left fold34 _ _ _ _ ps 0 hg
            have hl2 := text_len hg (by omega) (rd := rd) (f := true) (st := st) hop
            rw [← e] at hl2
            rw [mk_len, List.map_map, List.map_map]
            have e3 : ((T.map (((fun x => x.length) ∘ mk) ∘ fun c => fold1 c)).sum) = (foldL T).length := by
              unfold foldL
              rw [List.length_flatMap]
              exact congrArg List.sum (List.map_congr_left fun c _ => mk_len _)
            rw [e3]
            show _ + _ * 0 ≤ _
            omega
          · rw [tjoin_mk]; rfl
        rotate_left
        · rfl
        · rfl
        refine EvB.cons (EvS.assign EvE.bool (EvB.nil (EvB.nil (EvB.nil ?_))) rfl rfl)
        refine deeds_check L a cd ps ns ta hg hlen h8 (i + 1) (by omega) _ ⟨I.numbers, I.pieces, I.tables, op, rd, true, st, i1, i2, rfl, i4, ?_, by omega, by omega, by omega, hst⟩
        have e : foldL T = leftS (2 ^ op) rd true st 0 ps := by rw [← hT]; exact fold_left fold34 _ _ _ _ ps 0 hg
        show some (PV.str (mk (foldL T))) = _
        rw [e]
      · have hl := text_len hg (by omega) (rd := rd) (f := f) (st := st) hop
        have ht7 : pc.table < 7 := by
          have := gpc.tab
          rw [beq_eq_false_iff_ne] at h7
          omega
        generalize hT : leftS (2 ^ op) rd f st 0 ps = T at *
        generalize htb : pc.table = tb at *
        refine EvB.cons ?_
        refine EvS.assign (p := .str (mk (strike tb T))) ?_ ?_ ?_ ?_
        · refine EvE.conv (EvE.join (x := mk []) (xs := ((strike tb T).map fun c => [c]).map mk) EvE.str (EvE.conv (EvE.comp (cl := [("tables", L + 1 + 1 + 1), ("aim", L + 1 + 1 + 1 + 1)]) (ys := ["tables", "aim"]) (keepPV tb) ?_ (EvI.str (EvE.name i5 rfl (by decide))) ?_ ?_ (fun _ => rfl)) (congrArg PV.lst (keep_list tb T))) ?_ rfl rfl rfl rfl) ?_
          · refine ⟨rfl, rfl, rfl, rfl, rfl, ?_, ?_, rfl, rfl⟩
            · intro y hy
              rcases List.mem_cons.mp hy with rfl | hy
              · exact ⟨rfl, rfl⟩
              · obtain rfl := List.mem_singleton.mp hy
                exact ⟨rfl, rfl⟩
            · intro y c hc
              rw [List.lookup_cons] at hc
              split at hc
              · cases hc; exact ⟨"tables", rfl⟩
              · rw [List.lookup_cons] at hc
                split at hc
                · cases hc; exact ⟨"aim", rfl⟩
                · cases hc
          · rw [List.length_map, show (mk T).cps.toList = T by unfold mk; simp, sizeLine_eq]; omega
          · intro C p hp
            obtain ⟨c, hc, rfl⟩ := List.mem_map.mp hp
            refine ⟨_, !inT tb c, .name, .one (EvT.not (EvT.val (EvE.callV (tab_mem ht7) (hta tb ht7) (EvE.itemTN (i := tb) (l := (List.range 7).map fun t => PV.raw (.ref (ta t))) (EvE.name I.tables rfl (by decide)) (EvE.name rfl rfl (by decide)) (by omega) ?_ (fun _ _ => rfl)) (.cons (EvE.name rfl rfl (by decide)) rfl .nil) ((tab_ok ht7).mono (by omega)) rfl) (fun _ => rfl))), fun hb => ⟨.str ⟨#[c]⟩, ?_, rfl, EvE.name rfl rfl (by decide)⟩, fun hb => ?_⟩
            · rw [List.getElem?_map, List.getElem?_range ht7]; rfl
            · show (if ([c].all fun c => !inT tb c) = true then some (PV.str ⟨#[c]⟩) else none) = _
              rw [if_pos (by simpa using hb)]
            · show (if ([c].all fun c => !inT tb c) = true then some (PV.str ⟨#[c]⟩) else none) = _
              rw [if_neg (by simpa using hb)]
          · have hl2 : (strike tb T).length ≤ T.length := List.length_filter_le _ _
            rw [mk_len, List.map_map, List.map_map]
            have e3 : (((strike tb T).map (((fun x => x.length) ∘ mk) ∘ fun c => [c])).sum) = (strike tb T).length := by
              generalize strike tb T = l
              induction l with
              | nil => rfl
              | cons c r ih => rw [List.map_cons, List.sum_cons, ih, List.length_cons]; show (mk [c]).length + _ = _; rw [mk_len]; show 1 + _ = _; omega
            rw [e3]
            show _ + _ * 0 ≤ _
            omega
          · rw [tjoin_mk, flat_single]
        rotate_left
        · rfl
        · rfl
        refine EvB.cons ?_
        refine EvS.assign (p := .lst ((st ++ [(tb, rd)]).map stPV)) ?_ ?_ ?_ ?_
        · refine EvE.conv (EvE.bin (EvE.name i4 rfl (by decide)) (EvE.list (.cons (EvE.tup (.cons (EvE.name rfl rfl (by decide)) rfl (.cons (EvE.name i2 rfl (by decide)) rfl .nil)) (by show 2 ≤ _; rw [sizeLine_eq]; omega)) rfl .nil) (by show 1 ≤ _; rw [sizeLine_eq]; omega)) (Op2.addL ?_)) ?_
          · rw [List.length_map, sizeLine_eq]; show _ + 1 ≤ _; omega
          · rw [List.map_append]; rfl
        rotate_left
        · rfl
        · rfl
        refine EvB.nil (EvB.nil (EvB.nil ?_))
        refine deeds_check L a cd ps ns ta hg hlen h8 (i + 1) (by omega) _ ⟨I.numbers, I.pieces, I.tables, op, rd, f, st ++ [(tb, rd)], i1, i2, i3, rfl, ?_, by omega, by omega, by rw [List.length_append]; show _ + 1 ≤ _; omega, ?_⟩
        · have h34 : inT tb 34 = false := by
            have := List.all_eq_true.mp in34 tb (List.mem_range.mpr ht7)
            simpa using this
          have e : strike tb T = leftS (2 ^ op) rd f (st ++ [(tb, rd)]) 0 ps := by rw [← hT]; exact strike_left tb ht7 h34 _ _ _ _ hst ps 0 hg
          show some (PV.str (mk (strike tb T))) = _
          rw [e]
        · intro q hq
          rcases List.mem_append.mp hq with hq | hq
          · exact hst q hq
          · obtain rfl := List.mem_singleton.mp hq
            exact Nat.le_refl _
end
end Mine

end PartD4
section PartD6
open PySem PySem.W PyProof.Rows PySem.Calls
set_option Elab.async false
set_option maxRecDepth 100000
set_option linter.unusedVariables false
namespace Mine
def piecesOf (ns : List Nat) : List Pc := (List.range ns.length).map fun i => pieceOf (ns.getD i 0) i
def numsPV (ns : List Nat) : PV := .lst (ns.map fun (x : Nat) => PV.int (x : Nat))
def piecePV (ns : List Nat) (p : PV) : Option PV := match p with
  | .int i => some (pcPV (pieceOf (ns.getD i.toNat 0) i.toNat))
  | _ => none
theorem pieces_eq (ns : List Nat) : ((List.range ns.length).map fun (i : Nat) => PV.int (i : Nat)).filterMap (piecePV ns) = (piecesOf ns).map pcPV := by
  unfold piecesOf
  rw [List.filterMap_map, List.map_map]
  exact (filterMap_some' (fun i : Nat => pcPV (pieceOf (ns.getD i 0) i)) _)
theorem pieces_good (ns : List Nat) : ∀ p ∈ piecesOf ns, Good p := by
  intro p hp
  obtain ⟨i, _, rfl⟩ := List.mem_map.mp hp
  exact good_piece _ _
theorem pieces_len (ns : List Nat) : (piecesOf ns).length = ns.length := by unfold piecesOf; simp
def startPV (p : PV) : Option PV := match p with
  | .tup [.int m, .str s, _, _] => some (.str (mk (rep m.toNat) ++ s))
  | _ => none
theorem start_eq (ps : List Pc) : (ps.map pcPV).filterMap startPV = ((ps.map fun p => rep p.marks ++ p.sign).map mk).map PV.str := by
  rw [List.filterMap_map, List.map_map, List.map_map]
  refine (filterMap_some' (fun p : Pc => PV.str (mk (rep p.marks) ++ mk p.sign)) _).trans (List.map_congr_left fun p _ => ?_)
  show PV.str _ = PV.str (mk (rep p.marks ++ p.sign))
  rw [mk_append]
theorem start_sum : ∀ (ps : List Pc), (∀ p ∈ ps, Good p) → (((ps.map fun p => rep p.marks ++ p.sign).map mk).map (·.length)).sum ≤ 12 * ps.length
  | [], _ => Nat.le_refl _
  | p :: ps, g => by
    have ih := start_sum ps fun q hq => g q (.tail _ hq)
    have gp := g p (.head _)
    have h1 := gp.marks
    have h2 := gp.len1
    simp only [List.map_cons, List.sum_cons, List.length_cons]
    rw [mk_len, List.length_append]
    unfold rep
    rw [List.length_replicate]
    unfold rep at ih
    omega
section
variable {w : World} {mg : Str → Option Value}
set_option maxHeartbeats 4000000 in
theorem deeds_body (L a : Addr) (cd : Value) (outer : List Env) (base : Heap) (ns : List Nat) (ta : Nat → Addr) (hta : ∀ t, t < 7 → mg (tabName t) = some (.ref (ta t))) (h8 : ns.length ≤ 8) (h1 : 1 ≤ ns.length) (hns : ∀ x ∈ ns, x < 1000000000) :
    EvW w mg 3 (envOfC "_law_deeds" (scopeOf "_law_deeds") L a cd) outer base (bodyOf "_law_deeds") (bindP ["numbers"] [numsPV ns]) (retIs (.bool true)) := by
  refine EvW.cons ?_
  refine EvS.assign (p := .lst (runsL.map runPV)) (EvE.callFn (by decide) .nil (runs_ok.mono (by omega)) rfl (by decide)) ?_ ?_ ?_
  rotate_left
  · rfl
  · rfl
  refine EvW.cons ?_
  refine EvS.assignComp (cl := [("runs", L + 1 + 1), ("numbers", L + 1)]) (ys := ["numbers", "runs"]) (ps := (List.range ns.length).map fun (i : Nat) => PV.int (i : Nat)) (piecePV ns) ?_ ?_ ?_ ?_ ?_ ?_ ?_ ?_
  · refine ⟨rfl, rfl, rfl, rfl, rfl, ?_, ?_, rfl, rfl⟩
    · intro y hy
      rcases List.mem_cons.mp hy with rfl | hy
      · exact ⟨rfl, rfl⟩
      · obtain rfl := List.mem_singleton.mp hy
        exact ⟨rfl, rfl⟩
    · intro y c hc
      rw [List.lookup_cons] at hc
      split at hc
      · cases hc; first | exact ⟨"numbers", rfl⟩ | exact ⟨"runs", rfl⟩
      · rw [List.lookup_cons] at hc
        split at hc
        · cases hc; first | exact ⟨"numbers", rfl⟩ | exact ⟨"runs", rfl⟩
        · cases hc
  · exact EvI.range (EvE.conv (EvE.callB (by decide) (by decide +kernel) (by decide) (.cons (EvE.name rfl rfl (by decide)) rfl .nil) (CallOk.lenL (by rw [List.length_map, sizeLine_eq]; omega)) rfl (by decide)) (by rw [List.length_map])) (by rw [sizeLine_eq]; omega) rfl rfl
  · rw [List.length_map, List.length_range, sizeLine_eq]; omega
  · intro C p hp
    obtain ⟨i, hi, rfl⟩ := List.mem_map.mp hp
    have hi' := List.mem_range.mp hi
    refine ⟨_, true, .name, .nil, fun _ => ⟨pcPV (pieceOf (ns.getD i 0) i), rfl, rfl, ?_⟩, fun q => nomatch q⟩
    exact EvE.callFn (by decide) (.cons (EvE.itemLN (i := i) (EvE.name rfl rfl (by decide)) (EvE.name rfl rfl (by decide)) (by omega) (getMap _ ns i 0 hi') (fun _ _ => rfl)) rfl (.cons (EvE.name rfl rfl (by decide)) rfl (.cons (EvE.name rfl rfl (by decide)) rfl .nil))) ((piece_ok _ _ (hns _ (getD_mem' hi')) (by omega)).mono (by omega)) rfl (by decide)
  · rw [pieces_eq]
    have hg := pieces_good ns
    have hpl := pieces_len ns
    generalize piecesOf ns = ps at hg hpl
    have hsum := start_sum ps hg
    refine EvW.cons ?_
    refine EvS.assign (p := .str (mk (startText ps))) ?_ ?_ ?_ ?_
    · refine EvE.conv (EvE.join (x := mk []) (xs := (ps.map fun p => rep p.marks ++ p.sign).map mk) EvE.str (EvE.conv (EvE.comp (cl := []) (ys := []) startPV ?_ (EvI.list (EvE.name rfl rfl (by decide)) (.inr ⟨_, _, _, rfl⟩) (.inr fun p hp => by obtain ⟨q, _, rfl⟩ := List.mem_map.mp hp; exact ⟨_, rfl⟩)) ?_ ?_ (fun _ => rfl)) (congrArg PV.lst (start_eq ps))) ?_ rfl rfl rfl rfl) ?_
      · exact ⟨rfl, rfl, rfl, rfl, rfl, fun y hy => (nomatch hy), fun y c hc => (nomatch hc), rfl, rfl⟩
      · rw [List.length_map, sizeLine_eq]; omega
      · intro C p hp
        obtain ⟨q, hq, rfl⟩ := List.mem_map.mp hp
        have gq := hg q hq
        have h1 := gq.marks
        have h2 := gq.len1
        refine ⟨_, true, .tup [(_, _), (_, _), (_, _), (_, _)] rfl rfl rfl, .nil, fun _ => ⟨.str (mk (rep q.marks) ++ mk q.sign), rfl, rfl, ?_⟩, fun q => nomatch q⟩
        refine EvE.bin (a := .str (mk (rep q.marks))) (EvE.conv (EvE.bin EvE.str (EvE.name rfl rfl (by decide)) (Op2.mulS (mulOk_marks q.marks (by omega)))) (congrArg PV.str (mul_marks q.marks))) (EvE.name rfl rfl (by decide)) (Op2.addS ?_)
        rw [mk_len, mk_len, sizeLine_eq]
        unfold rep
        rw [List.length_replicate]
        omega
      · rw [mk_len]; show _ + _ * 0 ≤ _; omega
      · rw [tjoin_mk]; rfl
    rotate_left
    · rfl
    · rfl
    refine EvW.cons ?_
    have hnm : ns.map (fun (x : Nat) => PV.int (x : Nat)) = (ns.map fun (x : Nat) => (x : Int)).map PV.int := by rw [List.map_map]; rfl
    obtain ⟨rn, hrn, hrl⟩ : ∃ rn : Nat, (sumI (ns.map fun (x : Nat) => (x : Int))).fmod 999 = (rn : Int) ∧ rn < 999 := by
      have h0 := Int.fmod_nonneg_of_pos (sumI (ns.map fun (x : Nat) => (x : Int))) (show (0 : Int) < 999 by decide)
      have h1 := Int.fmod_lt_of_pos (sumI (ns.map fun (x : Nat) => (x : Int))) (show (0 : Int) < 999 by decide)
      exact ⟨_, (Int.toNat_of_nonneg h0).symm, by omega⟩
    obtain ⟨l, hl1, hl2, hl3⟩ := code_ok (i := (258 + rn) % 1000) (by omega) (by omega)
    refine EvS.assign (p := .str (mk (l.drop 1))) ?_ ?_ ?_ ?_
    · refine EvE.conv (EvE.sliceS (x := mk l) (a := some 1) (b := none) (EvE.conv (EvE.callT (by decide) (by decide +kernel) (by decide) (.cons (EvE.addN (a := 1000) (EvE.intN rfl) (EvE.modC (b := 1000) (EvE.addN (a := 258) (EvE.intN rfl) (EvE.conv (EvE.bin (EvE.callB (by decide) (by decide +kernel) (by decide) (.cons (EvE.conv (EvE.name rfl rfl (by decide)) (congrArg PV.lst hnm)) rfl .nil) CallOk.sumL rfl (by decide)) EvE.int (Op2.modI (by decide))) (congrArg PV.int hrn))) rfl (by omega))) rfl .nil) (CallOk.strI ?_) rfl (by decide)) (congrArg PV.str hl1)) (.some EvE.int) .none ?_) ?_
      · rw [Int.natAbs_natCast]
        have : 1000 + (258 + rn) % 1000 < 2 ^ 11 := by omega
        have := (Nat.log2_lt (n := 1000 + (258 + rn) % 1000) (k := 11) (by omega)).mpr this
        omega
      · rw [mk_len, hl2, sizeLine_eq]; omega
      · exact congrArg PV.str (slice_sn l 1 (by omega))
    rotate_left
    · rfl
    · rfl
    have hlt : (startText ps).length ≤ 300 := by
      rw [← left_start]
      exact text_len hg (by omega) (op := 0) (rd := 0) (f := false) (st := []) (by omega)
    have hdl : (l.drop 1).length = 3 := by rw [List.length_drop, hl2]
    refine EvW.ifRefused (x := mk (l.drop 1 ++ [32, 34] ++ startText ps)) (by omega) ?_ ?_ ?_ ?_ ?_ ?_ ?_
    · refine EvE.conv (EvE.bin (EvE.bin (EvE.name rfl rfl (by decide)) EvE.str (Op2.addS ?_)) (EvE.name rfl rfl (by decide)) (Op2.addS ?_)) ?_
      · show (mk (l.drop 1)).length + (mk [32, 34]).length ≤ _
        rw [mk_len, mk_len, hdl, sizeLine_eq]; decide
      · show (mk (l.drop 1) ++ mk [32, 34]).length + _ ≤ _
        rw [← mk_append, mk_len, mk_len, List.length_append, hdl, sizeLine_eq]
        show 3 + 2 + _ ≤ _
        omega
      · refine congrArg PV.str ?_
        show mk (l.drop 1) ++ mk [32, 34] ++ _ = _
        rw [mk_append, mk_append]
    · rw [show (3 : Int) = ((3 : Nat) : Int) from rfl, slice_ns _ 3 (by rw [List.length_append, List.length_append, hdl]; omega)]
      have e : (l.drop 1 ++ [32, 34] ++ startText ps).take 3 = l.drop 1 := by
        rw [List.append_assoc, List.take_append_of_le_length (by omega), List.take_of_length_le (by omega)]
      rw [e]
      show (!(mk (l.drop 1) == mk [50, 53, 55])) = true
      rw [mk_beq, Bool.not_eq_true', beq_eq_false_iff_ne]
      exact hl3
    · rw [mk_len, List.length_append, List.length_append, hdl, sizeLine_eq]; show 3 + 2 + _ ≤ _; omega
    · have hs2 : ∀ l : Cp, Str.ofString "257-\"" ++ mk l = mk (50 :: 53 :: 55 :: 45 :: 34 :: l) := fun l => (mk_append [50, 53, 55, 45, 34] l).symm
      refine EvT.conv (EvT.cmp (EvE.callFn (by decide) (.cons (EvE.conv (EvE.bin EvE.str (EvE.name rfl rfl (by decide)) (Op2.addS ?_)) (congrArg PV.str (hs2 (startText ps)))) rfl .nil) ((parse_none _ (by omega)).mono (by omega)) rfl (by decide)) EvE.str Op2.neS (by with_unfolding_all rfl)) ?_
      · show (mk [50, 53, 55, 45, 34]).length + _ ≤ _
        rw [mk_len, mk_len, sizeLine_eq]; show 5 + _ ≤ _; omega
      · show (!(mk [] == mk [])) = false
        rw [mk_beq]; rfl
    · refine EvW.ofB ?_
      refine EvB.cons ?_
      refine EvS.assign (p := .tup ((List.range 7).map fun t => PV.raw (.ref (ta t)))) ?_ ?_ ?_ ?_
      · refine EvE.tup (ps := (List.range 7).map fun t => PV.raw (.ref (ta t))) ?_ (by rw [List.length_map, List.length_range, sizeLine_eq]; omega)
        exact .cons (EvE.glob (hta 0 (by omega)) rfl (by decide)) rfl (.cons (EvE.glob (hta 1 (by omega)) rfl (by decide)) rfl (.cons (EvE.glob (hta 2 (by omega)) rfl (by decide)) rfl (.cons (EvE.glob (hta 3 (by omega)) rfl (by decide)) rfl (.cons (EvE.glob (hta 4 (by omega)) rfl (by decide)) rfl (.cons (EvE.glob (hta 5 (by omega)) rfl (by decide)) rfl (.cons (EvE.glob (hta 6 (by omega)) rfl (by decide)) rfl .nil))))))
      rotate_left
      · rfl
      · rfl
      refine EvB.cons (EvS.assign (EvE.intN (b := 0) rfl) ?_ rfl rfl)
      refine EvB.cons (EvS.assign (EvE.intN (b := 0) rfl) ?_ rfl rfl)
      refine EvB.cons (EvS.assign EvE.bool ?_ rfl rfl)
      refine EvB.cons (EvS.assign (EvE.list .nil (Nat.zero_le _)) ?_ rfl rfl)
      refine EvB.cons ?_
      refine EvS.for (ps := (List.range ns.length).map fun (i : Nat) => PV.int (i : Nat)) (EvI.range (EvE.conv (EvE.callB (by decide) (by decide +kernel) (by decide) (.cons (EvE.name rfl rfl (by decide)) rfl .nil) (CallOk.lenL (by rw [List.length_map, sizeLine_eq]; omega)) rfl (by decide)) (by rw [List.length_map])) (by rw [sizeLine_eq]; omega) rfl rfl)
        (DInv ps ns ta) ?_ ?_ ?_ ?_ ?_
      · exact ⟨rfl, rfl, rfl, 0, 0, false, [], rfl, rfl, rfl, rfl, by rw [show (2 : Nat) ^ 0 = 1 from rfl, left_start]; rfl, by omega, by omega, by simp, by simp⟩
      · intro i p ρ' hp I
        rw [List.getElem?_map] at hp
        obtain ⟨j, hj, rfl⟩ := Option.map_eq_some_iff.mp hp
        have hi : i < ns.length := by
          have := (List.getElem?_eq_some_iff.mp hj).1
          simpa using this
        have hji : j = i := by
          rw [List.getElem?_range hi] at hj
          exact (Option.some.inj hj).symm
        subst hji
        refine ⟨_, .name, EvF.mono (deeds_turn L a cd ps ns ta hta hg hpl h8 hns j hi _ ⟨I.numbers, I.pieces, I.tables, I.st⟩ rfl) fun o ρ'' h => ?_⟩
        cases o with
        | next => exact h
        | brk => exact h.elim
        | ret q => exact h.elim
      · intro ρ' I
        exact EvB.cons (EvS.ret EvE.bool rfl)
      · rfl
      · exact fun _ => rfl
    · rfl
    · rfl
  · rfl
  · rfl
  · exact fun _ => rfl
end
end Mine

end PartD6
section PartD7
open PySem PySem.W PyProof.Rows PySem.Calls
set_option Elab.async false
set_option maxRecDepth 100000
set_option linter.unusedVariables false
namespace Mine
def fillL : List Nat := [36, 327, 1448, 24, 1791, 139, 11]
def numsOf (xs : List Int) : List Nat := ((xs.take 8).map fun x => (x.fmod 1000000000).toNat) ++ fillL.drop xs.length
theorem nums_len (xs : List Int) : 1 ≤ (numsOf xs).length ∧ (numsOf xs).length ≤ 8 := by
  unfold numsOf fillL
  rw [List.length_append, List.length_map, List.length_take, List.length_drop]
  simp only [List.length_cons, List.length_nil]
  omega
theorem nums_lt (xs : List Int) : ∀ x ∈ numsOf xs, x < 1000000000 := by
  intro x hx
  rcases List.mem_append.mp hx with hx | hx
  · obtain ⟨y, _, rfl⟩ := List.mem_map.mp hx
    have h0 := Int.fmod_nonneg_of_pos y (show (0 : Int) < 1000000000 by decide)
    have h1 := Int.fmod_lt_of_pos y (show (0 : Int) < 1000000000 by decide)
    omega
  · have := List.mem_of_mem_drop hx
    unfold fillL at this
    simp only [List.mem_cons, List.not_mem_nil, or_false] at this
    omega
def modPV (p : PV) : Option PV := match p with
  | .int i => some (.int (i.fmod 1000000000))
  | _ => none
theorem mod_eq (xs : List Int) : (xs.map PV.int).filterMap modPV = (xs.map fun x => (x.fmod 1000000000).toNat).map fun (x : Nat) => PV.int (x : Nat) := by
  rw [List.filterMap_map, List.map_map]
  refine (filterMap_some' (fun i : Int => PV.int (i.fmod 1000000000)) _).trans (List.map_congr_left fun i _ => ?_)
  show PV.int _ = PV.int _
  rw [Int.toNat_of_nonneg (Int.fmod_nonneg_of_pos i (by decide))]
theorem stays_none {h h' : Heap} (k : Ext h h') {b : Addr} (e : h'.get? b = none) : h.get? b = none := by
  cases q : h.get? b with
  | none => rfl
  | some o => rw [k b o q] at e; cases e
set_option maxHeartbeats 4000000 in
theorem law_call {w : World} {mg : Str → Option Value} {A : Around} {s : Shared} {Q : Value → Shared → Prop} {E : Value → Shared → Prop} {a : Addr} {xs : List Int} {v : Value} (ha : AOk 5 A) (hfr : A.frames = some [])
    (W : W0 w mg s.heap) (ht : 0 < s.toks) (hm : mg "law" = some (.ref a)) (hv : Rep s.heap (.lst (xs.map PV.int)) v) (hx : xs.length ≤ 1048576)
    (hQ : ∀ h' tk, s.heap.StaysIn h' → Q (.bool true) { s with heap := h', toks := tk }) : wpAny (model p0 w) A (call (.ref a) [v]) Q E s := by
  have hta : ∀ t, t < 7 → ∃ b, mg (tabName t) = some (.ref b) := fun t h => let ⟨b, e, _⟩ := W.fn _ (tab_mem h); ⟨b, e⟩
  obtain ⟨ta, hta⟩ : ∃ ta : Nat → Addr, ∀ t, t < 7 → mg (tabName t) = some (.ref (ta t)) :=
    ⟨fun t => if h : t < 7 then (hta t h).choose else 0, fun t h => by dsimp only; rw [dif_pos h]; exact (hta t h).choose_spec⟩
  refine callRaw ["script"] (args := [.lst (xs.map PV.int)]) (by decide) rfl (fun pm cd doc vs e => by match vs, e with | [v], _ => rfl) (by decide) rfl (by have := ha.depth; omega) W ht hm (by unfold RepL; exact ⟨v, [], rfl, hv, by unfold RepL; rfl⟩) fun cd h₁ tk z S O => ?_
  generalize hL : s.heap.objs.size = L at *
  refine wpAny_execs_cons ?_
  refine (EvS.assign (n := 4) (p := numsPV (numsOf xs)) (P := fun o ρ' => o = .next ∧ ρ' = upd (bindP ["script"] [.lst (xs.map PV.int)]) "numbers" (numsPV (numsOf xs))) ?_ ⟨rfl, rfl⟩ rfl rfl) _ _ _ _ _ (ha.deeper _) O S z fun o ρ' f h₂ t₂ z₂ hP hO S₂ hB => ?_
  · have e1 : numsPV (numsOf xs) = .lst ((((xs.take 8).map PV.int).filterMap modPV) ++ (fillL.map fun (x : Nat) => PV.int (x : Nat)).drop xs.length) := by
      unfold numsPV numsOf
      rw [mod_eq, List.map_append, List.map_drop]
    rw [e1]
    refine EvE.bin (a := .lst (((xs.take 8).map PV.int).filterMap modPV)) (b := .lst ((fillL.map fun (x : Nat) => PV.int (x : Nat)).drop xs.length)) ?_ ?_ (Op2.addL ?_)
    · refine EvE.comp (ys := []) (cl := []) modPV ?_ (EvI.list (EvE.sliceL (l := xs.map PV.int) (l' := (xs.take 8).map PV.int) (a := none) (b := some 8) (EvE.name rfl rfl (by decide)) .none (.some EvE.int) ?_ ?_) (.inl ⟨_, _, rfl⟩) (.inl ⟨_, _, rfl⟩)) ?_ ?_ (fun _ => rfl)
      · exact ⟨rfl, rfl, rfl, rfl, rfl, fun y hy => (nomatch hy), fun y c hc => (nomatch hc), rfl, rfl⟩
      · rw [List.length_map, sizeLine_eq]; omega
      · intro h vs r
        refine ⟨vs.take 8, ?_, ?_⟩
        · exact slicePick_upto' vs.toArray 8
        · have := r.take 8
          rw [← List.map_take] at this
          exact this
      · rw [List.length_map, List.length_take, sizeLine_eq]; omega
      · intro C p hp
        obtain ⟨i, hi, rfl⟩ := List.mem_map.mp hp
        refine ⟨_, true, .name, .nil, fun _ => ⟨_, rfl, rfl, ?_⟩, fun q => nomatch q⟩
        exact EvE.bin (EvE.name rfl rfl (by decide)) (EvE.conv (EvE.bin EvE.int EvE.int (Op2.powI (by decide) (by decide) (by decide))) (congrArg PV.int (show (10 : Int) ^ (9 : Int).toNat = 1000000000 by decide))) (Op2.modI (by decide))
    · refine EvE.sliceL (l := fillL.map fun (x : Nat) => PV.int (x : Nat)) (a := some (xs.length : Nat)) (b := none) (EvE.list ?_ ?_) (.some (EvE.conv (EvE.callB (by decide) (by decide +kernel) (by decide) (.cons (EvE.name rfl rfl (by decide)) rfl .nil) (CallOk.lenL (by rw [List.length_map, sizeLine_eq]; omega)) rfl (by decide)) (by rw [List.length_map]))) .none ?_ ?_
      · exact .cons EvE.int rfl (.cons EvE.int rfl (.cons EvE.int rfl (.cons EvE.int rfl (.cons EvE.int rfl (.cons EvE.int rfl (.cons EvE.int rfl .nil))))))
      · rw [List.length_map, sizeLine_eq]; decide
      · rw [List.length_map, sizeLine_eq]; decide
      · intro h vs r
        exact ⟨vs.drop xs.length, slicePick_from' vs.toArray xs.length, r.drop xs.length⟩
    · have := nums_len xs
      rw [mod_eq, List.length_map, List.length_map, List.length_drop, List.length_map, List.length_take, sizeLine_eq]
      unfold fillL
      simp only [List.length_cons, List.length_nil]
      omega
  obtain ⟨rfl, rfl⟩ := hP
  have e : f = .next := hO
  subst e
  show wpAny _ _ (execs _ _) _ _ _
  obtain ⟨aD, hmD, _⟩ := W.fn "_law_deeds" (by decide)
  refine wpAny_execs_cons (wpAny_Return_some (wpAny_Call_NameR (EvE.glob (n := 4) hmD rfl (by decide) _ _ _ _ _ (ha.deeper _) S₂ z₂ fun u h₃ t₃ z₃ k₃ r₃ => ?_)))
  obtain rfl := r₃.r
  have S₃ := S₂.ext k₃
  obtain ⟨a', e, oD, pm, cdD, doc, prs, bd, sc, hd, hoD, hdata, hcd⟩ := S₃.world.fn "_law_deeds" (by decide)
  rw [hmD] at e
  cases e
  refine callWith_function (o := oD) (evalArgs_row (n := 4) (EvL.cons (EvE.name (p := numsPV (numsOf xs)) rfl rfl (by decide)) rfl .nil) _ _ _ _ _ (ha.deeper _) S₃ z₃ fun vs h₄ t₄ z₄ k₄ r₄ => ⟨⟨k₄ _ _ hoD, hdata⟩, ?_⟩)
  have S₄ := S₃.ext k₄
  clear hdata hcd hoD hd
  obtain ⟨h1, h8⟩ := nums_len xs
  have hlt := nums_lt xs
  generalize numsOf xs = ns at *
  refine callRaw (body := bodyOf "_law_deeds") (scope := scopeOf "_law_deeds") ["numbers"] (args := [numsPV ns]) (by decide) rfl (fun pm cd doc vs e => by match vs, e with | [v], _ => rfl) (by decide) rfl (by show A.depth + 1 < _; have := ha.depth; omega) S₄.world z₄ hmD r₄ fun cdQ h₅ t₅ z₅ S₅ O₅ => ?_
  have kb : Ext s.heap h₄ := S₄.keep
  have S₅' : Sta w mg (envOfC "_law_deeds" (scopeOf "_law_deeds") h₄.objs.size aD cdQ) s.heap h₅ (bindP ["numbers"] [numsPV ns]) := ⟨S₅.kind, S₅.glob, S₅.bi, W, kb.trans S₅.keep, S₅.loc, S₅.cel, S₅.cells⟩
  obtain ⟨mL, hnL, _⟩ := (S₄.ext S₅.keep).loc
  obtain ⟨mL4, hnL4, _⟩ := S₄.loc
  have hL4 : (envOfC "law" (scopeOf "law") L a cd).locals < h₄.objs.size := hnL4.lt
  have hl0 : s.heap.get? L = none := by rw [← hL]; exact fresh_size _
  refine deeds_body h₄.objs.size aD cdQ [envOfC "law" (scopeOf "law") L a cd] s.heap ns ta hta h8 h1 hlt _ _ _ _ ?_ ?_ ?_ S₅' z₅ ?_ fun o ρ' f h' tk' z' hP hO S' FF => ?_
  · exact ((ha.deeper _).deeper _)
  · exact Around.frames_deeper (Around.frames_deeper hfr)
  · refine ⟨⟨stays_none kb O₅.loc, fun x c hc => ⟨stays_none kb (O₅.cel x c hc).1, (O₅.cel x c hc).2⟩, O₅.inj⟩, fun x hx L' hL' => ?_, rfl⟩
    obtain rfl := List.mem_singleton.mp hx
    have e : L = L' := Option.some.inj hL'
    subst e
    refine ⟨Nat.ne_of_lt hL4, fun y hy => ?_⟩
    obtain ⟨oL, _, _, hoL, _⟩ := hnL4
    have := (O₅.cel y _ hy).1
    rw [show h₄.get? L = some oL from hoL] at this
    cases this
  · exact Heap.FunFrames.cons (fun q => nomatch q) rfl hnL hl0 trivial
  · cases o with
    | next => cases hP
    | brk => exact hP.elim
    | ret q =>
      have e : q = .bool true := hP
      subst e
      obtain ⟨u, rfl, r⟩ := hO
      obtain rfl := r.b
      exact hQ h' tk' S'.keep
end Mine

end PartD7
section PartH0
open PySem PySem.W PyProof.Rows PySem.Calls
set_option Elab.async false
set_option maxRecDepth 100000
set_option linter.unusedVariables false
namespace Mine
/-! ## from a proof of the top's rest to its run -/
theorem fin_done {o : Outcome} {s s' : Shared} {f : Flow} (h : finish o s = .halt (.done f) s') : s' = s ∧ o = .done f := by
  unfold finish at h
  split at h
  · cases h
  · cases h; exact ⟨rfl, rfl⟩
theorem step_done {den : Code → Sem Fin} {p : Program} {w : World} {s s' : Shared} {t : Thread} {f : Flow} (h : step den p w s t = .halt (.done f) s') : s' = s ∧ through t = true := by
  obtain ⟨cur, code, pos, stack⟩ := t
  cases cur with
  | pure fin =>
    cases fin with
    | again c => cases h
    | done g =>
      cases stack with
      | nil => exact ⟨(fin_done h).1, rfl⟩
      | cons F r => cases F <;> cases h
  | raise e =>
    cases stack with
    | nil => exact absurd (fin_done h).2 (by nofun)
    | cons F r => cases F <;> cases h
  | finish e => exact absurd (fin_done h).2 (by nofun)
  | load a part k => unfold step at h; dsimp only at h; split at h <;> cases h
  | update a part f k => unfold step at h; dsimp only at h; split at h <;> cases h
  | choose src n k => unfold step at h; dsimp only at h; split at h <;> cases h
  | genState g k => unfold step at h; dsimp only at h; split at h <;> cases h
  | resume g r l k => unfold step at h; dsimp only at h; (repeat' split at h) <;> cases h
  | yield v g l k => unfold step at h; dsimp only at h; (repeat' split at h) <;> cases h
  | fork c k => first | cases h | (unfold step at h; dsimp only at h; (repeat' split at h) <;> cases h)
  | await a g d l k => first | cases h | (unfold step at h; dsimp only at h; (repeat' split at h) <;> cases h)
  | register a k => first | cases h | (unfold step at h; dsimp only at h; (repeat' split at h) <;> cases h)
  | call c hh g l k => first | cases h | (unfold step at h; dsimp only at h; (repeat' split at h) <;> cases h)
  | _ => cases h

theorem runN_pred {den : Code → Sem Fin} {p : Program} {w : World} {n : Nat} {s s' : Shared} {t : Thread} {f : Flow} (h : runN den p w (n + 1) s t = .halted (.done f) s') :
    (∃ s₁, runN den p w n s t = .halted (.done f) s₁) ∨ ∃ t₁, runN den p w n s t = .running s' t₁ ∧ through t₁ = true := by
  induction n generalizing s t with
  | zero =>
    simp only [runN] at h
    cases hs : step den p w s t with
    | go s₂ t₂ => simp only [hs] at h; cases h
    | halt o s₂ =>
      simp only [hs] at h
      injection h with h1 h2
      subst h1 h2
      obtain ⟨rfl, ht⟩ := step_done hs
      exact .inr ⟨t, rfl, ht⟩
  | succ n ih =>
    rw [runN] at h
    cases hs : step den p w s t with
    | go s₂ t₂ =>
      simp only [hs] at h
      rcases ih h with ⟨s₁, e⟩ | ⟨t₁, e, x⟩
      · exact .inl ⟨s₁, by rw [runN, hs]; exact e⟩
      · exact .inr ⟨t₁, by rw [runN, hs]; exact e, x⟩
    | halt o s₂ =>
      simp only [hs] at h
      injection h with h1 h2
      subst h1 h2
      exact .inl ⟨s₂, by rw [runN, hs]⟩

theorem top_through {w : World} {p : Program} {s : Shared} {t : Sem Fin} {c : Code} {pos q : Pos} {P : Shared → Prop} (hz : s.asleep)
    (h : Sem.wp (model p w) (Ctx.of c [topFrame q]) t (Sem.finPost (model p w) (Ctx.of c [topFrame q]) fun r s' => r = .ok .next ∧ P s' ∧ s'.gens = #[]) (fun e _ s' => False) pos s) :
    ∃ n s₁ t₁, schedN (denote table) p w n (.single s ⟨t, c, pos, [topFrame q]⟩) = .running (.single s₁ t₁) ∧ through t₁ = true ∧ P s₁ ∧ s₁.gens = #[] ∧ s₁.heap.life = s.heap.life := by
  have h' : Sem.wp (model p w) (Ctx.of c [topFrame q]) t (Sem.finPost (model p w) (Ctx.of c [topFrame q]) fun r s' => r = .ok .next ∧ P s' ∧ s'.gens = #[]) (fun e _ s' => (Except.error e : Result) = .ok Flow.next ∧ P s' ∧ s'.gens = #[]) pos s :=
    Sem.wp_mono _ _ _ (fun _ _ _ x => x) (fun _ _ _ x => x.elim) _ _ h
  obtain ⟨n, r, s', c', p', hn, rfl, hP, hg⟩ := wp_runN (M := model p w) h'
  have e1 : (model p w).runN (n + 1) s ⟨t, c, pos, [topFrame q]⟩ = .running s' ⟨leafOf (.ok (.ret .none)), .builtin "claim.caller" {}, q, []⟩ := by
    rw [runN_snoc hn, step_leaf_ret]
    rfl
  have e2 : (model p w).runN (n + 1 + 1) s ⟨t, c, pos, [topFrame q]⟩ = .halted (outcomeOf (.ok (.ret .none))) s' := by
    rw [runN_snoc e1, step_leaf_nil]
    simp [finish, hg, leftWithCleanup]
  obtain ⟨s'', hr, hf, hc⟩ := runNI_real (denote table) p w e2 (outcomeOf_ends _)
  obtain rfl := Shared.eq_of_forget_eq hf hg
  have hne : ∀ k s₂, runN (denote table) p w k s ⟨t, c, pos, [topFrame q]⟩ ≠ .halted (.unsupported "lifetime:generator-with-cleanup-left-suspended") s₂ := by
    intro k s₂ hk
    have a := runN_mono (denote table) p w (n + 1 + 1) k s _ _ s'' hr
    have b := runN_mono (denote table) p w k (n + 1 + 1) s _ _ s₂ hk
    rw [Nat.add_comm, b] at a
    injection a with a1 _
    cases a1
  have hs := schedN_eq_runN (denote table) p w s ⟨t, c, pos, [topFrame q]⟩ hz ⟨hc, hne⟩ (n + 1)
  rcases runN_pred hr with ⟨s₁, e⟩ | ⟨t₁, e, ht⟩
  · obtain ⟨s₃, e3, _⟩ := runN_calm_runNI (denote table) p w e hc
    have e4 : (model p w).runN (n + 1) s ⟨t, c, pos, [topFrame q]⟩ = .halted (outcomeOf (.ok (.ret .none))) s₃ := e3
    rw [e1] at e4
    cases e4
  · rw [e] at hs
    exact ⟨n + 1, s'', t₁, hs, ht, hP, hg, runN_life_running e⟩

theorem topGo_sched {p : Program} {w : World} {n₀ : Nat} {ann : Option Value} : ∀ (n : Nat) (s : Shared) (t : Thread) (s₁ : Shared) (t₁ : Thread), s.asleep → topGo table p w n₀ ann n s t = some (s₁, t₁) →
    (∀ N, schedN (denote table) p w (n + N) (.single s t) = schedN (denote table) p w N (.single s₁ t₁)) ∧ s₁.heap.life = s.heap.life
  | 0, s, t, s₁, t₁, _, h => by
    obtain ⟨rfl, rfl⟩ : s = s₁ ∧ t = t₁ := by simpa [topGo] using h
    exact ⟨fun N => by rw [Nat.zero_add], rfl⟩
  | n + 1, s, t, s₁, t₁, hz, h => by
    unfold topGo at h
    cases ht : through t with
    | true => rw [ht] at h; cases h
    | false =>
      rw [ht] at h
      cases hk : stepOk n₀ ann t with
      | false => rw [hk] at h; cases h
      | true =>
        rw [hk] at h
        cases hs : step (denote table) p w s t with
        | halt o s' => rw [hs] at h; cases h
        | go s' t' =>
          rw [hs] at h
          have hl := step_life (denote table) p w s s' t t' hs
          obtain ⟨a, b⟩ := topGo_sched n s' t' s₁ t₁ (Shared.asleep_of_life hl hz) h
          have e : sstep (denote table) p w (.single s t) = .go (.single s' t') := by
            rcases sstep_single (denote table) p w s t (Bool.and_eq_true_iff.mp hk).1 hz with e | e
            · rw [e, hs]; rfl
            · rw [hs] at e; cases e
          refine ⟨fun N => ?_, b.trans hl⟩
          rw [show n + 1 + N = n + N + 1 by omega]
          simp only [schedN, e]
          exact a N
end Mine

end PartH0
section PartH1
open PySem PySem.W PyProof.Rows PySem.Calls
set_option Elab.async false
set_option maxRecDepth 100000
set_option linter.unusedVariables false
namespace Mine
/-! ## a long written table of ints and texts -/
def Told : List (Int × Str) → List (Int × Value) → Prop
  | [], [] => True
  | d :: D, kv :: kvs => kv.1 = d.1 ∧ (∃ t, kv.2 = .str d.2 t) ∧ Told D kvs
  | _, _ => False
theorem Told.append : ∀ {D D' : List (Int × Str)} {kvs kvs' : List (Int × Value)}, Told D kvs → Told D' kvs' → Told (D ++ D') (kvs ++ kvs')
  | [], _, [], _, _, y => y
  | [], _, _ :: _, _, x, _ => x.elim
  | _ :: _, _, [], _, x, _ => x.elim
  | _ :: _, _, _ :: _, _, ⟨a, b, c⟩, y => ⟨a, b, Told.append c y⟩
theorem Told.keys : ∀ {D : List (Int × Str)} {kvs : List (Int × Value)}, Told D kvs → kvs.map (·.1) = D.map (·.1)
  | [], [], _ => rfl
  | [], _ :: _, x => x.elim
  | _ :: _, [], x => x.elim
  | _ :: _, _ :: _, ⟨a, b, c⟩ => by rw [List.map_cons, List.map_cons, a, Told.keys c]
theorem Told.length {D : List (Int × Str)} {kvs : List (Int × Value)} (x : Told D kvs) : kvs.length = D.length := by
  have := congrArg List.length x.keys
  simpa using this
theorem Told.look : ∀ {D : List (Int × Str)} {kvs : List (Int × Value)}, Told D kvs → ∀ k, match D.lookup k with | some x => ∃ t, valueAt kvs k = some (.str x t) | none => valueAt kvs k = none
  | [], [], _, k => rfl
  | [], _ :: _, x, _ => x.elim
  | _ :: _, [], x, _ => x.elim
  | (i, x) :: D, (i', v) :: kvs, ⟨a, b, c⟩, k => by
    have ih := Told.look c k
    dsimp only at a b
    subst a
    by_cases h : k = i'
    · subst h
      rw [List.lookup_cons, beq_self_eq_true]
      obtain ⟨t, rfl⟩ := b
      exact ⟨t, by simp [valueAt]⟩
    · have hb : (k == i') = false := beq_eq_false_iff_ne.mpr h
      have hne : ¬ i' = k := fun e => h e.symm
      have e : valueAt ((i', v) :: kvs) k = valueAt kvs k := by simp [valueAt, hne]
      rw [List.lookup_cons, hb]
      rw [e]
      exact ih

def GivesI (t : Sem Value) (i : Int) : Prop := ∀ (w : World) (A : Around) (E : Value → Shared → Prop) (s : Shared) (Q : Value → Shared → Prop), (∀ u tk, Q (.int i u) { s with toks := tk }) → wpAny (model p0 w) A t Q E s
def GivesS (t : Sem Value) (x : Str) : Prop := ∀ (w : World) (A : Around) (E : Value → Shared → Prop) (s : Shared) (Q : Value → Shared → Prop), (∀ u tk, Q (.str x u) { s with toks := tk }) → wpAny (model p0 w) A t Q E s
inductive Lits : List (Sem Value × Sem Value) → List (Int × Str) → Prop
  | nil : Lits [] []
  | cons {k v : Sem Value} {i : Int} {x : Str} {P : List (Sem Value × Sem Value)} {D : List (Int × Str)} : GivesI k i → GivesS v x → Lits P D → Lits ((k, v) :: P) ((i, x) :: D)
theorem Lits.length {P D} (h : Lits P D) : P.length = D.length := by
  induction h with
  | nil => rfl
  | cons _ _ _ ih => rw [List.length_cons, List.length_cons, ih]
theorem Lits.append {P D P' D'} (h : Lits P D) (h' : Lits P' D') : Lits (P ++ P') (D ++ D') := by
  induction h with
  | nil => exact h'
  | cons a b _ ih => exact .cons a b ih

section
variable {w : World} {A : Around} {E : Value → Shared → Prop} {s : Shared}

def ToldV : List (Int × Str) → List (Value × Value) → Prop
  | [], [] => True
  | d :: D, kv :: kvs => (∃ u, kv.1 = .int d.1 u) ∧ (∃ t, kv.2 = .str d.2 t) ∧ ToldV D kvs
  | _, _ => False
theorem evalPairs_told : ∀ {P : List (Sem Value × Sem Value)} {D : List (Int × Str)} {s : Shared} {Q : List (Value × Value) → Shared → Prop}, Lits P D → (∀ vs tk, ToldV D vs → Q vs { s with toks := tk }) → wpAny (model p0 w) A (evalPairs P) Q E s
  | _, _, s, Q, .nil, h => evalPairs_nil (h [] s.toks trivial)
  | _, _, s, Q, .cons hk hv r, h => evalPairs_cons (hk _ _ _ _ _ fun u t₁ => hv _ _ _ _ _ fun t t₂ => evalPairs_told r fun vs tk hvs => h _ tk ⟨⟨u, rfl⟩, ⟨t, rfl⟩, hvs⟩)

theorem fresh_stored {kvs : List (Int × Value)} {k : Int} {v : Value} (h : k ∉ kvs.map (·.1)) : stored kvs k v = kvs ++ [(k, v)] := by
  unfold stored
  rw [if_neg]
  rw [List.any_eq_true]
  rintro ⟨kv, hkv, he⟩
  exact h (List.mem_map.mpr ⟨kv, hkv, of_decide_eq_true he⟩)

theorem isInt_self {k : Int} {u : Tok} : (intKind p0 w).is k (.int k u) = true := by
  show Value.isInt k (.int k u) = true
  simp [Value.isInt]

/-- one more pair, under a key that the table lacks -/
theorem set_told {d : Addr} {D : List (Int × Str)} {kvs : List (Int × Value)} {k : Int} {x : Str} {u t : Tok} {Q : Unit → Shared → Prop} (hT : Told D kvs) (hm : s.heap.DictOf (intKind p0 w) d kvs) (hf : k ∉ D.map (·.1)) (hsz : D.length ≤ 10000)
    (hQ : ∀ h' tk kvs', Told (D ++ [(k, x)]) kvs' → h'.DictOf (intKind p0 w) d kvs' → Heap.SameBut d s.heap h' → Q () { s with heap := h', toks := tk }) : wpAny (model p0 w) A (dictSet d (.int k u) (.str x t)) Q E s := by
  refine wpAny_dictSet_pairs (hsz := by rw [hT.length, sizeLine_eq]; omega) (isInt_self (k := k)) hm fun h' hm' hs => ?_
  rw [fresh_stored (by rw [hT.keys]; exact hf)] at hm'
  exact hQ h' _ _ (hT.append (D' := [(k, x)]) (kvs' := [(k, .str x t)]) ⟨rfl, ⟨t, rfl⟩, trivial⟩) hm' hs

theorem nodup_mid {D D' : List (Int × Str)} {k : Int} {x : Str} (h : ((D ++ (k, x) :: D').map (·.1)).Nodup) : k ∉ D.map (·.1) := by
  rw [List.map_append, List.map_cons, List.nodup_append] at h
  intro hk
  exact h.2.2 k hk k (.head _) rfl

theorem storeAll_told {d : Addr} : ∀ {D : List (Int × Str)} {vs : List (Value × Value)} {D₀ : List (Int × Str)} {kvs : List (Int × Value)} {s : Shared} {Q : PUnit → Shared → Prop}, ToldV D vs → Told D₀ kvs → s.heap.DictOf (intKind p0 w) d kvs → ((D₀ ++ D).map (·.1)).Nodup → (D₀ ++ D).length ≤ 10000 →
    (∀ h' tk kvs', Told (D₀ ++ D) kvs' → h'.DictOf (intKind p0 w) d kvs' → Heap.SameBut d s.heap h' → Q PUnit.unit { s with heap := h', toks := tk }) →
    wpAny (model p0 w) A (forIn vs PUnit.unit fun (x : Value × Value) (_ : PUnit) => (do dictSet d x.1 x.2; pure (ForInStep.yield PUnit.unit) : Sem (ForInStep PUnit))) Q E s
  | [], [], D₀, kvs, s, Q, _, hT, hm, _, _, hQ => by
    rw [List.forIn_nil]
    exact wpAny_pure (hQ s.heap s.toks kvs (by rw [List.append_nil]; exact hT) hm (Heap.SameBut.refl _ _))
  | (i, x) :: D, (kv, vv) :: vs, D₀, kvs, s, Q, ⟨⟨u, e1⟩, ⟨t, e2⟩, hv⟩, hT, hm, hn, hl, hQ => by
    dsimp only at e1 e2
    subst e1 e2
    rw [List.forIn_cons]
    refine wpAny_bind (wpAny_bind (set_told hT hm (nodup_mid hn) (by rw [List.length_append] at hl; omega) fun h₁ t₁ kvs₁ T₁ m₁ s₁ => wpAny_pure ?_))
    have e : D₀ ++ (i, x) :: D = D₀ ++ [(i, x)] ++ D := by rw [List.append_assoc]; rfl
    rw [e] at hn hl hQ
    exact storeAll_told hv T₁ m₁ hn hl fun h' tk kvs' T m z => hQ h' tk kvs' T m (s₁.trans z)
  | [], _ :: _, _, _, _, _, h, _, _, _, _, _ => h.elim
  | _ :: _, [], _, _, _, _, h, _, _, _, _, _ => h.elim

theorem long_told {d : Addr} : ∀ {P : List (Sem Value × Sem Value)} {D : List (Int × Str)} {D₀ : List (Int × Str)} {kvs : List (Int × Value)} {s : Shared} {Q : PUnit → Shared → Prop}, Lits P D → Told D₀ kvs → s.heap.DictOf (intKind p0 w) d kvs → ((D₀ ++ D).map (·.1)).Nodup → (D₀ ++ D).length ≤ 10000 →
    (∀ h' tk kvs', Told (D₀ ++ D) kvs' → h'.DictOf (intKind p0 w) d kvs' → Heap.SameBut d s.heap h' → Q PUnit.unit { s with heap := h', toks := tk }) →
    wpAny (model p0 w) A (forIn P PUnit.unit fun (x : Sem Value × Sem Value) (_ : PUnit) => (do
      let kv ← x.1
      let vv ← holding [kv] x.2
      holding [kv, vv] (dictSet d kv vv)
      pure (ForInStep.yield PUnit.unit) : Sem (ForInStep PUnit))) Q E s
  | _, _, D₀, kvs, s, Q, .nil, hT, hm, _, _, hQ => by
    rw [List.forIn_nil]
    exact wpAny_pure (hQ s.heap s.toks kvs (by rw [List.append_nil]; exact hT) hm (Heap.SameBut.refl _ _))
  | _, _, D₀, kvs, s, Q, .cons (i := i) (x := x) (D := D) hk hv r, hT, hm, hn, hl, hQ => by
    rw [List.forIn_cons]
    refine wpAny_bind (wpAny_bind (hk _ _ _ _ _ fun u t₁ => wpAny_bind (wpAny_holding (hv _ _ _ _ _ fun t t₂ => wpAny_bind (wpAny_holding ?_)))))
    refine set_told (s := { s with toks := t₂ }) hT hm (nodup_mid hn) (by rw [List.length_append] at hl; omega) fun h₁ t₁ kvs₁ T₁ m₁ s₁ => wpAny_pure ?_
    have e : D₀ ++ (i, x) :: D = D₀ ++ [(i, x)] ++ D := by rw [List.append_assoc]; rfl
    rw [e] at hn hl hQ
    exact long_told r T₁ m₁ hn hl fun h' tk kvs' T m z => hQ h' tk kvs' T m (s₁.trans z)

theorem sub_told {P : List (Sem Value × Sem Value)} {D : List (Int × Str)} {Q : Addr → Shared → Prop} (hP : Lits P D) (hn : (D.map (·.1)).Nodup) (hl : D.length ≤ 17)
    (hQ : ∀ h' tk kvs, Told D kvs → h'.DictOf (intKind p0 w) s.heap.objs.size kvs → (∀ b o, s.heap.get? b = some o → h'.get? b = some o) → Q s.heap.objs.size { s with heap := h', toks := tk }) : wpAny (model p0 w) A (subDict P) Q E s := by
  have keep : ∀ h', Heap.SameBut s.heap.objs.size (s.heap.push { cls := .type "dict", data := .dict #[] }) h' → ∀ b o, s.heap.get? b = some o → h'.get? b = some o := fun h' z b o e =>
    (z.2 b (Nat.ne_of_lt (Heap.lt_size e))).trans (Heap.get?_push_of_some _ e)
  unfold subDict
  refine wpAny_bind (wpAny_alloc (wpAny_bind (wpAny_holding ?_)))
  split
  · refine wpAny_bind (evalPairs_told hP fun vs tk hv => wpAny_holding ?_)
    refine wpAny_bind (storeAll_told (s := { s with heap := s.heap.push { cls := .type "dict", data := .dict #[] }, toks := tk }) (D₀ := []) (kvs := []) hv trivial (Heap.DictOf.new _) hn (by rw [List.nil_append]; omega) fun h' tk' kvs T m z => ?_)
    exact wpAny_pure (wpAny_pure (hQ h' tk' kvs T m (keep h' z)))
  · refine wpAny_bind (wpAny_rule ?_)
    refine wpAny_bind (long_told (s := { s with heap := s.heap.push { cls := .type "dict", data := .dict #[] } }) (D₀ := []) (kvs := []) hP trivial (Heap.DictOf.new _) hn (by rw [List.nil_append]; omega) fun h' tk' kvs T m z => ?_)
    exact wpAny_pure (wpAny_pure (hQ h' tk' kvs T m (keep h' z)))
end
end Mine

end PartH1
section PartH2
open PySem PySem.W PyProof.Rows PySem.Calls
set_option Elab.async false
set_option maxRecDepth 100000
set_option linter.unusedVariables false
namespace Mine
section
variable {w : World} {A : Around} {E : Value → Shared → Prop} {s : Shared}

theorem findIdx_fresh {es : Array DictEntry} {kvs : List (Int × Value)} {k : Int} (hp : Pairs (intKind p0 w) es.toList kvs) (hf : k ∉ kvs.map (·.1)) : (es.findIdx? fun e => (intKind p0 w).is k e.key) = none := by
  have h1 : (es.toList.findIdx? fun e => (intKind p0 w).is k e.key) = none := by
    rw [hp.findIdx k, List.findIdx?_eq_none_iff]
    intro kv hkv
    exact decide_eq_false fun e => hf (List.mem_map.mpr ⟨kv, hkv, e⟩)
  rw [← h1]
  obtain ⟨l⟩ := es
  simp

theorem put_told {d : Addr} {kvs : List (Int × Value)} {k : Int} {key v : Value} {Q : Unit → Shared → Prop} (hkey : (intKind p0 w).is k key = true) (hm : s.heap.DictOf (intKind p0 w) d kvs) (hf : k ∉ kvs.map (·.1)) (hsz : kvs.length ≤ 10000)
    (hQ : ∀ h', h'.DictOf (intKind p0 w) d (kvs ++ [(k, v)]) → Heap.SameBut d s.heap h' → Q () { s with heap := h' }) : wpAny (model p0 w) A (dictPut d ((intKind p0 w).hash k) key v) Q E s := by
  obtain ⟨o, es, ep, ho, hc, hd, hk, hp, hn⟩ := hm
  have hes : es.size ≤ sizeLine := by
    have e1 := hp.length
    rw [Array.length_toList] at e1
    rw [sizeLine_eq]; omega
  unfold dictPut
  refine wpAny_bind (wpAny_dictFind_of hkey ho hd hk ?_)
  rw [findIdx_fresh hp hf]
  refine wpAny_updateDictKeys (hz := hes) ho hd (hQ _ ⟨_, _, ep + 1, Heap.get?_update_self _ ho (Obj.isFreed_of_dict (Obj.data_mapDictKeys hd _)), hc.mapDictKeys _, Obj.data_mapDictKeys hd _, hk.push hkey _, ?_, ?_⟩ (Heap.SameBut.update ..))
  · have := hp.append hkey ((intKind p0 w).hash k) v
    rw [Array.toList_push]
    exact this
  · rw [List.map_append, List.nodup_append]
    refine ⟨hn, by simp, ?_⟩
    intro a ha b hb e
    simp only [List.map_cons, List.map_nil, List.mem_singleton] at hb
    subst hb
    exact hf (e ▸ ha)

theorem nodup_cut {kvs more : List (Int × Value)} {i : Nat} {k : Int} {v : Value} (hn : ((kvs ++ more).map (·.1)).Nodup) (hi : more[i]? = some (k, v)) : k ∉ (kvs ++ more.take i).map (·.1) := by
  have e : more = more.take i ++ (k, v) :: more.drop (i + 1) := by
    have hlt := (List.getElem?_eq_some_iff.mp hi).1
    have hg := (List.getElem?_eq_some_iff.mp hi).2
    rw [← hg, List.getElem_cons_drop, List.take_append_drop]
  rw [e, ← List.append_assoc, List.map_append, List.map_cons, List.nodup_append] at hn
  intro hk
  exact hn.2.2 k hk k (.head _) rfl

theorem merge_told {d o : Addr} {kvs more : List (Int × Value)} {Q : Unit → Shared → Prop} (hdo : d ≠ o) (hoS : (o == sysModules) = false) (hd : s.heap.DictOf (intKind p0 w) d kvs) (hk0 : kvs ≠ []) (ho : s.heap.DictOf (intKind p0 w) o more)
    (hn : ((kvs ++ more).map (·.1)).Nodup) (hl : (kvs ++ more).length ≤ 10000) (hQ : ∀ h', h'.DictOf (intKind p0 w) d (kvs ++ more) → Heap.SameBut d s.heap h' → Q () { s with heap := h' }) : wpAny (model p0 w) A (mergeMapping d (.ref o) false) Q E s := by
  obtain ⟨od, esd, epd, hod, hcd, hdd, hkd, hpd, hnd⟩ := id hd
  obtain ⟨oo, eso, epo, hoo, hco, hdo', hko, hpo, hno⟩ := id ho
  have hlen : more.length = eso.size := by rw [← hpo.length, Array.length_toList]
  have hemp : esd.isEmpty = false := by
    cases h : esd.isEmpty with
    | false => rfl
    | true =>
      have h0 : esd = #[] := Array.isEmpty_iff.mp h
      have := hpd.length
      rw [h0] at this
      exact absurd (List.length_eq_zero_iff.mp (by simpa using this.symm)) hk0
  unfold mergeMapping
  refine wpAny_bind (wpAny_isInstance ho.typeIs isSubtype_dict_dict ?_)
  rw [if_pos rfl]
  refine wpAny_bind (wpAny_specialOf ho.typeIs F.slot_dict_iter.lookup (wpAny_bind (wpAny_pure ?_)))
  rw [beq_self_eq_true]
  dsimp only
  rw [hoS, if_neg Bool.false_ne_true]
  refine wpAny_bind (wpAny_dictEntries hod hdd ?_)
  rw [hemp, if_neg Bool.false_ne_true]
  refine wpAny_bind (wpAny_dictEntries hoo hdo' (wpAny_bind (wpAny_dictEpoch hoo hdo' (wpAny_bind ?_))))
  refine wpAny_forIn_list _
    (fun rest _ s' => ∃ h' i, s' = { s with heap := h' } ∧ rest = List.range' i (eso.size - i) ∧ i ≤ eso.size ∧ h'.DictOf (intKind p0 w) d (kvs ++ more.take i) ∧ h'.get? o = some oo ∧ Heap.SameBut d s.heap h')
    _ ?_ ?_ _ _ ⟨s.heap, 0, rfl, by rw [List.range_eq_range', Nat.sub_zero], Nat.zero_le _, by rw [List.take_zero, List.append_nil]; exact hd, hoo, Heap.SameBut.refl _ _⟩
  · rintro x rest b s' ⟨h', i, rfl, hr, hi, hd', hoo', hs'⟩
    have hlt : i < eso.size := by
      rcases Nat.lt_or_ge i eso.size with h | h
      · exact h
      · rw [Nat.sub_eq_zero_of_le h] at hr; cases hr
    obtain ⟨rfl, hrest⟩ : x = i ∧ rest = List.range' (i + 1) (eso.size - (i + 1)) := by
      have e : eso.size - i = (eso.size - (i + 1)) + 1 := by omega
      rw [e, List.range'_succ] at hr
      injection hr with h1 h2
      exact ⟨h1, h2⟩
    refine wpAny_bind (wpAny_dictEntries hoo' hdo' ?_)
    rw [Array.getElem?_eq_getElem hlt]
    obtain ⟨kv, hkv⟩ : ∃ kv, more[x]? = some kv := ⟨more[x]'(by rw [hlen]; exact hlt), List.getElem?_eq_getElem _⟩
    obtain ⟨k, v⟩ := kv
    have hel : eso.toList[x]? = some eso[x] := by rw [Array.getElem?_toList, Array.getElem?_eq_getElem hlt]
    obtain ⟨hkey, hval⟩ := hpo.get? hel hkv
    obtain ⟨k', hkey', hhash⟩ := hko eso[x] (Array.getElem_mem hlt)
    obtain rfl : k' = k := (intKind p0 w).inj _ _ _ hkey' hkey
    dsimp only
    rw [if_neg Bool.false_ne_true]
    refine wpAny_bind (wpAny_holding ?_)
    rw [hhash, hval]
    have hf := nodup_cut hn hkv
    have hz : (kvs ++ more.take x).length ≤ 10000 := by
      rw [List.length_append, List.length_take]
      rw [List.length_append] at hl
      omega
    refine put_told hkey hd' hf hz fun h'' hd'' hs'' => ?_
    have hoo'' : h''.get? o = some oo := (hs''.2 o (Ne.symm hdo)).trans hoo'
    refine wpAny_bind (wpAny_dictEpoch hoo'' hdo' ?_)
    rw [if_neg (by simp)]
    have e : kvs ++ more.take (x + 1) = kvs ++ more.take x ++ [(k', v)] := by
      rw [List.take_add_one, hkv, List.append_assoc]; rfl
    exact wpAny_pure ⟨h'', x + 1, rfl, hrest, hlt, by rw [e]; exact hd'', hoo'', hs'.trans hs''⟩
  · rintro b s' ⟨h', i, rfl, hr, hi, hd', hoo', hs'⟩
    have hin : i = eso.size := by
      rcases Nat.lt_or_ge i eso.size with h | h
      · have e : eso.size - i = (eso.size - (i + 1)) + 1 := by omega
        rw [e, List.range'_succ] at hr; exact nomatch hr
      · exact Nat.le_antisymm hi h
    rw [hin, ← hlen, List.take_length] at hd'
    exact wpAny_pure (hQ h' hd' hs')
end
end Mine

end PartH2
section PartH3
open PySem PySem.W PyProof.Rows PySem.Calls
set_option Elab.async false
set_option maxRecDepth 100000
set_option linter.unusedVariables false
namespace Mine
section
variable {w : World} {A : Around} {E : Value → Shared → Prop} {s : Shared}
def MainSt (w : World) (N : Nat) (main : Option Addr) (D₀ : List (Int × Str)) (h' : Heap) : Prop :=
  (main = none ∧ D₀ = []) ∨ ∃ d kvs, main = some d ∧ N ≤ d ∧ D₀ ≠ [] ∧ Told D₀ kvs ∧ h'.DictOf (intKind p0 w) d kvs
theorem flush_told {N : Nat} {main : Option Addr} {run : List (Sem Value × Sem Value)} {D₀ D₁ : List (Int × Str)} {Q : Option Addr → Shared → Prop} (hsys : sysModules < N) (hN : N ≤ s.heap.objs.size) (hR : Lits run D₁) (h1 : D₁ ≠ []) (h17 : D₁.length ≤ 17) (hS : MainSt w N main D₀ s.heap)
    (hn : ((D₀ ++ D₁).map (·.1)).Nodup) (hl : (D₀ ++ D₁).length ≤ 10000)
    (hQ : ∀ d h' tk kvs, N ≤ d → Told (D₀ ++ D₁) kvs → h'.DictOf (intKind p0 w) d kvs → (∀ b o, b < N → s.heap.get? b = some o → h'.get? b = some o) → N ≤ h'.objs.size → Q (some d) { s with heap := h', toks := tk }) :
    wpAny (model p0 w) A (if run.isEmpty = true then pure main
              else
                match main with
                | none => do
                  let __do_lift ← subDict run
                  pure (some __do_lift)
                | some d => do
                  let sub ← holding [Value.ref d] (subDict run)
                  (holding [Value.ref d, Value.ref sub] (mergeMapping d (Value.ref sub) false)).onRaise fun x => do
                      let _ ← holding [Value.ref d, x] (runValue (Code.builtin "proto.let_go" { }))
                      pure ()
                  pure (some d)) Q E s := by
  have hemp : run.isEmpty = false := by
    cases hR with
    | nil => exact absurd rfl h1
    | cons _ _ _ => rfl
  rw [hemp, if_neg Bool.false_ne_true]
  rw [List.map_append, List.nodup_append] at hn
  rcases hS with ⟨rfl, rfl⟩ | ⟨d, kvs, rfl, hd, hD, hT, hm⟩
  · refine wpAny_bind (sub_told hR hn.2.1 h17 fun h' tk kvs T m k => wpAny_pure ?_)
    obtain ⟨o, _, _, ho, _⟩ := m.mapOf
    exact hQ _ h' tk kvs hN T m (fun b o _ e => k b o e) (Nat.le_trans hN (Nat.le_of_lt (Heap.lt_size ho)))
  · refine wpAny_bind (wpAny_holding (sub_told hR hn.2.1 h17 fun h' tk kvs' T m k => ?_))
    have hm' : h'.DictOf (intKind p0 w) d kvs := let ⟨o, es, ep, ho, r⟩ := hm; ⟨o, es, ep, k _ _ ho, r⟩
    have hdo : d ≠ s.heap.objs.size := by
      obtain ⟨o, _, _, ho, _⟩ := hm
      exact Nat.ne_of_lt (Heap.lt_size ho)
    refine wpAny_bind (wpAny_onRaise (wpAny_holding (merge_told (s := { s with heap := h', toks := tk }) hdo (beq_eq_false_iff_ne.mpr (Nat.ne_of_gt (Nat.lt_of_lt_of_le hsys hN))) hm' ?_ m ?_ ?_ fun h₂ m₂ s₂ => wpAny_pure ?_)))
    · intro e
      subst e
      have := hT.length
      rw [List.length_nil] at this
      exact hD (List.length_eq_zero_iff.mp this.symm)
    · rw [(hT.append T).keys, List.map_append, List.nodup_append]; exact hn
    · rw [(hT.append T).length]; exact hl
    · refine hQ d h₂ tk _ hd (hT.append T) m₂ (fun b o hb e => (s₂.2 b (Nat.ne_of_lt (Nat.lt_of_lt_of_le hb hd))).trans (k b o e)) ?_
      rw [s₂.1]
      obtain ⟨o, _, _, ho, _⟩ := m
      exact Nat.le_trans hN (Nat.le_of_lt (Heap.lt_size ho))

theorem display_told {P : List (Sem Value × Sem Value)} {D : List (Int × Str)} {Q : Value → Shared → Prop} (hP : Lits P D) (h0 : D ≠ []) (hn : (D.map (·.1)).Nodup) (hl : D.length ≤ 10000) (hsys : sysModules < s.heap.objs.size)
    (hQ : ∀ a h' tk kvs, s.heap.objs.size ≤ a → Told D kvs → h'.DictOf (intKind p0 w) a kvs → (∀ b o, s.heap.get? b = some o → h'.get? b = some o) → Q (.ref a) { s with heap := h', toks := tk }) :
    wpAny (model p0 w) A (dictDisplay (P.map fun p => (some p.1, p.2))) Q E s := by
  unfold dictDisplay
  dsimp only
  refine wpAny_bind ?_
  refine wpAny_forIn_list _
    (fun rest b s' => ∃ P₂ D₀ D₁ D₂ h' tk, rest = P₂.map (fun p => (some p.1, p.2)) ∧ Lits b.2 D₁ ∧ Lits P₂ D₂ ∧ D = D₀ ++ D₁ ++ D₂ ∧ D₁.length ≤ 16 ∧ s' = { s with heap := h', toks := tk } ∧ MainSt w s.heap.objs.size b.1 D₀ h' ∧
      (∀ b o, b < s.heap.objs.size → s.heap.get? b = some o → h'.get? b = some o) ∧ s.heap.objs.size ≤ h'.objs.size)
    _ ?_ ?_ _ _ ⟨P, [], [], D, s.heap, s.toks, rfl, .nil, hP, rfl, Nat.zero_le _, rfl, .inl ⟨rfl, rfl⟩, fun _ _ _ e => e, Nat.le_refl _⟩
  · rintro x rest ⟨main, run⟩ s' ⟨P₂, D₀, D₁, D₂, h', tk, hr, hR, hP₂, hD, h16, rfl, hS, hk, hN⟩
    cases hP₂ with
    | nil => cases hr
    | @cons k v i y P₃ D₃ a b c =>
      rw [List.map_cons] at hr
      injection hr with e1 e2
      subst e1 e2
      dsimp only
      have hR' : Lits (run ++ [(k, v)]) (D₁ ++ [(i, y)]) := hR.append (.cons a b .nil)
      have hD' : D = (D₀ ++ (D₁ ++ [(i, y)])) ++ D₃ := by rw [hD]; simp
      by_cases h17 : ((run ++ [(k, v)]).length == 17) = true
      · rw [if_pos h17]
        have hlen := hR'.length
        rw [beq_iff_eq.mp h17] at hlen
        have hn' := hn
        have hl' := hl
        rw [hD', List.map_append, List.nodup_append] at hn'
        rw [hD', List.length_append] at hl'
        refine wpAny_bind (flush_told (s := { s with heap := h', toks := tk }) hsys hN hR' (by simp) (by omega) hS hn'.1 (by omega) fun d h₂ t₂ kvs hd T m k₂ N₂ => wpAny_pure ?_)
        exact ⟨P₃, D₀ ++ (D₁ ++ [(i, y)]), [], D₃, h₂, t₂, rfl, .nil, c, by rw [List.append_nil]; exact hD', Nat.zero_le _, rfl, .inr ⟨d, kvs, rfl, hd, by simp, T, m⟩, fun b o hb e => k₂ b o hb (hk b o hb e), N₂⟩
      · rw [if_neg h17]
        refine wpAny_pure ⟨P₃, D₀, D₁ ++ [(i, y)], D₃, h', tk, rfl, hR', c, by rw [hD', List.append_assoc], ?_, rfl, hS, hk, hN⟩
        have hlen := hR'.length
        have h17' : (run ++ [(k, v)]).length ≠ 17 := fun e => h17 (beq_iff_eq.mpr e)
        rw [List.length_append] at hlen ⊢
        rw [List.length_append] at h17' hlen
        have := hR.length
        simp only [List.length_cons, List.length_nil] at *
        omega
  · rintro ⟨main, run⟩ s' ⟨P₂, D₀, D₁, D₂, h', tk, hr, hR, hP₂, hD, h16, rfl, hS, hk, hN⟩
    cases hP₂ with
    | cons _ _ _ => cases hr
    | nil =>
      rw [List.append_nil] at hD
      dsimp only at hR hS ⊢
      by_cases h1 : D₁ = []
      · subst h1
        cases hR
        rw [List.append_nil] at hD
        rcases hS with ⟨rfl, rfl⟩ | ⟨d, kvs, rfl, hd, hD0, hT, hm⟩
        · exact absurd hD h0
        · subst hD
          refine wpAny_bind ?_
          rw [List.isEmpty_nil, if_pos rfl]
          exact wpAny_pure (wpAny_pure (hQ d h' tk kvs hd hT hm fun b o e => hk b o (Heap.lt_size e) e))
      · subst hD
        refine wpAny_bind (flush_told (s := { s with heap := h', toks := tk }) hsys hN hR h1 (by omega) hS hn hl fun d h₂ t₂ kvs hd T m k₂ N₂ => wpAny_pure ?_)
        exact hQ d h₂ t₂ kvs hd T m fun b o e => k₂ b o (Heap.lt_size e) (hk b o (Heap.lt_size e) e)

theorem constI {i : Int} {k : Nat} {p : Pos} {env : Env} : GivesI (eval (.Constant (.int i) k p) env) i := fun _ _ _ _ _ h => wpAny_Constant_int (h _ _)
theorem constS {x : Str} {k : Nat} {p q : Pos} {env : Env} : GivesS (do let x ← eval (.Constant (.str x) k p) env; standAt q; pure x) x := fun _ _ _ _ _ h => wpAny_bind (wpAny_Constant_str (wpAny_bind (wpAny_standAt (wpAny_pure (h _ _)))))
/-- a table of ints and texts, all written -/
def allLit : List (Option Expr) → List Expr → Bool
  | [], [] => true
  | some (.Constant (.int _) _ _) :: ks, .Constant (.str _) _ _ :: vs => allLit ks vs
  | _, _ => false
theorem lits_of {env : Env} {pos : Pos} : ∀ (ks : List (Option Expr)) (vs : List Expr), allLit ks vs = true → Lits (pairTrees ks vs env pos) (pairsOf ks vs) ∧ ks.all (·.isSome) = true ∧ ks.length = vs.length := by
  intro ks vs
  fun_induction allLit ks vs with
  | case1 => intro _; exact ⟨.nil, rfl, rfl⟩
  | case2 i a b ks x c d vs ih =>
    intro h
    obtain ⟨h1, h2, h3⟩ := ih h
    exact ⟨.cons constI constS h1, by rw [List.all_cons, h2]; rfl, by rw [List.length_cons, List.length_cons, h3]⟩
  | case3 => intro h; cases h
def climbs : List (Int × Str) → Bool
  | a :: b :: r => decide (a.1 < b.1) && climbs (b :: r)
  | _ => true
theorem climbs_lt : ∀ {D : List (Int × Str)} {a : Int × Str}, climbs (a :: D) = true → ∀ b ∈ D, a.1 < b.1
  | [], _, _, _, hb => nomatch hb
  | c :: D, a, h, b, hb => by
    have h' : (decide (a.1 < c.1) && climbs (c :: D)) = true := h
    obtain ⟨h1, h2⟩ := Bool.and_eq_true_iff.mp h'
    have h1 := of_decide_eq_true h1
    rcases List.mem_cons.mp hb with rfl | hb
    · exact h1
    · exact Int.lt_trans h1 (climbs_lt h2 b hb)
theorem climbs_nodup : ∀ {D : List (Int × Str)}, climbs D = true → (D.map (·.1)).Nodup
  | [], _ => List.nodup_nil
  | a :: D, h => by
    rw [List.map_cons, List.nodup_cons]
    refine ⟨fun hm => ?_, climbs_nodup (D := D) ?_⟩
    · obtain ⟨b, hb, e⟩ := List.mem_map.mp hm
      have := climbs_lt h b hb
      omega
    · cases D with
      | nil => rfl
      | cons b D =>
        have h' : (decide (a.1 < b.1) && climbs (b :: D)) = true := h
        exact (Bool.and_eq_true_iff.mp h').2
theorem Dict_told {env : Env} {keys : List (Option Expr)} {values : List Expr} {pos : Pos} {Q : Value → Shared → Prop} (hlit : allLit keys values = true) (h0 : pairsOf keys values ≠ []) (hc : climbs (pairsOf keys values) = true) (hl : (pairsOf keys values).length ≤ 10000) (hsys : sysModules < s.heap.objs.size)
    (hQ : ∀ a h' tk kvs, s.heap.objs.size ≤ a → Told (pairsOf keys values) kvs → h'.DictOf (intKind p0 w) a kvs → (∀ b o, s.heap.get? b = some o → h'.get? b = some o) → Q (.ref a) { s with heap := h', toks := tk }) :
    wpAny (model p0 w) A (eval (.Dict keys values pos) env) Q E s := by
  obtain ⟨h1, h2, h3⟩ := lits_of (env := env) (pos := pos) keys values hlit
  rw [arm_eval_Dict, zip_pairTrees keys values env pos h2 h3]
  exact wpAny_bind (wpAny_standAt (display_told h1 h0 (climbs_nodup hc) hl hsys hQ))
end
end Mine

end PartH3
section PartH4
open PySem PySem.W PyProof.Rows PySem.Calls
set_option Elab.async false
set_option maxRecDepth 100000
set_option linter.unusedVariables false
namespace Mine
section
variable {prog : Program} {w : World} {A : Around} {E : Value → Shared → Prop} {s : Shared}
/-- a set's first fill, from a range -/
theorem set_fill_range {r S : Addr} {a b c : Int} {t u v : Tok} {n : Nat} {led : Bool} {Q : Fin → Shared → Prop} (hh : A.handled = none) (hS : s.heap.get? S = some { cls := .type "set", dict := none, data := .set #[] 0 (.fresh 0 0 led) })
    (hr : IsRange s.heap r a b c t u v) (hsmall : Builtin.Range.small a b c = true) (hn : Builtin.Range.rangeSize a b c = n) (hb : n + 1 < scanBound)
    (h : ∀ h' tk, h'.SetOf (intKind prog w) S (fun k' => (firstMet (fun i => a + (i : Int) * c) n).any (· == k')) (firstMet (fun i => a + (i : Int) * c) n).length → (∀ b o, b ≠ S → s.heap.get? b = some o → h'.get? b = some o) →
      Q (.done (.ret .none)) { s with heap := h', toks := tk }) : wpAny (model prog w) A (Builtin.«set.__init__» ⟨[.ref S, .ref r], []⟩) Q E s := by
  have hSn : S < s.heap.objs.size := Heap.lt_size hS
  have hrS := F.sub_range_set
  have hrf := F.sub_range_frozenset
  have hne : (Value.type "range" == Value.type "dict") = false := by decide
  have hr' := hr
  have hz := Builtin.Range.small a b c
  unfold Builtin.«set.__init__» noKeywords Builtin.Frozenset.updateFrom
  generalize hPI : pyIter = PI
  wp_walk
  subst hPI
  refine wpAny_pyIter_range hr hsmall ?_
  refine wpAny_bind (wpAny_runValue ?_)
  have hSf : S ∉ [s.heap.objs.size] := fun e => Nat.ne_of_lt hSn (List.mem_singleton.mp e)
  rw [hn]
  refine PyProof.Rows.codeAny_set_update_loopS ((Walks.range (prog := prog) (w := w) (A := A.in1) hh s.heap.objs.size a c n).toS) S hSf (fun i => a + (i : Int) * c) (fun i v hv => hv) hb (n - 0) 0 _ (by omega) (Nat.zero_le _) ?_ ?_ ?_
  · show IsRangeIter _ s.heap.objs.size (a + ((0 : Nat) : Int) * c) ((n : Int) - ((0 : Nat) : Int)) c
    have e1 : a + ((0 : Nat) : Int) * c = a := by simp
    have e2 : (n : Int) - ((0 : Nat) : Int) = n := by omega
    rw [e1, e2]
    exact Heap.get?_push_size _ rfl
  · exact PyProof.Rows.SetOf_congr ((PyProof.Rows.setObjOf_fresh (knd := intKind prog w) led).setOf (Heap.get?_push_of_some _ hS) (by unfold scanBound; omega)) (fun _ => rfl) rfl
  · intro s' hm hS'
    obtain ⟨h', g', d', tk', os'⟩ := s'
    obtain rfl : g' = s.gens := hm.gens
    obtain rfl : d' = s.drawn := hm.drawn
    obtain rfl : os' = s.os := hm.os
    show wpAny _ _ _ _ _ _
    refine wpAny_pure ?_
    show wpAny _ _ (ret Value.none) _ _ _
    refine wpAny_pure (h h' tk' hS' fun b o hb e => ?_)
    refine hm.heap b o ?_ (Heap.get?_push_of_some _ e)
    rw [List.mem_cons, List.mem_singleton, not_or]
    exact ⟨hb, Nat.ne_of_lt (Heap.lt_size e)⟩

theorem call_set_range {r : Addr} {a b c : Int} {t u v : Tok} {n : Nat} {Q : Value → Shared → Prop} (hh : A.handled = none) (hr : IsRange s.heap r a b c t u v) (hsmall : Builtin.Range.small a b c = true) (hn : Builtin.Range.rangeSize a b c = n) (hb : n + 1 < scanBound)
    (h : ∀ h' tk, h'.SetOf (intKind prog w) s.heap.objs.size (fun k' => (firstMet (fun i => a + (i : Int) * c) n).any (· == k')) (firstMet (fun i => a + (i : Int) * c) n).length → (∀ b o, s.heap.get? b = some o → h'.get? b = some o) →
      Q (.ref s.heap.objs.size) { s with heap := h', toks := tk }) : wpAny (model prog w) A (call (.type "set") [.ref r]) Q E s := by
  obtain ⟨c0, tl, hmro⟩ := F.called_set.mro
  have hmade := F.called_set.made
  have hsub := F.called_set.sub
  refine wpAny_call (codeAny_of_tree ?_)
  show wpAny _ _ (callAny (.type "set") _) _ _ _
  refine wpAny_pure ⟨Code.quiet_builtin _ (by decide +kernel), codeAny_builtin F.entry_type_call ?_⟩
  rw [Around.under_plain (weight_type_call_type "set" [.ref r] []) rfl]
  have h1 := F.called_set.notType
  have h2 := F.called_set.canCreate
  have hct := F.typeCall_set_1 (.ref r)
  repeat (any_goals (first | assumption | wp_step))
  refine codeAny_mono (code_set_new_1 (.ref r) (E := E) (Q₁ := fun obj s₁ => ∃ led : Bool, obj = .ref s.heap.objs.size ∧ s₁ = { s with heap := s.heap.push { cls := .type "set", dict := none, data := .set #[] 0 (.fresh 0 0 led) } }) fun led => ⟨led, rfl, rfl⟩) fun q s₁ hq => ?_
  rcases q with e | fl
  · exact hq
  cases fl with
  | ret obj =>
    obtain ⟨led, rfl, rfl⟩ := hq
    have hS : (s.heap.push { cls := .type "set", dict := none, data := .set #[] 0 (.fresh 0 0 led) }).get? s.heap.objs.size = some { cls := .type "set", dict := none, data := .set #[] 0 (.fresh 0 0 led) } := Heap.get?_push_size _ rfl
    have hT : Shared.TypeIs { s with heap := s.heap.push { cls := .type "set", dict := none, data := .set #[] 0 (.fresh 0 0 led) } } (.ref s.heap.objs.size) "set" := ⟨_, hS, rfl⟩
    have hli := F.called_set.init.lookup
    have hbi := F.called_set.init.bind (.ref s.heap.objs.size)
    repeat (any_goals (first | assumption | wp_step))
    refine codeAny_mono (codeAny_call_builtin (R := wants (fun x s₂ => x = .none ∧ ∃ h' tk, s₂ = { s with heap := h', toks := tk } ∧
        h'.SetOf (intKind prog w) s.heap.objs.size (fun k' => (firstMet (fun i => a + (i : Int) * c) n).any (· == k')) (firstMet (fun i => a + (i : Int) * c) n).length ∧
        (∀ b o, s.heap.get? b = some o → h'.get? b = some o)) E) F.called_set.init.plain F.entry_set_init (check_set_init_1 hT ?_)) fun r₂ s₂ hr₂ => ?_
    · refine set_fill_range (led := led) (by simp [hh]) hS (Heap.get?_push_of_some _ hr) hsmall hn hb fun h' tk hS' hk => ⟨rfl, h', tk, rfl, hS', fun b o e => hk b o (Nat.ne_of_lt (Heap.lt_size e)) (Heap.get?_push_of_some _ e)⟩
    · rcases r₂ with e | fl₂
      · exact hr₂
      cases fl₂ with
      | ret x =>
        obtain ⟨rfl, h', tk, rfl, hS', hk'⟩ := hr₂
        repeat (any_goals (first | assumption | wp_step))
        exact h _ _ hS' hk'
      | _ => exact hr₂.elim
  | _ => exact hq.elim
end
end Mine

end PartH4
section PartH5
open PySem PySem.W PyProof.Rows PySem.Calls
set_option Elab.async false
set_option maxRecDepth 100000
set_option linter.unusedVariables false
namespace Mine
abbrev envT : Env := mainEnv p0 13 14
/-- what the top's expressions ask of the state -/
structure GS (mg : Str → Option Value) (h : Heap) : Prop where
  g : h.Ns mainGlobals mg
  free : ∀ x ∈ (["set", "list", "range"] : List Str), mg x = none
  b : ∃ mb, h.Ns builtinsNs mb ∧ ∀ x : Str, x ≠ "__name__" → mb x = bootBuiltins x
theorem GS.ext {mg : Str → Option Value} {h h' : Heap} (x : GS mg h) (k : Ext h h') : GS mg h' := ⟨x.g.keeps k, x.free, let ⟨mb, a, b⟩ := x.b; ⟨mb, a.keeps k, b⟩⟩
abbrev ExtZ (h h' : Heap) : Prop := Ext h h' ∧ h.objs.size ≤ h'.objs.size
theorem ExtZ.refl (h : Heap) : ExtZ h h := ⟨Ext.refl h, Nat.le_refl _⟩
theorem ExtZ.trans {a b c : Heap} (x : ExtZ a b) (y : ExtZ b c) : ExtZ a c := ⟨x.1.trans y.1, Nat.le_trans x.2 y.2⟩
theorem ExtZ.push (h : Heap) (o : Obj) : ExtZ h (h.push o) := ⟨Ext.push h o, by rw [Heap.size_push]; omega⟩
def EvM (mg : Str → Option Value) (e : Expr) (p : PV) : Prop := ∀ (w : World) (A : Around) (s : Shared) (Q : Value → Shared → Prop) (E : Value → Shared → Prop), AOk 0 A → GS mg s.heap →
  (∀ v h' tk, ExtZ s.heap h' → Rep h' p v → Q v { s with heap := h', toks := tk }) → wpAny (model p0 w) A (eval e envT) Q E s
section
variable {mg : Str → Option Value} {w : World} {A : Around} {s : Shared} {E : Value → Shared → Prop}
theorem nameT {x : Str} {id : String} {pos : Pos} {Q : Value → Shared → Prop} (G : GS mg s.heap) (hx : x ∈ (["set", "list", "range"] : List Str)) (hn : x ≠ "__name__") (hv : bootBuiltins x = some (.type id)) (hd : (x == ("__debug__" : Str)) = false) (h : Q (.type id) s) :
    wpAny (model p0 w) A (eval (.Name x pos) envT) Q E s := by
  obtain ⟨mb, hb, hbb⟩ := G.b
  exact Name_module rfl rfl (loadGlobal_builtin (env := envT) G.g (G.free x hx) hb ((hbb x hn).trans hv) h) hd
theorem EvM.int {i : Int} {k : Nat} {pos : Pos} : EvM mg (.Constant (.int i) k pos) (.int i) := by
  intro w A s Q E ha G hQ
  exact wpAny_Constant_int (hQ _ s.heap _ (ExtZ.refl _) rInt)
inductive EvML (mg : Str → Option Value) : List Expr → List PV → Prop
  | nil : EvML mg [] []
  | cons {e : Expr} {p : PV} {es : List Expr} {ps : List PV} (he : EvM mg e p) (hs : starEach (e :: es) envT = (false, eval e envT) :: starEach es envT) (h : EvML mg es ps) : EvML mg (e :: es) (p :: ps)
theorem EvML.spliced {es : List Expr} {ps : List PV} (x : EvML mg es ps) : ∀ {pos : Pos} (w : World) (A : Around) (s : Shared) (Q : List Value → Shared → Prop) (E : Value → Shared → Prop), AOk 0 A → GS mg s.heap →
    (∀ vs h' tk, ExtZ s.heap h' → RepL h' ps vs → Q vs { s with heap := h', toks := tk }) → wpAny (model p0 w) A (spliced (backTo pos (starEach es envT))) Q E s := by
  induction x with
  | nil =>
    intro pos w A s Q E ha G hQ
    exact args_nil (hQ [] s.heap s.toks (ExtZ.refl _) (by unfold RepL; rfl))
  | cons he hs _ ih =>
    intro pos w A s Q E ha G hQ
    refine args_cons (he w A s _ E ha G fun v h₁ t₁ k₁ r => ih w A _ _ E ha (G.ext k₁.1) fun vs h₂ t₂ k₂ rs => ?_) hs
    exact hQ (v :: vs) h₂ t₂ (k₁.trans k₂) (by unfold RepL; exact ⟨v, vs, rfl, r.ext k₂.1, rs⟩)
theorem EvM.list {es : List Expr} {ps : List PV} {pos : Pos} (x : EvML mg es ps) (hsz : ps.length ≤ sizeLine) : EvM mg (.List es pos) (.lst ps) := by
  intro w A s Q E ha G hQ
  refine List_ (x.spliced w A s _ E ha G fun vs h' tk kx r => wpAny_newList (hQ _ _ tk (kx.trans (ExtZ.push _ _)) ?_) (by rw [r.length]; exact hsz))
  exact rLst (a := h'.objs.size) (vs := vs) ⟨_, Heap.get?_push_size _ rfl, rfl, 0, rfl⟩ (r.ext (Ext.push _ _))
theorem EvM.add {l r : Expr} {pos : Pos} {a b : List PV} (hl : EvM mg l (.lst a)) (hr : EvM mg r (.lst b)) (hsz : a.length + b.length ≤ sizeLine) : EvM mg (.BinOp l .Add r pos) (.lst (a ++ b)) := by
  intro w A s Q E ha G hQ
  refine wpAny_BinOp (hl w A s _ _ ha G fun va h₁ t₁ k₁ ra => hr w A _ _ _ ha (G.ext k₁.1) fun vb h₂ t₂ k₂ rb => ?_)
  obtain ⟨l, vs, rfl, hl, rl⟩ := (ra.ext k₂.1).l
  obtain ⟨c, ws, rfl, hb, rc⟩ := rb.l
  obtain ⟨⟨cls, dd, data, sl⟩, ho, hc, m, hd⟩ := id hl
  obtain ⟨⟨cls2, dd2, data2, sl2⟩, ho2, hc2, m2, hd2⟩ := id hb
  simp only at hc hd hc2 hd2
  subst hc hd hc2 hd2
  refine concat_meets ⟨_, ho, rfl⟩ ⟨_, ho2, rfl⟩ noFill_list_add seq_list_add PySem.F.slot_list_add PySem.F.entry_list_add (PySem.F.args_list_add_2 _ _)
    (list_addW l c vs.toArray ws.toArray m m2 dd dd2 sl sl2 (by simpa [rl.length, rc.length] using hsz)) ⟨ho, ho2, ?_⟩
  refine hQ _ _ t₂ (k₁.trans (k₂.trans (ExtZ.push _ _))) (rLst (a := h₂.objs.size) (vs := vs ++ ws) ⟨_, Heap.get?_push_size _ rfl, rfl, 0, by simp⟩ ((rl.append rc).ext (Ext.push _ _)))
/-- a range of two written bounds -/
theorem rangeT {pf pos : Pos} {e1 e2 : Expr} {a b : Int} {Q : Value → Shared → Prop} (h1 : EvM mg e1 (.int a)) (h2 : EvM mg e2 (.int b)) (hs1 : starEach [e1, e2] envT = (false, eval e1 envT) :: starEach [e2] envT) (hs2 : starEach [e2] envT = (false, eval e2 envT) :: starEach [] envT) (ha : AOk 0 A) (G : GS mg s.heap)
    (hQ : ∀ r t u v h' tk, ExtZ s.heap h' → IsRange h' r a b 1 t u v → Q (.ref r) { s with heap := h', toks := tk }) : wpAny (model p0 w) A (eval (.Call (.Name "range" pf) [e1, e2] [] pos) envT) Q E s := by
  refine wpAny_Call_NameR (nameT G (by decide) (by decide) (id := "range") (by decide +kernel) (by decide) ?_)
  refine PyProof.Rows.callWith_type (by rw [hs1, hs2]; rfl) ?_
  have key := EvML.spliced (pos := pos) (EvML.cons h1 hs1 (EvML.cons h2 hs2 .nil)) w A s (fun vs s' => wpAny (model p0 w) A (call (.type "range") vs) Q E s') E ha G fun vs h' tk k r => by
    obtain ⟨v, u, rfl, rv, ru⟩ := repL2 r
    obtain ⟨t, rfl⟩ := rv.i
    obtain ⟨t', rfl⟩ := ru.i
    refine call_range_2 ?_
    exact hQ _ _ _ _ _ _ (k.trans (ExtZ.push _ _)) (IsRange.new ..)
  rw [hs1] at key ⊢
  exact evalArgs_plain key
theorem items_repL {h : Heap} {a : Int} : ∀ {n : Nat} {vs : List Value} (i : Nat), vs.length = n → (∀ (j : Nat) (v : Value), vs[j]? = some v → ∃ t, v = Value.int (a + ((i + j : Nat) : Int)) t) → RepL h ((List.range' i n).map fun j => PV.int (a + (j : Nat))) vs
  | 0, [], i, _, _ => by unfold List.range' List.map RepL; rfl
  | n + 1, v :: vs, i, hl, hv => by
    rw [List.range'_succ, List.map_cons]
    unfold RepL
    obtain ⟨t, e⟩ := hv 0 v rfl
    refine ⟨v, vs, rfl, by rw [e]; exact rInt, items_repL (i + 1) (by simpa using hl) fun j u hj => ?_⟩
    obtain ⟨t', e'⟩ := hv (j + 1) u (by simpa using hj)
    exact ⟨t', by rw [e', show i + (j + 1) = i + 1 + j by omega]⟩
def upto (a : Int) (n : Nat) : List Int := (List.range n).map fun i => a + (i : Nat)
theorem EvM.listRange {pf pr pos p2 : Pos} {e1 e2 : Expr} {a b : Int} {n : Nat} (h1 : EvM mg e1 (.int a)) (h2 : EvM mg e2 (.int b)) (hs1 : starEach [e1, e2] envT = (false, eval e1 envT) :: starEach [e2] envT) (hs2 : starEach [e2] envT = (false, eval e2 envT) :: starEach [] envT)
    (hn : Builtin.Range.rangeSize a b 1 = n) (hn2 : n ≤ 1000) (ha0 : -(2 ^ 40) ≤ a) (ha1 : a < 2 ^ 40) (hb0 : -(2 ^ 40) ≤ b) (hb1 : b < 2 ^ 40) :
    EvM mg (.Call (.Name "list" pf) [.Call (.Name "range" pr) [e1, e2] [] pos] [] p2) (.lst ((upto a n).map PV.int)) := by
  intro w A s Q E ha G hQ
  refine wpAny_Call_NameR (nameT G (by decide) (by decide) (id := "list") (by decide +kernel) (by decide) ?_)
  refine PyProof.Rows.callWith_type rfl ?_
  refine evalArgs_plain (args_cons (rangeT h1 h2 hs1 hs2 ha G fun r t u v h' tk k hr => args_nil ?_))
  refine call_list_range ha.handled hr (small_one (by omega) (by omega) (by omega) (by omega)) hn (by omega) fun h'' tk' acc c' k' hl hi => ?_
  refine hQ _ h'' tk' (k.trans ⟨k', Nat.le_of_lt (Heap.lt_size hl)⟩) (rLst (a := h'.objs.size) (vs := acc.toList) ⟨_, hl, rfl, c', rfl⟩ ?_)
  have e : (upto a n).map PV.int = (List.range' 0 n).map fun j => PV.int (a + (j : Nat)) := by unfold upto; rw [List.map_map, List.range_eq_range']; rfl
  rw [e]
  refine items_repL 0 (by rw [Array.length_toList]; exact hi.1) fun j v hv => ?_
  obtain ⟨t', e'⟩ := hi.2 j v (by rw [← Array.getElem?_toList]; exact hv)
  exact ⟨t', by rw [e', Int.mul_one, Nat.zero_add]⟩

/-- the object is the set of those ints -/
def SetP (w : World) (S : Int → Bool) (o : Obj) : Prop := ∃ n, n < scanBound ∧ o.SetObjOf (intKind p0 w) S n
theorem setP_of {h : Heap} {a : Addr} {S S' : Int → Bool} {n : Nat} (hS : h.SetOf (intKind p0 w) a S n) (e : ∀ k, S k = S' k) (hn : n < scanBound) : ∃ o, h.get? a = some o ∧ SetP w S' o := by
  obtain rfl : S = S' := funext e
  obtain ⟨o, ho, x⟩ := hS.objOf
  exact ⟨o, ho, n, hn, x⟩
theorem map_getD_range (ns : List Int) : (List.range ns.length).map (fun i => ns.getD i 0) = ns := by
  refine List.ext_getElem (by simp) fun i h1 h2 => ?_
  simp at h1
  simp [h1]
theorem set_list {e : Expr} {ns : List Int} {S : Int → Bool} {pf pos : Pos} {Q : Value → Shared → Prop} (he : EvM mg e (.lst (ns.map PV.int))) (hs : starEach [e] envT = (false, eval e envT) :: starEach [] envT) (hl : ns.length < 1000) (hS : ∀ k, ns.any (· == k) = S k) (ha : AOk 0 A) (G : GS mg s.heap)
    (hQ : ∀ a o h' tk, s.heap.objs.size ≤ a → h'.get? a = some o → SetP w S o → (∀ b o', s.heap.get? b = some o' → h'.get? b = some o') → Q (.ref a) { s with heap := h', toks := tk }) : wpAny (model p0 w) A (eval (.Call (.Name "set" pf) [e] [] pos) envT) Q E s := by
  refine wpAny_Call_NameR (nameT G (by decide) (by decide) (id := "set") (by decide +kernel) (by decide) ?_)
  refine PyProof.Rows.callWith_type (by rw [hs]; rfl) ?_
  have key : wpAny (model p0 w) A (spliced (backTo pos (starEach [e] envT))) (fun vs s' => wpAny (model p0 w) A (call (.type "set") vs) Q E s') E s := by
    refine args_cons (he w A s _ E ha G fun v h' tk k r => args_nil ?_) hs
    obtain ⟨l, vs, rfl, hL, rl⟩ := r.l
    have hlen : vs.length = ns.length := by rw [rl.length, List.length_map]
    refine call_set_list (items := vs.toArray) (ns := ns) ha.handled hL (by simpa using intsAre rl) (by rw [List.size_toArray, hlen]; unfold scanBound; omega) fun h'' tk' hS' k' => ?_
    have ez : vs.toArray.size = ns.length := by rw [List.size_toArray, hlen]
    simp only [ez] at hS'
    have hle := firstMet_length_le (fun i => ns.getD i 0) ns.length
    obtain ⟨o, ho, x⟩ := setP_of hS' (S' := S) (fun k => by rw [firstMet_any, map_getD_range]; exact hS k) (by unfold scanBound; omega)
    exact hQ _ o h'' tk' k.2 ho x fun b o' e => k' b o' (Heap.lt_size (k.1 b o' e)) (k.1 b o' e)
  rw [hs] at key ⊢
  exact evalArgs_plain key
end
end Mine

end PartH5
section PartH6
open PySem PySem.W PyProof.Rows PySem.Calls
set_option Elab.async false
set_option maxRecDepth 100000
set_option linter.unusedVariables false
namespace Mine
def stAt (i : Nat) : Stmt := p0.main.body.getD i (.Pass default)
def restL : List Stmt := (behindTheImports p0).drop 3
theorem rest_eq : restL = [stAt 3, stAt 4, stAt 5, stAt 6, stAt 7, stAt 8, stAt 9, stAt 10, stAt 11, stAt 12, stAt 13, stAt 14, stAt 15, stAt 16, stAt 17, stAt 18, stAt 19, stAt 20, stAt 21, stAt 22, stAt 23, stAt 24, stAt 25] := rfl
def paramsOf (f : Str) : Arguments := match p0.theDef f with | some (a, _, _) => a | none => default
def posOf : Stmt → Pos
  | .FunctionDef _ _ _ _ _ _ _ _ _ p => p
  | _ => default
def item (f : Str) (i : Nat) : DefItem := ⟨f, paramsOf f, bodyOf f, scopeOf f, posOf (stAt i)⟩
abbrev topN : Str → Option NameKind := fun x => p0.main.scope.names.lookup x
section
variable {w : World} {A : Around} {E : Value → Shared → Prop} {s : Shared} {h₀ : Heap} {mg₀ mg : Str → Option Value} {ps : Array Value} {defs : List DefItem} {consts : List (Str × PyData)} {objs : List (Str × (Obj → Prop))} {names : List Str} {Q : Flow → Shared → Prop}
theorem def_step {f : Str} {i : Nat} {r : List Stmt} (X : Mod h₀ mg₀ 13 12 s.heap mg ps defs consts objs names) (hst : stAt i = .FunctionDef f (paramsOf f) (bodyOf f) [] none [] (scopeOf f) none f (posOf (stAt i)))
    (hkw : (paramsOf f).kwonlyargs = []) (hkd : (paramsOf f).kw_defaults = []) (hdf : (paramsOf f).defaults = []) (hann0 : annTrees (paramsOf f) none (mainEnv p0 13 14) = []) (hfree : ((scopeOf f).names.all fun x => !(x.2 == .free)) = true)
    (hloc : topN f = some .local) (hq : qualnameIn { scope := p0.main.scope, locals := mainGlobals, globals := mainGlobals, cells := [] } f f = f) (hnew : f ∉ names) (hnb : f ≠ "__builtins__") (hnf : codeAmong (posOf (stAt i)) ps.toList = none)
    (k : ∀ h' mg' c' tk, Mod h₀ mg₀ 13 12 h' mg' (ps ++ #[rawInt (posOf (stAt i)).line, rawInt (posOf (stAt i)).col, .ref c']) (item f i :: defs) consts objs (f :: names) → wpAny (model p0 w) A (execs r envT) Q E { s with heap := h', toks := tk }) :
    wpAny (model p0 w) A (execs (stAt i :: r) envT) Q E s := by
  refine wpAny_execs_cons ?_
  rw [hst]
  refine Mod.def_dflt (ds := []) X hkw hkd (fun e he => by rw [hdf] at he; cases he) (by rw [hdf]; rfl) hann0 (fun x hx e => by have := List.all_eq_true.mp hfree x hx; rw [e] at this; cases this) hloc hq hnew (fun h' mg' c' tk Y => ?_) hnb rfl hnf
  exact k h' mg' c' tk Y

theorem name_step {x y : Str} {p1 p2 p3 : Pos} {kk : Nat} {i : Nat} {r : List Stmt} (X : Mod h₀ mg₀ 13 12 s.heap mg ps defs consts objs names) (hst : stAt i = .Assign [.Name x p1] (.Constant (.str y) kk p2) p3) (hloc : topN x = some .local) (hnew : x ∉ names) (hnb : x ≠ "__builtins__")
    (k : ∀ h' mg' mg₀' tk, (∀ z, z ≠ x → mg₀' z = mg₀ z) → Mod h₀ mg₀' 13 12 h' mg' ps defs consts objs names → wpAny (model p0 w) A (execs r envT) Q E { s with heap := h', toks := tk }) :
    wpAny (model p0 w) A (execs (stAt i :: r) envT) Q E s := by
  refine wpAny_execs_cons ?_
  rw [hst]
  refine wpAny_Assign_Name (Constant_str ?_) rfl
  refine wpAny_storeName_local (s := { s with toks := s.toks + 1 }) (env := mainEnv p0 13 14) hloc X.main.g (fun h' hg' hs' => ?_) rfl
  obtain ⟨bm, o, hbm, hne0, hneG, hneP, hbo, hrest⟩ := X.main.bmod
  have hm : h'.Main (fun z => if z = x then some (.str y s.toks) else mg z) 13 12 ps :=
    ⟨hg', X.main.code.sameBut hs' (Nat.ne_of_gt X.main.low.1) (Nat.ne_of_gt X.main.low.2), X.main.low,
      ⟨bm, o, by simp only [Ne.symm hnb, if_false]; exact hbm, hne0, hneG, hneP, (hs'.2 _ hneG).trans hbo, hrest⟩⟩
  have Y := X.rebind hnew hm (fun b o _ hG e => (hs'.2 _ hG).trans e) (Nat.le_trans X.grows (Nat.le_of_eq hs'.1.symm))
  refine k h' _ (fun z => if z = x then some (.str y s.toks) else mg₀ z) _ (fun z hz => if_neg hz) ⟨Y.main, Y.keep, Y.made, Y.bound, fun z hz => ?_, X.dnames, X.cnames, Y.held, X.onames, Y.grows, Y.lowP, Y.lowG, Y.tabs⟩
  by_cases e : z = x
  · show (if z = x then _ else mg z) = (if z = x then _ else mg₀ z)
    rw [if_pos e, if_pos e]
  · show (if z = x then _ else mg z) = (if z = x then _ else mg₀ z)
    rw [if_neg e, if_neg e]
    exact X.others z hz

theorem obj_step {x : Str} {p1 p3 : Pos} {value : Expr} {P : Obj → Prop} {i : Nat} {r : List Stmt} (X : Mod h₀ mg₀ 13 12 s.heap mg ps defs consts objs names) (hst : stAt i = .Assign [.Name x p1] value p3) (hloc : topN x = some .local) (hnew : x ∉ names) (hnb : x ≠ "__builtins__")
    (hsw : swapsWith value (some (.Name x p1)) p3.line (mainEnv p0 13 14) = pure false)
    (hval : ∀ Q' : Value → Shared → Prop, (∀ a o h₁ tk, s.heap.objs.size ≤ a → h₁.get? a = some o → P o → (∀ b o', s.heap.get? b = some o' → h₁.get? b = some o') → Q' (.ref a) { s with heap := h₁, toks := tk }) → wpAny (model p0 w) A (eval value (mainEnv p0 13 14)) Q' E s)
    (k : ∀ h' mg' tk, Mod h₀ mg₀ 13 12 h' mg' ps defs consts ((x, P) :: objs) (x :: names) → wpAny (model p0 w) A (execs r envT) Q E { s with heap := h', toks := tk }) :
    wpAny (model p0 w) A (execs (stAt i :: r) envT) Q E s := by
  refine wpAny_execs_cons ?_
  rw [hst]
  exact Mod.assign_obj X hloc hnew hval (fun h' mg' tk Y => k h' mg' tk Y) hnb rfl hsw
end

/-- what stands below the walk -/
structure Low (mg₀ : Str → Option Value) (h₀ : Heap) : Prop where
  free : ∀ x ∈ (["set", "list", "range"] : List Str), mg₀ x = none
  b : ∃ mb, h₀.Ns builtinsNs mb ∧ ∀ x : Str, x ≠ "__name__" → mb x = bootBuiltins x
theorem Low.gs {mg₀ mg : Str → Option Value} {h₀ h : Heap} {ps : Array Value} {defs : List DefItem} {consts : List (Str × PyData)} {objs : List (Str × (Obj → Prop))} {names : List Str} (L : Low mg₀ h₀) (X : Mod h₀ mg₀ 13 12 h mg ps defs consts objs names)
    (hn : (names.all fun x => !((["set", "list", "range"] : List Str).contains x)) = true) : GS mg h := by
  refine ⟨X.main.g, fun x hx => ?_, ?_⟩
  · rw [X.others x fun hm => ?_]
    · exact L.free x hx
    · have := List.all_eq_true.mp hn x hm
      rw [List.contains_iff_mem.mpr hx] at this
      cases this
  · obtain ⟨mb, a, b⟩ := L.b
    exact ⟨mb, a.at fun o => X.keep _ o (by decide) (by decide), b⟩
theorem Low.name {mg₀ mg₁ : Str → Option Value} {h₀ : Heap} (L : Low mg₀ h₀) (e : ∀ z : Str, z ≠ "__name__" → mg₁ z = mg₀ z) : Low mg₁ h₀ :=
  ⟨fun x hx => by
    rw [e x]
    · exact L.free x hx
    · rintro rfl; revert hx; decide, L.b⟩
theorem range_any (a : Int) (n : Nat) (k : Int) : (upto a n).any (· == k) = (decide (a ≤ k) && decide (k < a + n)) := by
  rw [Bool.eq_iff_iff, List.any_eq_true, Bool.and_eq_true, decide_eq_true_iff, decide_eq_true_iff]
  unfold upto
  constructor
  · rintro ⟨x, hx, e⟩
    obtain ⟨i, hi, rfl⟩ := List.mem_map.mp hx
    have := List.mem_range.mp hi
    have := beq_iff_eq.mp e
    omega
  · rintro ⟨h1, h2⟩
    exact ⟨k, List.mem_map.mpr ⟨(k - a).toNat, List.mem_range.mpr (by omega), by omega⟩, beq_self_eq_true k⟩
theorem set_range {mg : Str → Option Value} {w : World} {A : Around} {s : Shared} {E : Value → Shared → Prop} {a b : Int} {n : Nat} {S : Int → Bool} {pf pr pos p2 : Pos} {k1 k2 : Nat} {q1 q2 : Pos} {Q : Value → Shared → Prop} (hn : Builtin.Range.rangeSize a b 1 = n) (hn2 : n ≤ 1000) (ha0 : -(2 ^ 40) ≤ a) (ha1 : a < 2 ^ 40) (hb0 : -(2 ^ 40) ≤ b) (hb1 : b < 2 ^ 40)
    (hS : ∀ k, (upto a n).any (· == k) = S k) (ha : AOk 0 A) (G : GS mg s.heap)
    (hQ : ∀ a o h' tk, s.heap.objs.size ≤ a → h'.get? a = some o → SetP w S o → (∀ b o', s.heap.get? b = some o' → h'.get? b = some o') → Q (.ref a) { s with heap := h', toks := tk }) :
    wpAny (model p0 w) A (eval (.Call (.Name "set" pf) [.Call (.Name "range" pr) [.Constant (.int a) k1 q1, .Constant (.int b) k2 q2] [] pos] [] p2) envT) Q E s := by
  refine wpAny_Call_NameR (nameT G (by decide) (by decide) (id := "set") (by decide +kernel) (by decide) ?_)
  refine PyProof.Rows.callWith_type rfl ?_
  refine evalArgs_plain (args_cons (rangeT EvM.int EvM.int rfl rfl ha G fun r t u v h' tk k hr => args_nil ?_))
  refine call_set_range ha.handled hr (small_one (by omega) (by omega) (by omega) (by omega)) hn (by unfold scanBound; omega) fun h'' tk' hS' k' => ?_
  have hle := firstMet_length_le (fun i => a + (i : Int) * 1) n
  obtain ⟨o, ho, x⟩ := setP_of hS' (S' := S) (fun k => by
    rw [firstMet_any, ← hS k]
    unfold upto
    congr 1
    exact List.map_congr_left fun i _ => by rw [Int.mul_one]) (by unfold scanBound; omega)
  exact hQ _ o h'' tk' k.2 ho x fun b o' e => k' b o' (k.1 b o' e)
end Mine

end PartH6
section PartH7a
open PySem PySem.W PyProof.Rows PySem.Calls
set_option Elab.async false
set_option maxRecDepth 100000
set_option linter.unusedVariables false
namespace Mine
def dictP (w : World) (o : Obj) : Prop := ∃ kvs, Told b3Pairs kvs ∧ o.IsDictOf (intKind p0 w) kvs
def b3Keys : List (Option Expr) := match stAt 7 with
  | .Assign _ (.Dict ks _ _) _ => ks
  | _ => []
def b3Vals : List Expr := match stAt 7 with
  | .Assign _ (.Dict _ vs _) _ => vs
  | _ => []
def b3Pos : Pos := match stAt 7 with
  | .Assign _ (.Dict _ _ p) _ => p
  | _ => default
def tgPos : Stmt → Pos
  | .Assign [.Name _ p] _ _ => p
  | _ => default
def asPos : Stmt → Pos
  | .Assign _ _ p => p
  | _ => default
theorem st7 : stAt 7 = .Assign [.Name "b3_exceptions" (tgPos (stAt 7))] (.Dict b3Keys b3Vals b3Pos) (asPos (stAt 7)) := by kernel_rfl
theorem b3_pairs : pairsOf b3Keys b3Vals = b3Pairs := by kernel_rfl
theorem b3_all : allLit b3Keys b3Vals = true := by decide +kernel
theorem b3_lit : climbs b3Pairs = true := by decide +kernel
theorem b3_len : b3Pairs.length = 650 := by decide +kernel
theorem b3_sw : swapsWith (.Dict b3Keys b3Vals b3Pos) (some (.Name "b3_exceptions" (tgPos (stAt 7)))) (asPos (stAt 7)).line (mainEnv p0 13 14) = pure false := by kernel_rfl
section
variable {w : World} {A : Around} {E : Value → Shared → Prop} {s : Shared} {h₀ : Heap} {mg₀ mg : Str → Option Value} {ps : Array Value} {defs : List DefItem} {consts : List (Str × PyData)} {objs : List (Str × (Obj → Prop))} {names : List Str} {Q : Flow → Shared → Prop}
theorem hl7 : topN "b3_exceptions" = some .local := rfl
theorem hb7 : ("b3_exceptions" : Str) ≠ "__builtins__" := by decide
theorem b3_ne : pairsOf b3Keys b3Vals ≠ [] := fun q => by
  have h := b3_len
  rw [← b3_pairs, q] at h
  exact absurd h (by decide)
theorem b3_cl : climbs (pairsOf b3Keys b3Vals) = true := b3_pairs ▸ b3_lit
theorem b3_le : (pairsOf b3Keys b3Vals).length ≤ 10000 := by rw [b3_pairs, b3_len]; omega
theorem told_dictP {o : Obj} {kvs : List (Int × Value)} (T : Told (pairsOf b3Keys b3Vals) kvs) (hd : o.IsDictOf (intKind p0 w) kvs) : dictP w o := ⟨kvs, b3_pairs ▸ T, hd⟩
theorem b3_val {Q' : Value → Shared → Prop} (hsys : sysModules < s.heap.objs.size)
    (hq : ∀ a o h₁ tk, s.heap.objs.size ≤ a → h₁.get? a = some o → dictP w o → (∀ b o', s.heap.get? b = some o' → h₁.get? b = some o') → Q' (.ref a) { s with heap := h₁, toks := tk }) : wpAny (model p0 w) A (eval (.Dict b3Keys b3Vals b3Pos) (mainEnv p0 13 14)) Q' E s :=
  @Dict_told w A E s (mainEnv p0 13 14) b3Keys b3Vals b3Pos Q' b3_all b3_ne b3_cl b3_le hsys fun a h' tk kvs hN T m kk =>
    let ⟨o, ho, hd⟩ := Heap.dictOf_iff.mp m
    hq a o h' tk hN ho (told_dictP T hd) kk
theorem b3_step {r : List Stmt} (hsys : sysModules < h₀.objs.size) (X : Mod h₀ mg₀ 13 12 s.heap mg ps defs consts objs names) (hnew : ("b3_exceptions" : Str) ∉ names)
    (k : ∀ h' mg' tk, Mod h₀ mg₀ 13 12 h' mg' ps defs consts (("b3_exceptions", dictP w) :: objs) ("b3_exceptions" :: names) → wpAny (model p0 w) A (execs r envT) Q E { s with heap := h', toks := tk }) :
    wpAny (model p0 w) A (execs (stAt 7 :: r) envT) Q E s :=
  @obj_step w A E s h₀ mg₀ mg ps defs consts objs names Q "b3_exceptions" (tgPos (stAt 7)) (asPos (stAt 7)) (.Dict b3Keys b3Vals b3Pos) (dictP w) 7 r X st7 hl7 hnew hb7 b3_sw (fun Q' hq => @b3_val w A E s Q' (Nat.lt_of_lt_of_le hsys X.grows) hq) k
end
end Mine

end PartH7a
section PartH6b
open PySem PySem.W PyProof.Rows PySem.Calls
set_option Elab.async false
set_option maxRecDepth 100000
set_option linter.unusedVariables false
namespace Mine
def argOf : Stmt → Expr
  | .Assign _ (.Call _ [e] _ _) _ => e
  | _ => .Constant .none 0 default
def fnPos : Stmt → Pos
  | .Assign _ (.Call (.Name _ p) _ _ _) _ => p
  | _ => default
def caPos : Stmt → Pos
  | .Assign _ (.Call _ _ _ p) _ => p
  | _ => default
def intsOf : List Expr → Option (List Int)
  | [] => some []
  | .Constant (.int i) _ _ :: r => match intsOf r with
    | some ns => some (i :: ns)
    | none => none
  | _ => none
def okRange (a b : Int) : Bool := decide (-1000000000 ≤ a) && decide (a ≤ b) && decide (b ≤ a + 1000) && decide (a ≤ 1000000000)
def rangeVal : Expr → Option (Int × Int)
  | .Call (.Name g _) [.Constant (.int a) _ _, .Constant (.int b) _ _] [] _ => if g = "range" ∧ okRange a b = true then some (a, b) else none
  | _ => none
def listVal : Nat → Expr → Option (List Int)
  | 0, _ => none
  | n + 1, e => match e with
    | .List es _ => intsOf es
    | .BinOp l .Add r _ => match listVal n l, listVal n r with
      | some a, some b => some (a ++ b)
      | _, _ => none
    | .Call (.Name f _) [e'] [] _ => match rangeVal e' with
      | some (a, b) => if f = "list" then some (upto a (b - a).toNat) else none
      | none => none
    | _ => none
section
variable {mg : Str → Option Value} {w : World} {A : Around} {s : Shared} {E : Value → Shared → Prop}
theorem ints_ok : ∀ {es : List Expr} {ns : List Int}, intsOf es = some ns → EvML mg es (ns.map PV.int) := by
  intro es
  fun_induction intsOf es with
  | case1 => intro ns h; cases h; exact .nil
  | case2 i a b r m e ih => intro ns h; cases h; exact .cons EvM.int rfl (ih e)
  | case3 i a b r e ih => intro ns h; cases h
  | case4 => intro ns h; cases h
theorem okRange_size {a b : Int} (h : okRange a b = true) : Builtin.Range.rangeSize a b 1 = ((b - a).toNat : Nat) ∧ (b - a).toNat ≤ 1000 ∧ -(2 ^ 40) ≤ a ∧ a < 2 ^ 40 ∧ -(2 ^ 40) ≤ b ∧ b < 2 ^ 40 := by
  unfold okRange at h
  simp only [Bool.and_eq_true, decide_eq_true_iff] at h
  refine ⟨?_, by omega, by omega, by omega, by omega, by omega⟩
  rw [rangeSize_one]
  split <;> omega
theorem list_ok : ∀ (n : Nat) {e : Expr} {ns : List Int}, listVal n e = some ns → ns.length ≤ 100000 → EvM mg e (.lst (ns.map PV.int)) ∧ starEach [e] envT = (false, eval e envT) :: starEach [] envT
  | 0, _, _, h, _ => by cases h
  | n + 1, e, ns, h, hl => by
    unfold listVal at h
    split at h
    · exact ⟨EvM.list (ints_ok h) (by rw [List.length_map, sizeLine_eq]; omega), rfl⟩
    · rename_i l r p
      split at h
      · rename_i a b ha hb
        cases h
        rw [List.length_append] at hl
        refine ⟨?_, rfl⟩
        rw [List.map_append]
        exact EvM.add (list_ok n ha (by omega)).1 (list_ok n hb (by omega)).1 (by rw [List.length_map, List.length_map, sizeLine_eq]; omega)
      · cases h
    · rename_i f p e' p'
      split at h
      · rename_i a b hr
        split at h
        · rename_i hf
          cases h
          subst hf
          unfold rangeVal at hr
          split at hr
          · rename_i g q a' k q1 b' k' q2 q3
            split at hr
            · rename_i hg
              cases hr
              obtain ⟨rfl, ho⟩ := hg
              obtain ⟨h1, h2, h3, h4, h5, h6⟩ := okRange_size ho
              exact ⟨EvM.listRange EvM.int EvM.int rfl rfl h1 h2 h3 h4 h5 h6, rfl⟩
            · cases hr
          · cases hr
        · cases h
      · cases h
    · cases h
theorem rangeVal_set {e : Expr} {a b : Int} {S : Int → Bool} {pf p2 : Pos} {Q : Value → Shared → Prop} (hr : rangeVal e = some (a, b)) (hS : ∀ k, (upto a (b - a).toNat).any (· == k) = S k) (ha : AOk 0 A) (G : GS mg s.heap)
    (hQ : ∀ a o h' tk, s.heap.objs.size ≤ a → h'.get? a = some o → SetP w S o → (∀ b o', s.heap.get? b = some o' → h'.get? b = some o') → Q (.ref a) { s with heap := h', toks := tk }) :
    wpAny (model p0 w) A (eval (.Call (.Name "set" pf) [e] [] p2) envT) Q E s := by
  unfold rangeVal at hr
  split at hr
  · rename_i g q a' k q1 b' k' q2 q3
    split at hr
    · rename_i hg
      cases hr
      obtain ⟨rfl, ho⟩ := hg
      obtain ⟨h1, h2, h3, h4, h5, h6⟩ := okRange_size ho
      exact set_range h1 h2 h3 h4 h5 h6 hS ha G hQ
    · cases hr
  · cases hr
end
section
variable {w : World} {A : Around} {E : Value → Shared → Prop} {s : Shared} {h₀ : Heap} {mg₀ mg : Str → Option Value} {ps : Array Value} {defs : List DefItem} {consts : List (Str × PyData)} {objs : List (Str × (Obj → Prop))} {names : List Str} {Q : Flow → Shared → Prop}
theorem set_step {x : Str} {ns : List Int} {S : Int → Bool} {i : Nat} {r : List Stmt} (X : Mod h₀ mg₀ 13 12 s.heap mg ps defs consts objs names)
    (hst : stAt i = .Assign [.Name x (tgPos (stAt i))] (.Call (.Name "set" (fnPos (stAt i))) [argOf (stAt i)] [] (caPos (stAt i))) (asPos (stAt i))) (hv : listVal 9 (argOf (stAt i)) = some ns) (hl : ns.length < 1000) (hS : ∀ k, ns.any (· == k) = S k)
    (hloc : topN x = some .local) (hnew : x ∉ names) (hnb : x ≠ "__builtins__") (ha : AOk 0 A) (G : GS mg s.heap)
    (k : ∀ h' mg' tk, Mod h₀ mg₀ 13 12 h' mg' ps defs consts ((x, SetP w S) :: objs) (x :: names) → wpAny (model p0 w) A (execs r envT) Q E { s with heap := h', toks := tk }) :
    wpAny (model p0 w) A (execs (stAt i :: r) envT) Q E s :=
  obj_step (P := SetP w S) X hst hloc hnew hnb rfl (fun Q' hq => set_list (list_ok 9 hv (by omega)).1 (list_ok (mg := mg) 9 hv (by omega)).2 hl hS ha G hq) k
theorem setr_step {x : Str} {a b : Int} {S : Int → Bool} {i : Nat} {r : List Stmt} (X : Mod h₀ mg₀ 13 12 s.heap mg ps defs consts objs names)
    (hst : stAt i = .Assign [.Name x (tgPos (stAt i))] (.Call (.Name "set" (fnPos (stAt i))) [argOf (stAt i)] [] (caPos (stAt i))) (asPos (stAt i))) (hv : rangeVal (argOf (stAt i)) = some (a, b)) (hS : ∀ k, (upto a (b - a).toNat).any (· == k) = S k)
    (hloc : topN x = some .local) (hnew : x ∉ names) (hnb : x ≠ "__builtins__") (ha : AOk 0 A) (G : GS mg s.heap)
    (k : ∀ h' mg' tk, Mod h₀ mg₀ 13 12 h' mg' ps defs consts ((x, SetP w S) :: objs) (x :: names) → wpAny (model p0 w) A (execs r envT) Q E { s with heap := h', toks := tk }) :
    wpAny (model p0 w) A (execs (stAt i :: r) envT) Q E s :=
  obj_step (P := SetP w S) X hst hloc hnew hnb rfl (fun Q' hq => rangeVal_set hv hS ha G hq) k
end
end Mine

end PartH6b
section PartH6c
open PySem PySem.W PyProof.Rows PySem.Calls
set_option Elab.async false
set_option maxRecDepth 100000
set_option linter.unusedVariables false
namespace Mine
structure DefOk (f : Str) (i m : Nat) : Prop where
  st : stAt i = .FunctionDef f (paramsOf f) (bodyOf f) [] none [] (scopeOf f) none f (posOf (stAt i))
  kw : (paramsOf f).kwonlyargs = []
  kd : (paramsOf f).kw_defaults = []
  df : (paramsOf f).defaults = []
  ann : annTrees (paramsOf f) none (mainEnv p0 13 14) = []
  free : ((scopeOf f).names.all fun x => !(x.2 == .free)) = true
  loc : topN f = some .local
  q : qualnameIn { scope := p0.main.scope, locals := mainGlobals, globals := mainGlobals, cells := [] } f f = f
  line : (posOf (stAt i)).line = m
  thed : p0.theDef f = some (paramsOf f, bodyOf f, scopeOf f)
def LowL (n : Nat) (ps : Array Value) : Prop := ∀ pos : Pos, n < pos.line → codeAmong pos ps.toList = none
theorem codeAmong_more {pos : Pos} {l c : Int} {v : Value} (L : List Value) (h : TriplesOk L) (hn : codeAmong pos L = none) (hne : ¬ l = pos.line) : codeAmong pos (L ++ [rawInt l, rawInt c, v]) = none := by
  fun_induction TriplesOk L with
  | case1 => simp [codeAmong, rawInt, hne]
  | case2 a t b u x rest ih =>
    simp only [List.cons_append, codeAmong] at hn ⊢
    split at hn
    · cases hn
    · rename_i hc; rw [if_neg hc]; exact ih h hn
  | case3 l h1 h2 => exact h.elim
theorem LowL.more {n m : Nat} {ps : Array Value} {c : Int} {v : Value} (h : LowL n ps) (ht : TriplesOk ps.toList) (hm : n < m) : LowL m (ps ++ #[rawInt (m : Nat), rawInt c, v]) := by
  intro pos hp
  rw [Array.toList_append]
  exact codeAmong_more ps.toList ht (h pos (by omega)) (by omega)
section
variable {w : World} {A : Around} {E : Value → Shared → Prop} {s : Shared} {h₀ : Heap} {mg₀ mg : Str → Option Value} {ps : Array Value} {defs : List DefItem} {consts : List (Str × PyData)} {objs : List (Str × (Obj → Prop))} {names : List Str} {Q : Flow → Shared → Prop}
theorem def_go {f : Str} {i n m : Nat} {r : List Stmt} (X : Mod h₀ mg₀ 13 12 s.heap mg ps defs consts objs names) (D : DefOk f i m) (hL : LowL n ps) (hm : n < m) (hnew : f ∉ names) (hnb : f ≠ "__builtins__")
    (k : ∀ h' mg' ps' tk, LowL m ps' → Mod h₀ mg₀ 13 12 h' mg' ps' (item f i :: defs) consts objs (f :: names) → wpAny (model p0 w) A (execs r envT) Q E { s with heap := h', toks := tk }) :
    wpAny (model p0 w) A (execs (stAt i :: r) envT) Q E s :=
  def_step X D.st D.kw D.kd D.df D.ann D.free D.loc D.q hnew hnb (hL _ (by rw [D.line]; exact hm)) fun h' mg' c' tk Y => k h' mg' _ tk (by
    obtain ⟨o, vs, file, tf, flags, tg, inF, text, tt, op, e1, r1, r2, r3, r4, r5, r6, e2, r7, ht, r8⟩ := X.main.code
    rw [D.line]
    exact hL.more ht hm) Y
end
end Mine

end PartH6c
section PartH7
open PySem PySem.W PyProof.Rows PySem.Calls
set_option Elab.async false
set_option maxRecDepth 100000
set_option linter.unusedVariables false
namespace Mine
def defsT : List DefItem := [item "law" 25, item "_law_deeds" 24, item "_law_refused" 23, item "_law_left" 22, item "_law_piece" 21, item "_law_runs" 20, item "in_table_c9" 18, item "in_table_c8" 16, item "in_table_c7" 14, item "in_table_c6" 12, item "in_table_c4" 10, item "in_table_c11" 9, item "map_table_b3" 8, item "in_table_b1" 6, item "parse257" 3]
def objsT (w : World) : List (Str × (Obj → Prop)) := [("c9_set", SetP w inC9), ("c8_set", SetP w inC8), ("c7_set", SetP w inC7), ("c6_set", SetP w inC6), ("b3_exceptions", dictP w), ("b1_set", SetP w inB1)]
def namesT : List Str := ["law", "_law_deeds", "_law_refused", "_law_left", "_law_piece", "_law_runs", "in_table_c9", "c9_set", "in_table_c8", "c8_set", "in_table_c7", "c7_set", "in_table_c6", "c6_set", "in_table_c4", "in_table_c11", "map_table_b3", "b3_exceptions", "in_table_b1", "b1_set", "parse257"]
theorem d3 : DefOk "parse257" 3 6 := ⟨by kernel_rfl, by kernel_rfl, by kernel_rfl, by kernel_rfl, by kernel_rfl, by kernel_rfl, by kernel_rfl, by kernel_rfl, by kernel_rfl, by kernel_rfl⟩
theorem d6 : DefOk "in_table_b1" 6 25 := ⟨by kernel_rfl, by kernel_rfl, by kernel_rfl, by kernel_rfl, by kernel_rfl, by kernel_rfl, by kernel_rfl, by kernel_rfl, by kernel_rfl, by kernel_rfl⟩
theorem d8 : DefOk "map_table_b3" 8 28 := ⟨by kernel_rfl, by kernel_rfl, by kernel_rfl, by kernel_rfl, by kernel_rfl, by kernel_rfl, by kernel_rfl, by kernel_rfl, by kernel_rfl, by kernel_rfl⟩
theorem d9 : DefOk "in_table_c11" 9 33 := ⟨by kernel_rfl, by kernel_rfl, by kernel_rfl, by kernel_rfl, by kernel_rfl, by kernel_rfl, by kernel_rfl, by kernel_rfl, by kernel_rfl, by kernel_rfl⟩
theorem d10 : DefOk "in_table_c4" 10 35 := ⟨by kernel_rfl, by kernel_rfl, by kernel_rfl, by kernel_rfl, by kernel_rfl, by kernel_rfl, by kernel_rfl, by kernel_rfl, by kernel_rfl, by kernel_rfl⟩
theorem d12 : DefOk "in_table_c6" 12 43 := ⟨by kernel_rfl, by kernel_rfl, by kernel_rfl, by kernel_rfl, by kernel_rfl, by kernel_rfl, by kernel_rfl, by kernel_rfl, by kernel_rfl, by kernel_rfl⟩
theorem d14 : DefOk "in_table_c7" 14 46 := ⟨by kernel_rfl, by kernel_rfl, by kernel_rfl, by kernel_rfl, by kernel_rfl, by kernel_rfl, by kernel_rfl, by kernel_rfl, by kernel_rfl, by kernel_rfl⟩
theorem d16 : DefOk "in_table_c8" 16 49 := ⟨by kernel_rfl, by kernel_rfl, by kernel_rfl, by kernel_rfl, by kernel_rfl, by kernel_rfl, by kernel_rfl, by kernel_rfl, by kernel_rfl, by kernel_rfl⟩
theorem d18 : DefOk "in_table_c9" 18 52 := ⟨by kernel_rfl, by kernel_rfl, by kernel_rfl, by kernel_rfl, by kernel_rfl, by kernel_rfl, by kernel_rfl, by kernel_rfl, by kernel_rfl, by kernel_rfl⟩
theorem d20 : DefOk "_law_runs" 20 55 := ⟨by kernel_rfl, by kernel_rfl, by kernel_rfl, by kernel_rfl, by kernel_rfl, by kernel_rfl, by kernel_rfl, by kernel_rfl, by kernel_rfl, by kernel_rfl⟩
theorem d21 : DefOk "_law_piece" 21 58 := ⟨by kernel_rfl, by kernel_rfl, by kernel_rfl, by kernel_rfl, by kernel_rfl, by kernel_rfl, by kernel_rfl, by kernel_rfl, by kernel_rfl, by kernel_rfl⟩
theorem d22 : DefOk "_law_left" 22 77 := ⟨by kernel_rfl, by kernel_rfl, by kernel_rfl, by kernel_rfl, by kernel_rfl, by kernel_rfl, by kernel_rfl, by kernel_rfl, by kernel_rfl, by kernel_rfl⟩
theorem d23 : DefOk "_law_refused" 23 90 := ⟨by kernel_rfl, by kernel_rfl, by kernel_rfl, by kernel_rfl, by kernel_rfl, by kernel_rfl, by kernel_rfl, by kernel_rfl, by kernel_rfl, by kernel_rfl⟩
theorem d24 : DefOk "_law_deeds" 24 96 := ⟨by kernel_rfl, by kernel_rfl, by kernel_rfl, by kernel_rfl, by kernel_rfl, by kernel_rfl, by kernel_rfl, by kernel_rfl, by kernel_rfl, by kernel_rfl⟩
theorem d25 : DefOk "law" 25 129 := ⟨by kernel_rfl, by kernel_rfl, by kernel_rfl, by kernel_rfl, by kernel_rfl, by kernel_rfl, by kernel_rfl, by kernel_rfl, by kernel_rfl, by kernel_rfl⟩
theorem s5 : stAt 5 = .Assign [.Name "b1_set" (tgPos (stAt 5))] (.Call (.Name "set" (fnPos (stAt 5))) [argOf (stAt 5)] [] (caPos (stAt 5))) (asPos (stAt 5)) := by kernel_rfl
theorem s11 : stAt 11 = .Assign [.Name "c6_set" (tgPos (stAt 11))] (.Call (.Name "set" (fnPos (stAt 11))) [argOf (stAt 11)] [] (caPos (stAt 11))) (asPos (stAt 11)) := by kernel_rfl
theorem s13 : stAt 13 = .Assign [.Name "c7_set" (tgPos (stAt 13))] (.Call (.Name "set" (fnPos (stAt 13))) [argOf (stAt 13)] [] (caPos (stAt 13))) (asPos (stAt 13)) := by kernel_rfl
theorem s15 : stAt 15 = .Assign [.Name "c8_set" (tgPos (stAt 15))] (.Call (.Name "set" (fnPos (stAt 15))) [argOf (stAt 15)] [] (caPos (stAt 15))) (asPos (stAt 15)) := by kernel_rfl
theorem s17 : stAt 17 = .Assign [.Name "c9_set" (tgPos (stAt 17))] (.Call (.Name "set" (fnPos (stAt 17))) [argOf (stAt 17)] [] (caPos (stAt 17))) (asPos (stAt 17)) := by kernel_rfl
def nmPos : Stmt → Pos
  | .Assign _ (.Constant _ _ p) _ => p
  | _ => default
theorem n4 : stAt 4 = .Assign [.Name "__name__" (tgPos (stAt 4))] (.Constant (.str "cpy313.stringprep") 0 (nmPos (stAt 4))) (asPos (stAt 4)) := by kernel_rfl
theorem n19 : stAt 19 = .Assign [.Name "__name__" (tgPos (stAt 19))] (.Constant (.str "law_pk0102_01") 0 (nmPos (stAt 19))) (asPos (stAt 19)) := by kernel_rfl
theorem v5 : listVal 9 (argOf (stAt 5)) = some (([173, 847, 6150, 6155, 6156, 6157, 8203, 8204, 8205, 8288, 65279] : List Int) ++ upto 65024 16) := by kernel_rfl
theorem v11 : rangeVal (argOf (stAt 11)) = some (65529, 65534) := by kernel_rfl
theorem v13 : rangeVal (argOf (stAt 13)) = some (12272, 12284) := by kernel_rfl
theorem v15 : listVal 9 (argOf (stAt 15)) = some (([832, 833, 8206, 8207] : List Int) ++ upto 8234 5 ++ upto 8298 6) := by kernel_rfl
theorem v17 : listVal 9 (argOf (stAt 17)) = some (([917505] : List Int) ++ upto 917536 96) := by kernel_rfl
theorem upto_len (a : Int) (n : Nat) : (upto a n).length = n := by unfold upto; simp
theorem b1_any (k : Int) : (([173, 847, 6150, 6155, 6156, 6157, 8203, 8204, 8205, 8288, 65279] : List Int) ++ upto 65024 16).any (· == k) = inB1 k := by
  rw [List.any_append, range_any]
  unfold inB1
  rw [Bool.eq_iff_iff]
  simp only [List.any_cons, List.any_nil, Bool.or_eq_true, Bool.and_eq_true, decide_eq_true_iff, beq_iff_eq, Bool.false_eq_true, or_false]
  omega
theorem c8_any (k : Int) : (([832, 833, 8206, 8207] : List Int) ++ upto 8234 5 ++ upto 8298 6).any (· == k) = inC8 k := by
  rw [List.any_append, List.any_append, range_any, range_any]
  unfold inC8
  rw [Bool.eq_iff_iff]
  simp only [List.any_cons, List.any_nil, Bool.or_eq_true, Bool.and_eq_true, decide_eq_true_iff, beq_iff_eq, Bool.false_eq_true, or_false]
  omega
theorem c9_any (k : Int) : (([917505] : List Int) ++ upto 917536 96).any (· == k) = inC9 k := by
  rw [List.any_append, range_any]
  unfold inC9
  rw [Bool.eq_iff_iff]
  simp only [List.any_cons, List.any_nil, Bool.or_eq_true, Bool.and_eq_true, decide_eq_true_iff, beq_iff_eq, Bool.false_eq_true, or_false]
  omega
theorem c6_any (k : Int) : (upto 65529 ((65534 : Int) - 65529).toNat).any (· == k) = inC6 k := by
  rw [range_any]
  unfold inC6
  rw [Bool.eq_iff_iff]
  simp only [Bool.and_eq_true, decide_eq_true_iff]
  omega
theorem c7_any (k : Int) : (upto 12272 ((12284 : Int) - 12272).toNat).any (· == k) = inC7 k := by
  rw [range_any]
  unfold inC7
  rw [Bool.eq_iff_iff]
  simp only [Bool.and_eq_true, decide_eq_true_iff]
  omega
def ps0 : Array Value := #[.int 2 0, .int 0 0, .ref 20, .int 4 0, .int 0 0, .ref 33]
theorem low0 : LowL 5 ps0 := by
  intro pos h
  have e2 : (((2 : Int) == (pos.line : Int)) && ((0 : Int) == (pos.col : Int))) = false := by
    rw [Bool.and_eq_false_iff]; left; rw [beq_eq_false_iff_ne]; omega
  have e4 : (((4 : Int) == (pos.line : Int)) && ((0 : Int) == (pos.col : Int))) = false := by
    rw [Bool.and_eq_false_iff]; left; rw [beq_eq_false_iff_ne]; omega
  show (if (((2 : Int) == (pos.line : Int)) && ((0 : Int) == (pos.col : Int))) = true then _ else if (((4 : Int) == (pos.line : Int)) && ((0 : Int) == (pos.col : Int))) = true then _ else codeAmong pos []) = none
  rw [e2, e4]
  rfl
section
variable {w : World} {A : Around} {E : Value → Shared → Prop} {s : Shared} {mg₀ : Str → Option Value} {Q : Flow → Shared → Prop}
theorem top_walk (ha : AOk 0 A) (L : Low mg₀ s.heap) (hsys : sysModules < s.heap.objs.size) (X : Mod s.heap mg₀ 13 12 s.heap mg₀ ps0 [] [] [] [])
    (k : ∀ h' mg' mg₀' ps' tk, (∀ z : Str, z ≠ "__name__" → mg₀' z = mg₀ z) → Mod s.heap mg₀' 13 12 h' mg' ps' defsT [] (objsT w) namesT → Q .next { s with heap := h', toks := tk }) : wpAny (model p0 w) A (execs restL envT) Q E s := by
  rw [rest_eq]
  have P2 := low0
  refine def_go X d3 P2 (by decide) (by decide) (by decide) fun h3 mg3 ps3 t3 P3 X3 => ?_
  refine name_step X3 n4 rfl (by decide) (by decide) fun h4 mg4 mz4 t4 e4 X4 => ?_
  have L4 := L.name e4
  refine set_step X4 s5 v5 (by rw [List.length_append, upto_len]; decide) b1_any rfl (by decide) (by decide) ha (L4.gs X4 (by decide)) fun h5 mg5 t5 X5 => ?_
  refine def_go X5 d6 P3 (by decide) (by decide) (by decide) fun h6 mg6 ps6 t6 P6 X6 => ?_
  refine @b3_step w A E _ _ _ _ _ _ _ _ _ Q _ hsys X6 (by decide) fun h7 mg7 t7 X7 => ?_
  refine def_go X7 d8 P6 (by decide) (by decide) (by decide) fun h8 mg8 ps8 t8 P8 X8 => ?_
  refine def_go X8 d9 P8 (by decide) (by decide) (by decide) fun h9 mg9 ps9 t9 P9 X9 => ?_
  refine def_go X9 d10 P9 (by decide) (by decide) (by decide) fun h10 mg10 ps10 t10 P10 X10 => ?_
  refine setr_step X10 s11 v11 c6_any rfl (by decide) (by decide) ha (L4.gs X10 (by decide)) fun h11 mg11 t11 X11 => ?_
  refine def_go X11 d12 P10 (by decide) (by decide) (by decide) fun h12 mg12 ps12 t12 P12 X12 => ?_
  refine setr_step X12 s13 v13 c7_any rfl (by decide) (by decide) ha (L4.gs X12 (by decide)) fun h13 mg13 t13 X13 => ?_
  refine def_go X13 d14 P12 (by decide) (by decide) (by decide) fun h14 mg14 ps14 t14 P14 X14 => ?_
  refine set_step X14 s15 v15 (by rw [List.length_append, List.length_append, upto_len, upto_len]; decide) c8_any rfl (by decide) (by decide) ha (L4.gs X14 (by decide)) fun h15 mg15 t15 X15 => ?_
  refine def_go X15 d16 P14 (by decide) (by decide) (by decide) fun h16 mg16 ps16 t16 P16 X16 => ?_
  refine set_step X16 s17 v17 (by rw [List.length_append, upto_len]; decide) c9_any rfl (by decide) (by decide) ha (L4.gs X16 (by decide)) fun h17 mg17 t17 X17 => ?_
  refine def_go X17 d18 P16 (by decide) (by decide) (by decide) fun h18 mg18 ps18 t18 P18 X18 => ?_
  refine name_step X18 n19 rfl (by decide) (by decide) fun h19 mg19 mz19 t19 e19 X19 => ?_
  have L19 := L4.name e19
  refine def_go X19 d20 P18 (by decide) (by decide) (by decide) fun h20 mg20 ps20 t20 P20 X20 => ?_
  refine def_go X20 d21 P20 (by decide) (by decide) (by decide) fun h21 mg21 ps21 t21 P21 X21 => ?_
  refine def_go X21 d22 P21 (by decide) (by decide) (by decide) fun h22 mg22 ps22 t22 P22 X22 => ?_
  refine def_go X22 d23 P22 (by decide) (by decide) (by decide) fun h23 mg23 ps23 t23 P23 X23 => ?_
  refine def_go X23 d24 P23 (by decide) (by decide) (by decide) fun h24 mg24 ps24 t24 P24 X24 => ?_
  refine def_go X24 d25 P24 (by decide) (by decide) (by decide) fun h25 mg25 ps25 t25 P25 X25 => ?_
  refine wpAny_execs_nil ?_
  exact k _ _ _ _ _ (fun z hz => (e19 z hz).trans (e4 z hz)) X25
end
end Mine

end PartH7
section PartPre3
open PySem PySem.W PyProof.Rows PySem.Calls
set_option Elab.async false
set_option maxRecDepth 100000
set_option linter.unusedVariables false
namespace Mine
noncomputable def k2 (P : Params) : Obj :=
{ cls := Value.none,
  data :=
    Data.dict
      #[{ hash := PyData.keyHash P (Str.ofString "type.__subclasses__.Exception.0"),
          key := Value.str (Str.ofString "type.__subclasses__.Exception.0") 205, val := Value.int 24 0 },
        { hash := PyData.keyHash P (Str.ofString "type.__subclasses__.Exception.n"),
          key := Value.str (Str.ofString "type.__subclasses__.Exception.n") 206, val := Value.int 1 0 }]
      2 }
noncomputable def k3 (P : Params) : Obj :=
{ cls := Value.type "dict",
  data :=
    Data.dict
      #[{ hash := PyData.keyHash P (Str.ofString "__name__"), key := Value.str (Str.ofString "__name__") 165,
          val := Value.str (Str.ofString "cpy313.ftplib") 187 },
        { hash := PyData.keyHash P (Str.ofString "__doc__"), key := Value.str (Str.ofString "__doc__") 166,
          val := Value.none },
        { hash := PyData.keyHash P (Str.ofString "__package__"), key := Value.str (Str.ofString "__package__") 167,
          val := Value.none },
        { hash := PyData.keyHash P (Str.ofString "__loader__"), key := Value.str (Str.ofString "__loader__") 168,
          val := Value.builtin "__main__.__loader__#opaque" },
        { hash := PyData.keyHash P (Str.ofString "__spec__"), key := Value.str (Str.ofString "__spec__") 169,
          val := Value.none },
        { hash := PyData.keyHash P (Str.ofString "__annotations__"),
          key := Value.str (Str.ofString "__annotations__") 170, val := Value.ref 6 },
        { hash := PyData.keyHash P (Str.ofString "__builtins__"), key := Value.str (Str.ofString "__builtins__") 171,
          val := Value.ref 4 },
        { hash := PyData.keyHash P (Str.ofString "__file__"), key := Value.str (Str.ofString "__file__") 173,
          val := Value.str (Str.ofString "/claim/cut.py") 172 },
        { hash := PyData.keyHash P (Str.ofString "__cached__"), key := Value.str (Str.ofString "__cached__") 174,
          val := Value.none },
        { hash := PyData.keyHash P (Str.ofString "Error"), key := Value.str (Str.ofString "Error") 208,
          val := Value.ref 24 },
        { hash := PyData.keyHash P (Str.ofString "error_reply"), key := Value.str (Str.ofString "error_reply") 224,
          val := Value.ref 37 }]
      11 }
noncomputable def k11 (P : Params) : Obj :=
{ cls := Value.type "tuple", data := Data.seq #[] }
noncomputable def k12 (P : Params) : Obj :=
{ cls := Value.none,
  data := Data.fields #[Value.int 2 0, Value.int 0 0, Value.ref 20, Value.int 4 0, Value.int 0 0, Value.ref 33] }
noncomputable def k13 (P : Params) : Obj :=
{ cls := Value.type "code",
  data :=
    Data.fields
      #[Value.str (Str.ofString "<module>") 182, Value.str (Str.ofString "<module>") 183,
        Value.str (Str.ofString "/claim/cut.py") 184, Value.int 1 0, Value.int 0 0, Value.int 0 0, Value.int 0 0,
        Value.int 0 0, Value.ref 11, Value.bool false, Value.int 181 0, Value.ref 12, Value.none, Value.none,
        Value.none, Value.none, Value.int 185 0, Value.int 1 0, Value.str (Str.ofString "/claim/cut.py") 186] }
noncomputable def k14 (P : Params) : Obj :=
{ cls := Value.type "frame",
  slots :=
    #[some (Value.ref 13), some (Value.ref 3), some (Value.ref 3), none, some (Value.str (Str.ofString "__main__") 164),
      none, some (Value.ref 0)] }
noncomputable def k15 (P : Params) : Obj :=
{ cls := Value.type "tuple", data := Data.seq #[Value.type "Exception"] }
noncomputable def k16 (P : Params) : Obj :=
{ cls := Value.type "builtin_function_or_method",
  data := Data.fields #[Value.builtin "type.__prepare__", Value.type "type"] }
noncomputable def k17 (P : Params) : Obj :=
{ cls := Value.type "dict",
  data :=
    Data.dict
      #[{ hash := PyData.keyHash P (Str.ofString "__module__"), key := Value.str (Str.ofString "__module__") 196,
          val := Value.str (Str.ofString "cpy313.ftplib") 187 },
        { hash := PyData.keyHash P (Str.ofString "__qualname__"), key := Value.str (Str.ofString "__qualname__") 198,
          val := Value.str (Str.ofString "Error") 197 },
        { hash := PyData.keyHash P (Str.ofString "__firstlineno__"),
          key := Value.str (Str.ofString "__firstlineno__") 200, val := Value.int 2 199 },
        { hash := PyData.keyHash P (Str.ofString "__static_attributes__"),
          key := Value.str (Str.ofString "__static_attributes__") 201, val := Value.ref 22 }]
      4 }
noncomputable def k18 (P : Params) : Obj :=
{ cls := Value.type "tuple", data := Data.seq #[] }
noncomputable def k19 (P : Params) : Obj :=
{ cls := Value.none, data := Data.fields #[] }
noncomputable def k20 (P : Params) : Obj :=
{ cls := Value.type "code",
  data :=
    Data.fields
      #[Value.str (Str.ofString "Error") 191, Value.str (Str.ofString "Error") 192,
        Value.str (Str.ofString "/claim/cut.py") 193, Value.int 2 0, Value.int 0 0, Value.int 0 0, Value.int 0 0,
        Value.int 0 0, Value.ref 18, Value.bool false, Value.int 181 0, Value.ref 19, Value.none, Value.none,
        Value.none, Value.none, Value.int 194 0, Value.int 2 0, Value.str (Str.ofString "/claim/cut.py") 195] }
noncomputable def k21 (P : Params) : Obj :=
{ cls := Value.type "frame",
  slots :=
    #[some (Value.ref 20), some (Value.ref 3), some (Value.ref 17), none,
      some (Value.str (Str.ofString "cpy313.ftplib") 187), none, some (Value.ref 0)] }
noncomputable def k22 (P : Params) : Obj :=
{ cls := Value.type "tuple", data := Data.seq #[] }
noncomputable def k23 (P : Params) : Obj :=
{ cls := Value.type "dict",
  data :=
    Data.dict
      #[{ hash := PyData.keyHash P (Str.ofString "__module__"), key := Value.str (Str.ofString "__module__") 196,
          val := Value.str (Str.ofString "cpy313.ftplib") 187 },
        { hash := PyData.keyHash P (Str.ofString "__firstlineno__"),
          key := Value.str (Str.ofString "__firstlineno__") 200, val := Value.int 2 199 },
        { hash := PyData.keyHash P (Str.ofString "__static_attributes__"),
          key := Value.str (Str.ofString "__static_attributes__") 201, val := Value.ref 22 },
        { hash := PyData.keyHash P (Str.ofString "__weakref__"), key := Value.str (Str.ofString "__weakref__") 203,
          val := Value.ref 25 },
        { hash := PyData.keyHash P (Str.ofString "__doc__"), key := Value.str (Str.ofString "__doc__") 204,
          val := Value.none }]
      3 }
noncomputable def k24 (P : Params) : Obj :=
{ cls := Value.type "type",
  data :=
    Data.cls
      { name := Str.ofString "Error", bases := [Value.type "Exception"],
        mro := [Value.ref 24, Value.type "Exception", Value.type "BaseException", Value.type "object"], ns := 23,
        qualname := Str.ofString "Error", subclasses := [Value.ref 37] },
  slots :=
    #[some (Value.ref 15), none, some (Value.str (Str.ofString "Error") 189),
      some (Value.str (Str.ofString "Error") 197), some (Value.builtin "Exception.__new__"), some (Value.bool true)] }
noncomputable def k25 (P : Params) : Obj :=
{ cls := Value.type "getset_descriptor",
  data :=
    Data.fields
      #[Value.str (Str.ofString "__weakref__") 202, Value.ref 24, Value.builtin "ExceptionGroup.__weakref__",
        Value.none] }
noncomputable def k26 (P : Params) : Obj :=
{ cls := Value.type "super", data := Data.fields #[Value.ref 24, Value.ref 24, Value.ref 24] }
noncomputable def k27 (P : Params) : Obj :=
{ cls := Value.type "builtin_function_or_method",
  data := Data.fields #[Value.builtin "object.__init_subclass__", Value.ref 24] }
noncomputable def k28 (P : Params) : Obj :=
{ cls := Value.type "tuple", data := Data.seq #[Value.ref 24] }
noncomputable def k29 (P : Params) : Obj :=
{ cls := Value.type "builtin_function_or_method",
  data := Data.fields #[Value.builtin "type.__prepare__", Value.type "type"] }
noncomputable def k30 (P : Params) : Obj :=
{ cls := Value.type "dict",
  data :=
    Data.dict
      #[{ hash := PyData.keyHash P (Str.ofString "__module__"), key := Value.str (Str.ofString "__module__") 216,
          val := Value.str (Str.ofString "cpy313.ftplib") 187 },
        { hash := PyData.keyHash P (Str.ofString "__qualname__"), key := Value.str (Str.ofString "__qualname__") 218,
          val := Value.str (Str.ofString "error_reply") 217 },
        { hash := PyData.keyHash P (Str.ofString "__firstlineno__"),
          key := Value.str (Str.ofString "__firstlineno__") 220, val := Value.int 4 219 },
        { hash := PyData.keyHash P (Str.ofString "__static_attributes__"),
          key := Value.str (Str.ofString "__static_attributes__") 221, val := Value.ref 35 }]
      4 }
noncomputable def k31 (P : Params) : Obj :=
{ cls := Value.type "tuple", data := Data.seq #[] }
noncomputable def k32 (P : Params) : Obj :=
{ cls := Value.none, data := Data.fields #[] }
noncomputable def k33 (P : Params) : Obj :=
{ cls := Value.type "code",
  data :=
    Data.fields
      #[Value.str (Str.ofString "error_reply") 211, Value.str (Str.ofString "error_reply") 212,
        Value.str (Str.ofString "/claim/cut.py") 213, Value.int 4 0, Value.int 0 0, Value.int 0 0, Value.int 0 0,
        Value.int 0 0, Value.ref 31, Value.bool false, Value.int 181 0, Value.ref 32, Value.none, Value.none,
        Value.none, Value.none, Value.int 214 0, Value.int 4 0, Value.str (Str.ofString "/claim/cut.py") 215] }
noncomputable def k34 (P : Params) : Obj :=
{ cls := Value.type "frame",
  slots :=
    #[some (Value.ref 33), some (Value.ref 3), some (Value.ref 30), none,
      some (Value.str (Str.ofString "cpy313.ftplib") 187), none, some (Value.ref 0)] }
noncomputable def k35 (P : Params) : Obj :=
{ cls := Value.type "tuple", data := Data.seq #[] }
noncomputable def k36 (P : Params) : Obj :=
{ cls := Value.type "dict",
  data :=
    Data.dict
      #[{ hash := PyData.keyHash P (Str.ofString "__module__"), key := Value.str (Str.ofString "__module__") 216,
          val := Value.str (Str.ofString "cpy313.ftplib") 187 },
        { hash := PyData.keyHash P (Str.ofString "__firstlineno__"),
          key := Value.str (Str.ofString "__firstlineno__") 220, val := Value.int 4 219 },
        { hash := PyData.keyHash P (Str.ofString "__static_attributes__"),
          key := Value.str (Str.ofString "__static_attributes__") 221, val := Value.ref 35 },
        { hash := PyData.keyHash P (Str.ofString "__doc__"), key := Value.str (Str.ofString "__doc__") 222,
          val := Value.none }]
      2 }
noncomputable def k37 (P : Params) : Obj :=
{ cls := Value.type "type",
  data :=
    Data.cls
      { name := Str.ofString "error_reply", bases := [Value.ref 24],
        mro := [Value.ref 37, Value.ref 24, Value.type "Exception", Value.type "BaseException", Value.type "object"],
        ns := 36, qualname := Str.ofString "error_reply" },
  slots :=
    #[some (Value.ref 28), none, some (Value.str (Str.ofString "error_reply") 209),
      some (Value.str (Str.ofString "error_reply") 217), some (Value.builtin "Exception.__new__"),
      some (Value.bool true)] }
noncomputable def k38 (P : Params) : Obj :=
{ cls := Value.type "super", data := Data.fields #[Value.ref 37, Value.ref 37, Value.ref 37] }
noncomputable def k39 (P : Params) : Obj :=
{ cls := Value.type "builtin_function_or_method",
  data := Data.fields #[Value.builtin "object.__init_subclass__", Value.ref 37] }
noncomputable def kHeap (P : Params) : Heap :=
  { objs := { toList := [boot_o_0 P, boot_o_1 P, k2 P, k3 P, boot_o_4 P, boot_o_5 P, boot_o_6 P, boot_o_7 P, boot_o_8 P, boot_o_9 P, boot_o_10 P, k11 P, k12 P, k13 P, k14 P, k15 P, k16 P, k17 P, k18 P, k19 P, k20 P, k21 P, k22 P, k23 P, k24 P, k25 P, k26 P, k27 P, k28 P, k29 P, k30 P, k31 P, k32 P, k33 P, k34 P, k35 P, k36 P, k37 P, k38 P, k39 P] } }
noncomputable def S0 (w : World) (os : OsState) : Shared := ⟨boot_heap w.params, ⟨[]⟩, boot_drawn, boot_toks, os⟩
noncomputable def Sk (w : World) (os : OsState) : Shared := ⟨kHeap w.params, ⟨[]⟩, {}, 225, os⟩
noncomputable def curOf (rest : List Stmt) : Sem Fin := ((execs rest envT).onRaise (leaving envT)).bind fun f => Sem.pure (Fin.done f)
noncomputable def Tk : Thread := ⟨curOf restL, .body (behindTheImports p0) envT, ⟨4, 0, 5, 8⟩, [topFrame ⟨0, 0, 0, 0⟩]⟩
set_option maxHeartbeats 0 in
theorem pre_run (w : World) : (fun os => topGo treeTable p0 w 11 (some (.ref 6)) 430 (S0 w os) (topStub p0)) = fun os => some (Sk w os, Tk) := by kernel_rfl
end Mine

end PartPre3
section PartH8a
open PySem PySem.W PyProof.Rows PySem.Calls
set_option Elab.async false
set_option maxRecDepth 100000
set_option linter.unusedVariables false
namespace Mine
section
variable (P : Params)
noncomputable def m0 : Str → Option Value := (kHeap P).nsMap mainGlobals
def asked : List Str := freeNames ++ (["set", "list"] : List Str)
theorem k_ns : (kHeap P).isNs mainGlobals = true := by kernel_rfl
theorem k_bns : (kHeap P).isNs builtinsNs = true := by kernel_rfl
theorem k_cns : (kHeap P).isNs cStatics = true := by kernel_rfl
theorem k_blt : (kHeap P).bltView = bltViewBooted := by kernel_rfl
theorem k_size : (kHeap P).objs.size = 40 := by kernel_rfl
theorem b_size : (boot_heap P).objs.size = 11 := by kernel_rfl
theorem m0_free : asked.all (fun x => (m0 P x).isNone) = true := by kernel_rfl
theorem m0_err : m0 P "error_reply" = some (.ref 37) := by kernel_rfl
theorem m0_bi : m0 P "__builtins__" = some (.ref 4) := by kernel_rfl
theorem k_acc : (kHeap P).accountedOkI (importedModules p0.main.body) = true := by kernel_rfl
theorem k_stat : staticsOk (importedModules p0.main.body) (boot_heap P) (kHeap P) = true := by kernel_rfl
theorem k_names : namesBound p0 (kHeap P) = true := by kernel_rfl
theorem k_laid : laidKept (boot_heap P) (kHeap P) = true := by kernel_rfl
theorem k_stats : ((kHeap P).nsMap cStatics "sys.recursionlimit", (kHeap P).nsMap cStatics "sys.int_max_str_digits", (kHeap P).nsMap cStatics sharingNotToldKey) = (none, none, none) := by kernel_rfl
theorem g4 : (kHeap P).get? 4 = some (boot_o_4 P) := by kernel_rfl
theorem g12 : (kHeap P).get? 12 = some (k12 P) := by kernel_rfl
theorem g13 : (kHeap P).get? 13 = some (k13 P) := by kernel_rfl
theorem g23 : (kHeap P).get? 23 = some (k23 P) := by kernel_rfl
theorem g24 : (kHeap P).get? 24 = some (k24 P) := by kernel_rfl
theorem g36 : (kHeap P).get? 36 = some (k36 P) := by kernel_rfl
theorem g37 : (kHeap P).get? 37 = some (k37 P) := by kernel_rfl
theorem n23 : (kHeap P).isNs 23 = true := by kernel_rfl
theorem n36 : (kHeap P).isNs 36 = true := by kernel_rfl
def quietE : List Str := quietNames ++ (["__str__"] : List Str)
theorem q23 : quietE.all (fun x => ((kHeap P).nsMap 23 x).isNone) = true := by kernel_rfl
theorem q36 : quietE.all (fun x => ((kHeap P).nsMap 36 x).isNone) = true := by kernel_rfl
theorem k_code : (kHeap P).IsCode 13 12 ps0 := ⟨k13 P, _, _, _, _, _, _, _, _, k12 P, g13 P, rfl, rfl, rfl, rfl, rfl, rfl, g12 P, rfl, trivial, by decide⟩
theorem k_bmod : (kHeap P).BuiltinsAt (m0 P) 12 := ⟨4, boot_o_4 P, m0_bi P, by decide, by decide, by decide, g4 P, rfl, rfl, rfl⟩
theorem k_main : (kHeap P).Main (m0 P) 13 12 ps0 := ⟨.of_isNs (k_ns P), k_code P, ⟨by decide, by decide⟩, k_bmod P⟩
theorem k_mod : Mod (kHeap P) (m0 P) 13 12 (kHeap P) (m0 P) ps0 [] [] [] [] :=
  ⟨k_main P, fun _ _ _ _ e => e, (fun _ hd => nomatch hd), (fun _ hp => nomatch hp), fun _ _ => rfl, (fun _ hd => nomatch hd), (fun _ hp => nomatch hp), (fun _ hp => nomatch hp), (fun _ hp => nomatch hp), Nat.le_refl _,
    by rw [k_size]; decide, by rw [k_size]; decide, (fun _ hd => nomatch hd)⟩
theorem m0_none {x : Str} (h : x ∈ asked) : m0 P x = none := by
  have := List.all_eq_true.mp (m0_free P) x h
  exact Option.isNone_iff_eq_none.mp this
theorem k_low : Low (m0 P) (kHeap P) :=
  ⟨fun x hx => m0_none P (by revert x; decide), _, .of_isNs (k_bns P), fun x hx => Heap.of_bltView (k_bns P) (k_blt P) x hx⟩
end
end Mine

end PartH8a
section PartH8b
open PySem PySem.W PyProof.Rows PySem.Calls
set_option Elab.async false
set_option maxRecDepth 100000
set_option linter.unusedVariables false
namespace Mine
section
variable {P : Params} {h : Heap}
/-- the classes' objects stand -/
structure Cls (P : Params) (h : Heap) : Prop where
  o37 : h.get? 37 = some (k37 P)
  o24 : h.get? 24 = some (k24 P)
  o36 : h.get? 36 = some (k36 P)
  o23 : h.get? 23 = some (k23 P)
theorem Cls.ext {h' : Heap} (x : Cls P h) (k : Ext h h') : Cls P h' := ⟨k _ _ x.o37, k _ _ x.o24, k _ _ x.o36, k _ _ x.o23⟩
theorem Cls.n36 (x : Cls P h) : h.Ns 36 ((kHeap P).nsMap 36) := (Heap.Ns.of_isNs (Mine.n36 P)).at fun o e => by rw [g36 P] at e; cases e; exact x.o36
theorem Cls.n23 (x : Cls P h) : h.Ns 23 ((kHeap P).nsMap 23) := (Heap.Ns.of_isNs (Mine.n23 P)).at fun o e => by rw [g23 P] at e; cases e; exact x.o23
theorem quiet36 {x : Str} (hx : x ∈ quietE) : (kHeap P).nsMap 36 x = none := Option.isNone_iff_eq_none.mp (List.all_eq_true.mp (q36 P) x hx)
theorem quiet23 {x : Str} (hx : x ∈ quietE) : (kHeap P).nsMap 23 x = none := Option.isNone_iff_eq_none.mp (List.all_eq_true.mp (q23 P) x hx)
theorem Cls.own {mg : Str → Option Value} (x : Cls P h) (hb : mg "error_reply" = some (.ref 37)) : OwnClsQ "error_reply" 37 excTail "Exception.__new__" mg h := by
  refine ⟨hb, [.ref 24, .type "Exception", .type "BaseException", .type "object"], 36, _, _, _, _, _, _, _, _, _, _, _, _, _, _, _, x.o37, x.n36, fun n hn => quiet36 (List.mem_append_left _ hn), ?_⟩
  exact .own x.o24 x.n23 (fun n hn => quiet23 (List.mem_append_left _ hn)) .base
theorem Cls.str (x : Cls P h) : LookStr 37 h := by
  intro M A E h' g d t os Q k hq
  have x' := x.ext k
  have hB := PySem.F.excStr_Exception.str.lookup
  have hbm : mroOf (.type "Exception") = pure excTail := PySem.F.excBase_Exception.mroIs
  have hrest : lookupAlong excTail "__str__" = pure (some (.builtin "BaseException.__str__")) := by rw [typeLookup_eq, hbm] at hB; exact hB
  rw [typeLookup_eq]
  refine wpAny_bind (wpAny_mroOf_exc x'.o37 ?_)
  rw [lookupAlong_cons]
  refine wpAny_bind (wpAny_classOwn_exc x'.o37 x'.n36 ?_)
  rw [quiet36 (by decide)]
  show wpAny _ _ (lookupAlong (.ref 24 :: excTail) _) _ _ _
  rw [lookupAlong_cons]
  refine wpAny_bind (wpAny_classOwn_exc x'.o24 x'.n23 ?_)
  rw [quiet23 (by decide)]
  show wpAny _ _ (lookupAlong excTail _) _ _ _
  rw [hrest]
  exact wpAny_pure hq
end
end Mine

end PartH8b
section PartH8c
open PySem PySem.W PyProof.Rows PySem.Calls
set_option Elab.async false
set_option maxRecDepth 100000
set_option linter.unusedVariables false
namespace Mine
section
variable {P : Params} {w : World} {h' : Heap} {mg' mg₀' : Str → Option Value} {ps' : Array Value}
/-- the state behind the top, as the walk leaves it -/
structure EndT (P : Params) (w : World) (h' : Heap) (mg' : Str → Option Value) : Prop where
  mk :: ex : ∃ mg₀' ps', (∀ z : Str, z ≠ "__name__" → mg₀' z = m0 P z) ∧ Mod (kHeap P) mg₀' 13 12 h' mg' ps' defsT [] (objsT w) namesT
theorem EndT.keep (x : EndT P w h' mg') : ∀ b o, b ≠ 12 → b ≠ 3 → (kHeap P).get? b = some o → h'.get? b = some o := by
  obtain ⟨mg₀', ps', e, X⟩ := x.ex
  exact fun b o h1 h2 e => X.keep b o h1 h2 e
theorem EndT.g (x : EndT P w h' mg') : h'.Ns mainGlobals mg' := let ⟨_, _, _, X⟩ := x.ex; X.main.g
theorem EndT.old (x : EndT P w h' mg') {y : Str} (h1 : y ∉ namesT) (h2 : y ≠ "__name__") : mg' y = m0 P y := by
  obtain ⟨mg₀', ps', e, X⟩ := x.ex
  rw [X.others y h1, e y h2]
theorem EndT.cls (x : EndT P w h' mg') : Cls P h' :=
  ⟨x.keep _ _ (by decide) (by decide) (g37 P), x.keep _ _ (by decide) (by decide) (g24 P), x.keep _ _ (by decide) (by decide) (g36 P), x.keep _ _ (by decide) (by decide) (g23 P)⟩
theorem EndT.ns {a : Addr} {m : Str → Option Value} (x : EndT P w h' mg') (h1 : a ≠ 12) (h2 : a ≠ 3) (hn : (kHeap P).Ns a m) : h'.Ns a m := hn.at fun o e => x.keep _ o h1 h2 e
theorem stats3 : (kHeap P).nsMap cStatics "sys.recursionlimit" = none ∧ (kHeap P).nsMap cStatics "sys.int_max_str_digits" = none ∧ (kHeap P).nsMap cStatics sharingNotToldKey = none := by
  have := k_stats P
  simpa only [Prod.mk.injEq] using this
def okItem (d : DefItem) : Prop := p0.theDef d.name = some (d.params, d.body, d.scope) ∧ d.params.defaults = []
theorem DefOk.item {f : Str} {i m : Nat} (D : DefOk f i m) : okItem (item f i) := ⟨D.thed, D.df⟩
theorem items_ok : ∀ d ∈ defsT, okItem d := by
  intro d hd
  unfold defsT at hd
  simp only [List.mem_cons, List.not_mem_nil, or_false] at hd
  rcases hd with rfl | rfl | rfl | rfl | rfl | rfl | rfl | rfl | rfl | rfl | rfl | rfl | rfl | rfl | rfl
  · exact d25.item
  · exact d24.item
  · exact d23.item
  · exact d22.item
  · exact d21.item
  · exact d20.item
  · exact d18.item
  · exact d16.item
  · exact d14.item
  · exact d12.item
  · exact d10.item
  · exact d9.item
  · exact d8.item
  · exact d6.item
  · exact d3.item
theorem defsT_names : fnNames.all (fun f => (defsT.map (·.name)).contains f) = true := by decide
theorem EndT.fn (x : EndT P w h' mg') : ∀ f ∈ fnNames, ∃ a, mg' f = some (.ref a) ∧ FnAt h' a f := by
  obtain ⟨mg₀', ps', e, X⟩ := x.ex
  intro f hf
  have hc := List.all_eq_true.mp defsT_names f hf
  obtain ⟨d, hd, rfl⟩ := List.mem_map.mp (List.contains_iff_mem.mp hc)
  obtain ⟨h1, h2⟩ := items_ok d hd
  obtain ⟨a, c', o, pm, doc, _, _, hm, ho, hdata, hcd⟩ := (X.made d hd).plain h2
  exact ⟨a, hm, o, pm, _, doc, _, _, _, h1, ho, hdata, hcd⟩
theorem EndT.sets (x : EndT P w h' mg') : ∀ q ∈ setList, ∃ a n, mg' q.1 = some (.ref a) ∧ h'.SetOf (intKind p0 w) a q.2 n := by
  obtain ⟨mg₀', ps', e, X⟩ := x.ex
  have key : ∀ y S, (y, SetP w S) ∈ objsT w → ∃ a n, mg' y = some (.ref a) ∧ h'.SetOf (intKind p0 w) a S n := by
    intro y S hy
    obtain ⟨a, o, _, hm, ho, n, hn, hs⟩ := X.held _ hy
    exact ⟨a, n, hm, hs.setOf ho hn⟩
  intro q hq
  unfold setList at hq
  simp only [List.mem_cons, List.not_mem_nil, or_false] at hq
  rcases hq with rfl | rfl | rfl | rfl | rfl
  · exact key _ _ (by unfold objsT; simp)
  · exact key _ _ (by unfold objsT; simp)
  · exact key _ _ (by unfold objsT; simp)
  · exact key _ _ (by unfold objsT; simp)
  · exact key _ _ (by unfold objsT; simp)
theorem EndT.b3 (x : EndT P w h' mg') : ∃ a f, mg' "b3_exceptions" = some (.ref a) ∧ (a == sysModules) = false ∧ h'.MapOf (intKind p0 w) a f ∧ ∀ k : Int, match b3Look k with | some x => ∃ t, f k = some (.str x t) | none => f k = none := by
  obtain ⟨mg₀', ps', e, X⟩ := x.ex
  obtain ⟨a, o, hN, hm, ho, kvs, T, hd⟩ := X.held ("b3_exceptions", dictP w) (by unfold objsT; simp)
  refine ⟨a, valueAt kvs, hm, ?_, (Heap.dictOf_iff.mpr ⟨o, ho, hd⟩).mapOf, T.look⟩
  rw [k_size] at hN
  exact beq_eq_false_iff_ne.mpr (Nat.ne_of_gt (Nat.lt_of_lt_of_le (by decide) hN))
theorem asked_old : freeNames.all (fun x => !namesT.contains x && !(x == ("__name__" : Str)) && asked.contains x) = true := by decide
theorem EndT.w0 (x : EndT P w h' mg') : W0 w mg' h' where
  g := x.g
  b := ⟨_, x.ns (by decide) (by decide) (.of_isNs (k_bns P)), fun y hy => Heap.of_bltView (k_bns P) (k_blt P) y hy⟩
  nolimit := ⟨_, x.ns (by decide) (by decide) (.of_isNs (k_cns P)), stats3.1⟩
  nodigits := ⟨_, x.ns (by decide) (by decide) (.of_isNs (k_cns P)), stats3.2.1⟩
  nb := ⟨_, x.ns (by decide) (by decide) (.of_isNs (k_cns P)), stats3.2.2⟩
  free := fun y hy => by
    have h := List.all_eq_true.mp asked_old y hy
    simp only [Bool.and_eq_true, Bool.not_eq_true', beq_eq_false_iff_ne] at h
    rw [x.old (fun hm => by rw [List.contains_iff_mem.mpr hm] at h; cases h.1.1) h.1.2]
    exact m0_none P (List.contains_iff_mem.mp h.2)
  fn := x.fn
  sets := x.sets
  b3 := x.b3
  err := ⟨37, x.cls.own ((x.old (by decide) (by decide)).trans (m0_err P)), x.cls.str⟩
end
end Mine

end PartH8c
section PartH8d
open PySem PySem.W PyProof.Rows PySem.Calls
set_option Elab.async false
set_option maxRecDepth 100000
set_option linter.unusedVariables false
namespace Mine
def topA : Around := { depth := 400, units := 100 }
theorem topA_ok : AOk 0 topA := ⟨rfl, by decide, by decide⟩
theorem topA_in : (Ctx.of (.body (behindTheImports p0) envT) [topFrame ⟨0, 0, 0, 0⟩]).In topA := by
  unfold Ctx.In
  refine ⟨rfl, ?_, ?_, ?_, ?_⟩
  · show frameCount _ + (Code.body (behindTheImports p0) envT).weight ≤ 400
    decide +kernel
  · intro l hl; cases hl
  · intro l hl; cases hl
  · show Ctx.units _ ≤ 100
    decide +kernel
theorem boot_keep {P : Params} : ∀ b o, b ≠ 2 → b ≠ 3 → (boot_heap P).get? b = some o → (kHeap P).get? b = some o := by
  intro b o h2 h3 e
  have hlt := Heap.lt_size e
  rw [b_size] at hlt
  match b, hlt, h2, h3 with
  | 0, _, _, _ => exact e
  | 1, _, _, _ => exact e
  | 4, _, _, _ => exact e
  | 5, _, _, _ => exact e
  | 6, _, _, _ => exact e
  | 7, _, _, _ => exact e
  | 8, _, _, _ => exact e
  | 9, _, _, _ => exact e
  | 10, _, _, _ => exact e
theorem top_end {w : World} {os : OsState} (hz : (S0 w os).asleep) : ∃ n s₁ t₁ mg', schedN (denote table) p0 w n (.single (S0 w os) (topStub p0)) = .running (.single s₁ t₁) ∧ through t₁ = true ∧ EndT w.params w s₁.heap mg' ∧ 0 < s₁.toks ∧ s₁.os = os ∧ s₁.gens = #[] ∧ s₁.heap.life = (S0 w os).heap.life := by
  have go := congrFun (pre_run w) os
  rw [← table_eq_tree] at go
  obtain ⟨hrun, hlife⟩ := topGo_sched 430 _ _ _ _ hz go
  have hzk : (Sk w os).asleep := Shared.asleep_of_life hlife hz
  have walk : wpAny (model p0 w) topA (execs restL envT) (fun f s' => f = .next ∧ ((∃ mg', EndT w.params w s'.heap mg') ∧ 0 < s'.toks ∧ s'.os = os) ∧ s'.gens = #[]) (fun _ _ => False) (Sk w os) := by
    refine wpAny_mono (wpT (s := Sk w os) (E := fun _ _ => False) (Q := fun f s' => f = .next ∧ ((∃ mg', EndT w.params w s'.heap mg') ∧ 0 < s'.toks ∧ s'.os = os) ∧ s'.gens = #[]) (show 0 < 225 by decide) ?_) (fun _ _ x => x) fun _ _ x => x
    refine top_walk (s := Sk w os) topA_ok (k_low w.params) (by show sysModules < (kHeap w.params).objs.size; rw [k_size]; decide) (k_mod w.params) fun h' mg' mg₀' ps' tk e X ht => ?_
    exact ⟨rfl, ⟨⟨mg', ⟨mg₀', ps', e, X⟩⟩, ht, rfl⟩, rfl⟩
  obtain ⟨n, s₁, t₁, h1, h2, ⟨⟨mg', x⟩, ht, ho⟩, hg, hl⟩ := top_through (p := p0) (w := w) (s := Sk w os) (t := curOf restL) (c := .body (behindTheImports p0) envT) (pos := ⟨4, 0, 5, 8⟩) (q := ⟨0, 0, 0, 0⟩)
    (P := fun s' => (∃ mg', EndT w.params w s'.heap mg') ∧ 0 < s'.toks ∧ s'.os = os) hzk (by
      unfold curOf
      rw [Sem.wp_bind, Sem.wp_onRaise]
      exact Sem.wp_mono _ _ _ (fun f p' s' h => ⟨congrArg Except.ok h.1, h.2⟩) (fun e p' s' h => h.elim) _ _ (walk _ _ topA_in))
  exact ⟨430 + n, s₁, t₁, mg', (hrun n).trans h1, h2, x, ht, ho, hg, hl.trans hlife⟩
end Mine

end PartH8d
section PartH8e
open PySem PySem.W PyProof.Rows PySem.Calls
set_option Elab.async false
set_option maxRecDepth 100000
set_option linter.unusedVariables false
namespace Mine
section
variable {P : Params} {w : World} {h' : Heap} {mg' : Str → Option Value}
theorem EndT.glob (x : EndT P w h' mg') (y : Str) : globalOf h' y = mg' y := Claim2Try.globalOf_of_ns x.g y
theorem k_glob (y : Str) : globalOf (kHeap P) y = m0 P y := Pin.globalOf_eq (k_ns P) y
theorem EndT.stat (x : EndT P w h' mg') (y : Str) : staticOf h' y = staticOf (kHeap P) y := by
  obtain ⟨o, es, ep, ho, r⟩ := Heap.Ns.of_isNs (k_cns P)
  have ho' := x.keep _ o (by decide) (by decide) ho
  unfold staticOf
  rw [ho, ho']
theorem EndT.biOf (x : EndT P w h' mg') (y : Str) (hy : y ≠ "__name__") : builtinOf h' y = bootBuiltins y := by
  obtain ⟨o, es, ep, ho, hd, _, hf⟩ := x.ns (a := builtinsNs) (by decide) (by decide) (.of_isNs (k_bns P))
  simp only [builtinOf, ho, hd]
  exact (hf y).trans (Heap.of_bltView (k_bns P) (k_blt P) y hy)
theorem names_split : namesT.all (fun x => p0.boundNames.contains x) = true := by decide +kernel
theorem laid_old : laidNames.all (fun x => !namesT.contains x && !(x == ("__name__" : Str))) = true := by decide
theorem EndT.names (x : EndT P w h' mg') : ∀ y v, globalOf h' y = some v → y ∈ startupNames ∨ y ∈ p0.boundNames := by
  intro y v hv
  by_cases h1 : y ∈ namesT
  · exact .inr (List.contains_iff_mem.mp (List.all_eq_true.mp names_split y h1))
  · by_cases h2 : y = "__name__"
    · subst h2; exact .inl (by decide)
    · rw [x.glob, x.old h1 h2] at hv
      exact names_of_bound (k_names P) y v (by rw [k_glob]; exact hv)
theorem EndT.laid (x : EndT P w h' mg') : ∀ y ∈ laidNames, globalOf h' y = globalOf (boot_heap P) y := by
  intro y hy
  have h := List.all_eq_true.mp laid_old y hy
  simp only [Bool.and_eq_true, Bool.not_eq_true', beq_eq_false_iff_ne] at h
  rw [x.glob, x.old (fun hm => by rw [List.contains_iff_mem.mpr hm] at h; cases h.1) h.2, ← k_glob]
  exact laid_of_kept (k_laid P) y hy
theorem EndT.acc (x : EndT P w h' mg') : staticsAccountedI h' (importedModules p0.main.body) := by
  have h := Heap.accountedI_of_ok (k_acc P)
  unfold staticsAccountedI at h ⊢
  simp only [x.stat]
  exact h
theorem EndT.behind (x : EndT P w h' mg') : staticsBehindTheTop (importedModules p0.main.body) (boot_heap P) h' := by
  have h := statics_of_ok (k_stat P)
  intro key
  rw [x.stat]
  exact h key
theorem EndT.law (x : EndT P w h' mg') : isTheDefsW p0 h' "law" := by
  obtain ⟨mg₀', ps', e, X⟩ := x.ex
  obtain ⟨a, c', o, pm, doc, _, _, hm, ho, hdata, hcd⟩ := (X.made (item "law" 25) (by unfold defsT; simp)).plain d25.df
  exact ⟨a, o, _, paramsOf "law", bodyOf "law", scopeOf "law", (x.glob _).trans hm, ho, hdata, d25.thed, rfl, rfl, rfl, rfl, rfl, rfl, rfl, rfl,
    .inl ⟨d25.df, rfl⟩, [], by rw [d25.kw, d25.kd]; rfl, .inl ⟨rfl, rfl⟩⟩
end
theorem top_ran {w : World} {os : OsState} (hz : (S0 w os).asleep) : ∃ s₁ mg', TopRan p0 w (S0 w os) s₁ ∧ EndT w.params w s₁.heap mg' ∧ 0 < s₁.toks ∧ s₁.gens = #[] ∧ s₁.asleep := by
  obtain ⟨n, s₁, t₁, mg', hrun, hthr, x, ht, ho, hg, hl⟩ := top_end hz
  refine ⟨s₁, mg', ⟨⟨n, t₁, hrun, hthr⟩, hl, Shared.rest_eq ho, fun b o hb hn => ?_, x.acc, x.behind, ?_, fun y hy => x.biOf y hy, ?_, fun g hg' => ?_, x.names, x.laid⟩, x, ht, hg, Shared.asleep_of_life hl hz⟩
  · have hb' : (boot_heap w.params).get? b = some o := hb
    have hlt := Heap.lt_size hb'
    rw [b_size] at hlt
    have h3 : b ≠ 3 := fun e => hn (.inl e)
    have h2 : b ≠ 2 := fun e => hn (.inr (.inl e))
    exact x.keep b o (Nat.ne_of_lt (Nat.lt_trans hlt (by decide))) h3 (boot_keep b o h2 h3 hb')
  · obtain ⟨o, es, ep, e1, e2, e3, _⟩ := x.g
    exact ⟨o, es, ep, e1, e2, e3⟩
  · obtain ⟨mg₀', ps', e, X⟩ := x.ex
    obtain ⟨bm, o, hbm, _, _, _, hbo, hc, hd, _⟩ := X.main.bmod
    exact ⟨bm, o, (x.glob _).trans hbm, hbo, hc, hd⟩
  · rw [hg] at hg'
    simp at hg'
end Mine

end PartH8e
section PartH9
open PySem PySem.W PyProof.Rows PySem.Calls
set_option Elab.async false
set_option maxRecDepth 100000
set_option linter.unusedVariables false
namespace Mine
abbrev rowR : RowW := PySem.Challenge.rw_pk0102_01.row.toRowW
theorem boot_is (w : World) : ∃ s, AfterRun (opening p0) w s ∧ ∃ os, fenceModules? p0 s = some (S0 w os) ∧ (S0 w os).asleep := by
  have h := boot_open (p := p0) (N := 600) (by kernel_rfl) (by decide) (fun s => by kernel_rfl) w
  obtain ⟨s₀, h2, e'⟩ := Option.map_eq_some_iff.mp h
  unfold fencedOpening at h2
  obtain ⟨s, h4, h5⟩ := Option.bind_eq_some_iff.mp h2
  rw [← table_eq_tree] at h4
  have A := AfterImport.of_importEnds h4
  have z : s₀.asleep := Shared.asleep_of_life (fence_lifeW h5) A.life
  obtain ⟨hp, gs, dr, tk, os⟩ := s₀
  simp only [Prod.mk.injEq] at e'
  obtain ⟨rfl, rfl, rfl, rfl⟩ := e'
  exact ⟨s, A, os, h5, z⟩
section
variable {R : WRecords} {cl : Str → Option Addr} {h : Heap}
theorem ints_read : ∀ {ns : List Int} {vs : List Value} {as : List Addr}, ReadsAllW R cl h vs (ns.map WData.int) as → RepL h (ns.map PV.int) vs
  | [], vs, as, r => by
    obtain ⟨rfl, _⟩ := readsAllW_nil_inv r
    unfold List.map RepL
    rfl
  | n :: ns, vs, as, r => by
    obtain ⟨v, vs', a1, a2, rfl, _, r1, r2⟩ := readsAllW_cons_inv r
    obtain ⟨t, rfl, _⟩ := readsW_int_inv r1
    unfold List.map RepL
    exact ⟨_, _, rfl, rInt, ints_read r2⟩
end
theorem callA_ok : AOk 5 callerA := ⟨rfl, by decide, by decide⟩
theorem post_true (ns : List Int) : rowR.claim.post [.list (ns.map WData.int)] (.bool true) [.list (ns.map WData.int)] = true := by wrow_post
theorem the_law (hw : rowR.promised) : rowR.claim.HoldsOpenBy (callStub "law") ["law"] PySem.Challenge.rw_pk0102_01.row.keeps false := by
  refine ⟨⟨⟨rfl, rfl, rfl, rfl, rfl, by decide +kernel⟩, by decide +kernel, rfl⟩, hw.witness, fun w => ?_⟩
  obtain ⟨s, A, os, hf, hz⟩ := boot_is w
  refine ⟨⟨s, A⟩, fun s' hs' => ?_⟩
  obtain rfl : s' = s := AfterImport.unique hs' A
  obtain ⟨s₁, mg, T, x, ht, hg, hz1⟩ := top_ran hz
  refine ⟨S0 w os, hf, rfl, s₁, T, ?_, (fun x hx => nomatch hx), (fun x hx => nomatch hx), ?_⟩
  · intro n hn
    obtain rfl := List.mem_singleton.mp hn
    exact x.law
  refine ClaimW.callFrom_of_specG (c := rowR.claim) (tree := fun vs => do match ← nsGet mainNs "law" with
      | some f => do ret (← PySem.call f vs)
      | none => unsupported "claim.caller:no-such-global") hz1 hg fun args hpre hlay ord hord => ?_
  have hsh := (pre_splitW hpre).1
  obtain ⟨⟨vs, s₂⟩, hlaid⟩ := Option.isSome_iff_exists.mp (layAllW_isSome (P := w.params) (ord := ord) (cl := classAt s₁.heap) (fun c hc => by cases hc) args rowR.args s₁ hsh)
  have keeps := layAllW_keeps _ _ _ hlaid
  have hal := layAllW_rest _ _ _ hlaid
  obtain ⟨as, hrd, hin, hold⟩ := reads_layAllW hord _ _ _ hlaid hlay s₂.heap (fun _ _ e => e)
  have L : Laid rowR.records w s₁ s₂ args vs as := ⟨⟨ord, hord, hlaid⟩, hrd, hin, hold, keeps, hal.1.trans hg, hal.2.2.1⟩
  obtain ⟨d, r, rfl, hx, hr⟩ := hasAllW_cons hsh
  obtain rfl := hasAllW_nil hr
  obtain ⟨xs, rfl, hi⟩ := hasW_list hx
  obtain ⟨ns, rfl⟩ := items_int hi
  obtain ⟨v, vs', a1, a2, rfl, rfl, r1, r2⟩ := readsAllW_cons_inv hrd
  obtain ⟨rfl, rfl⟩ := readsAllW_nil_inv r2
  have hlen : ns.length ≤ 1048576 := by
    have := length_le_of_layableW (Bool.and_eq_true_iff.mp hlay).1
    rwa [List.length_map] at this
  have rep : Rep s₂.heap (.lst (ns.map PV.int)) v := by
    cases r1 with
    | list ho hc hd hit =>
      obtain ⟨l⟩ := ‹Array Value›
      exact rLst ⟨_, ho, hc, _, hd⟩ (ints_read hit)
  have ht2 : 0 < s₂.toks := by
    obtain ⟨a, o, rfl⟩ : ∃ a, ∃ o : Unit, v = .ref a := by
      cases r1 with
      | list ho hc hd hit => exact ⟨_, (), rfl⟩
    have L' : Laid rowR.records w s₁ s₂ [ofPy (PyData.list (ns.map PyData.int))] [.ref a] (a1 ++ []) := by
      have e : ofPy (PyData.list (ns.map PyData.int)) = .list (ns.map WData.int) := by simp [ofPy, ofPys_ints]
      rw [e]; exact L
    exact Nat.lt_of_lt_of_le ht (X.script_toks L' rfl)
  refine ⟨[v], s₂, hlaid, ?_⟩
  obtain ⟨a, hm, _⟩ := x.w0.fn "law" (by decide)
  have hgk : s₂.heap.Ns mainGlobals mg := x.g.keeps keeps
  have W2 : W0 w mg s₂.heap := x.w0.ext keeps
  refine wpAny_bind (wpAny_nsGet hgk ?_)
  rw [hm]
  refine wpAny_bind ?_
  refine law_call callA_ok rfl W2 ht2 hm rep hlen fun h' tk hst => wpAny_pure ?_
  have g : GoodWG rowR.claim (classAt s₁.heap) (ExcName.means s₁.heap) [.list (ns.map WData.int)] s₂ (.ok (.ret (.bool true))) { s₂ with heap := h', toks := tk } :=
    ⟨.inl ⟨.bool true, .bool true, [], rfl, fun cls => rfl, .bool true, post_true ns, fun _ => ⟨List.nodup_nil, fun a ha => nomatch ha⟩⟩, .of_keep hst, rfl, .of_eq L.gens⟩
  have z := g.laid (c := rowR.claim) rfl rfl (fun a b => ident_freeW rfl rfl rfl a b) L
  exact ⟨_, rfl, z.1, z.2.1, z.2.2, fun q => nomatch q⟩
end Mine

end PartH9
section PartH10
open PySem PySem.W PyProof.Rows PySem.Calls
set_option Elab.async false
set_option maxRecDepth 100000
namespace Mine
theorem row_promised : rowR.promised := by w_witness2
end Mine
set_option maxRecDepth 100000 in
set_option maxHeartbeats 8000000 in
theorem PySem.Challenge.cw_pk0102_01_holds : PySem.Challenge.rw_pk0102_01.Holds := by
  w_on
  o_law
  rename_i said
  exact ⟨said, Mine.row_promised, Mine.the_law Mine.row_promised⟩

end PartH10
