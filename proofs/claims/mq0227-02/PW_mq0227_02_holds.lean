import PyProof.Rows.All
import Wide.All
import OpenK.AllK
import Wide.FinOn
import Lean
import PySem.Challenge.RW_mq0227_02
open PySem PySem.W PyProof.Rows
set_option Elab.async false
set_option maxRecDepth 100000
set_option linter.all false
set_option maxHeartbeats 2000000
namespace Mine
/-- pure data -/
inductive D where
  | none
  | bool (b : Bool)
  | int (i : Int)
  | str (x : Str)
  | bytes (ks : List Int)
  | atom (v : Value)
  | list (ds : List D)
  | tuple (ds : List D)
mutual
/-- the value reads as the datum, every list or tuple on the way lies at an address that P admits -/
inductive Rd (P : Addr → Prop) (h : Heap) : Value → D → Prop
  | none : Rd P h Value.none D.none
  | bool (b : Bool) : Rd P h (Value.bool b) (D.bool b)
  | int (i : Int) (t : Tok) : Rd P h (Value.int i t) (D.int i)
  | str (x : Str) (t : Tok) : Rd P h (Value.str x t) (D.str x)
  | bytes (b : Array UInt8) (t : Tok) (ks : List Int) : KBw.bInts b = ks → Rd P h (Value.bytes b t) (D.bytes ks)
  | atom (v : Value) : Rd P h v (D.atom v)
  | list {a : Addr} {vs : List Value} {ds : List D} : P a → h.IsList a vs.toArray → RdL P h vs ds → Rd P h (Value.ref a) (D.list ds)
  | tuple {a : Addr} {vs : List Value} {ds : List D} : P a → IsTup h a vs.toArray → RdL P h vs ds → Rd P h (Value.ref a) (D.tuple ds)
inductive RdL (P : Addr → Prop) (h : Heap) : List Value → List D → Prop
  | nil : RdL P h [] []
  | cons {v : Value} {vs : List Value} {d : D} {ds : List D} : Rd P h v d → RdL P h vs ds → RdL P h (v :: vs) (d :: ds)
end
/-- kept, as far as lists and tuples go -/
def KSeq (P : Addr → Prop) (h h' : Heap) : Prop := ∀ a o xs n, P a → h.get? a = some o → o.data = Data.seq xs n → h'.get? a = some o
theorem KSeq.isList {P : Addr → Prop} {h h' : Heap} (k : KSeq P h h') {a : Addr} {xs : Array Value} (p : P a) (x : h.IsList a xs) : h'.IsList a xs := by
  obtain ⟨o, ho, hc, n, hd⟩ := x
  exact ⟨o, k a o xs n p ho hd, hc, n, hd⟩
theorem KSeq.isTup {P : Addr → Prop} {h h' : Heap} (k : KSeq P h h') {a : Addr} {xs : Array Value} (p : P a) (x : IsTup h a xs) : IsTup h' a xs := by
  obtain ⟨o, ho, hc, n, hd⟩ := x
  exact ⟨o, k a o xs n p ho hd, hc, n, hd⟩
theorem Rd.mono {P P' : Addr → Prop} {h h' : Heap} (hp : ∀ a, P a → P' a) (hk : KSeq P h h') {v : Value} {d : D} (r : Rd P h v d) : Rd P' h' v d := by
  induction r using Rd.rec (motive_2 := fun vs ds _ => RdL P' h' vs ds) with
  | none => exact .none
  | bool b => exact .bool b
  | int i t => exact .int i t
  | str x t => exact .str x t
  | bytes b t ks e => exact .bytes b t ks e
  | atom v => exact .atom v
  | list p l _ ih => exact .list (hp _ p) (hk.isList p l) ih
  | tuple p l _ ih => exact .tuple (hp _ p) (hk.isTup p l) ih
  | nil => exact .nil
  | cons _ _ a b => exact .cons a b
theorem RdL.mono {P P' : Addr → Prop} {h h' : Heap} (hp : ∀ a, P a → P' a) (hk : KSeq P h h') {vs : List Value} {ds : List D} (r : RdL P h vs ds) : RdL P' h' vs ds := by
  induction r using RdL.rec (motive_1 := fun _ _ _ => True) with
  | nil => exact .nil
  | cons a _ _ b => exact .cons (a.mono hp hk) b
  | _ => trivial
theorem kseq_of {P : Addr → Prop} {h h' : Heap} (hk : ∀ b o, h.get? b = some o → h'.get? b = some o) : KSeq P h h' := fun a o _ _ _ e _ => hk a o e
theorem Rd.keeps {P : Addr → Prop} {h h' : Heap} {v : Value} {d : D} (r : Rd P h v d) (hk : ∀ b o, h.get? b = some o → h'.get? b = some o) : Rd P h' v d :=
  r.mono (fun _ p => p) (kseq_of hk)
theorem RdL.keeps {P : Addr → Prop} {h h' : Heap} {v : List Value} {d : List D} (r : RdL P h v d) (hk : ∀ b o, h.get? b = some o → h'.get? b = some o) : RdL P h' v d :=
  r.mono (fun _ p => p) (kseq_of hk)
theorem Rd.weak {P P' : Addr → Prop} {h : Heap} {v : Value} {d : D} (r : Rd P h v d) (hp : ∀ a, P a → P' a) : Rd P' h v d :=
  r.mono hp (kseq_of fun _ _ e => e)
theorem RdL.weak {P P' : Addr → Prop} {h : Heap} {v : List Value} {d : List D} (r : RdL P h v d) (hp : ∀ a, P a → P' a) : RdL P' h v d :=
  r.mono hp (kseq_of fun _ _ e => e)
theorem RdL.length {P : Addr → Prop} {h : Heap} {vs : List Value} {ds : List D} (r : RdL P h vs ds) : vs.length = ds.length := by
  induction vs generalizing ds with
  | nil => cases r; rfl
  | cons v vs ih => cases r with | cons _ r => rw [List.length_cons, List.length_cons, ih r]
theorem RdL.append {P : Addr → Prop} {h : Heap} {vs ws : List Value} {ds es : List D} (r : RdL P h vs ds) (q : RdL P h ws es) : RdL P h (vs ++ ws) (ds ++ es) := by
  induction vs generalizing ds with
  | nil => cases r; exact q
  | cons v vs ih => cases r with | cons a r => exact .cons a (ih r)
theorem RdL.get {P : Addr → Prop} {h : Heap} {vs : List Value} {ds : List D} (r : RdL P h vs ds) {k : Nat} {d : D} (e : ds[k]? = some d) : ∃ v, vs[k]? = some v ∧ Rd P h v d := by
  induction vs generalizing ds k with
  | nil => cases r; simp at e
  | cons v vs ih =>
    cases r with
    | cons a r =>
      cases k with
      | zero => simp only [List.getElem?_cons_zero, Option.some.injEq] at e; subst e; exact ⟨v, rfl, a⟩
      | succ k => exact ih r (by simpa using e)
theorem RdL.getV {P : Addr → Prop} {h : Heap} {vs : List Value} {ds : List D} (r : RdL P h vs ds) {k : Nat} {v : Value} (e : vs[k]? = some v) : ∃ d, ds[k]? = some d ∧ Rd P h v d := by
  induction vs generalizing ds k with
  | nil => simp at e
  | cons u vs ih =>
    cases r with
    | cons a r =>
      cases k with
      | zero => simp only [List.getElem?_cons_zero, Option.some.injEq] at e; subst e; exact ⟨_, rfl, a⟩
      | succ k => exact ih r (by simpa using e)
theorem RdL.take {P : Addr → Prop} {h : Heap} {vs : List Value} {ds : List D} (r : RdL P h vs ds) (k : Nat) : RdL P h (vs.take k) (ds.take k) := by
  induction vs generalizing ds k with
  | nil => cases r; simp; exact .nil
  | cons v vs ih =>
    cases r with
    | cons a r =>
      cases k with
      | zero => exact .nil
      | succ k => exact .cons a (ih r k)
theorem RdL.drop {P : Addr → Prop} {h : Heap} {vs : List Value} {ds : List D} (r : RdL P h vs ds) (k : Nat) : RdL P h (vs.drop k) (ds.drop k) := by
  induction vs generalizing ds k with
  | nil => cases r; simp; exact .nil
  | cons v vs ih =>
    cases r with
    | cons a r =>
      cases k with
      | zero => exact .cons a r
      | succ k => exact ih r k
theorem RdL.one {P : Addr → Prop} {h : Heap} {v : Value} {d : D} (r : Rd P h v d) : RdL P h [v] [d] := .cons r .nil
/-- ints -/
def dInts (ns : List Int) : List D := ns.map .int
theorem RdL.toInts {P : Addr → Prop} {h : Heap} {vs : List Value} {ns : List Int} (r : RdL P h vs (dInts ns)) : IntsAre vs ns := by
  induction ns generalizing vs with
  | nil => cases r; exact .nil
  | cons n ns ih =>
    cases r with
    | cons a r =>
      cases a
      exact .cons _ _ (ih r)
theorem rdl_ints {P : Addr → Prop} {h : Heap} {vs : List Value} {ns : List Int} (r : IntsAre vs ns) : RdL P h vs (dInts ns) := by
  induction r with
  | nil => exact .nil
  | cons n t _ ih => exact .cons (.int n t) ih
end Mine
namespace Mine
/-- what the top has laid -/
structure Tp (K : Frag) (h : Heap) : Prop where
  k : K.In h
  g : ∃ mg, h.Ns mainGlobals mg
  b : ∃ mb, h.Ns builtinsNs mb ∧ ∀ x : Str, x ≠ "__name__" → mb x = bootBuiltins x
  nolimit : h.NoLimit
/-- program, world, the written part, the heap at the law's call -/
structure Cx where
  prog : Program
  w : World
  K : Frag
  B : Heap
  tp : Tp K B
abbrev Cx.M (c : Cx) : Model := model c.prog c.w
/-- room for n more levels -/
structure Rm (n : Nat) (A : Around) : Prop where
  handled : A.handled = none
  depth : A.depth + n < recursionLimit
  units : A.units + 20 * n + 20 < cLine
theorem Rm.le {n m : Nat} {A : Around} (r : Rm n A) (h : m ≤ n) : Rm m A := ⟨r.handled, by have := r.depth; omega, by have := r.units; omega⟩
theorem Rm.deeper {n : Nat} {A : Around} {env : Env} (r : Rm (n + 1) A) : Rm n (A.deeper env) :=
  ⟨r.handled, by have := r.depth; show A.depth + 1 + n < _; omega, by have := r.units; show A.units + 3 + 20 * n + 20 < _; omega⟩
/-- a name of the frame is bound to v -/
def Loads (env : Env) (h : Heap) (x : Str) (v : Value) : Prop :=
  (env.kindOf x = some .local ∧ ∃ m, h.Ns env.locals m ∧ m x = some v) ∨
  ((env.kindOf x = some .cell ∨ (env.kindOf x = some .free ∧ (x == ("__classdict__" : Str)) = false)) ∧ ∃ c, env.cells.lookup x = some c ∧ h.IsCell c (some v))
theorem Loads.keeps {env : Env} {h h' : Heap} {x : Str} {v : Value} (l : Loads env h x v) (hk : ∀ b o, h.get? b = some o → h'.get? b = some o) : Loads env h' x v := by
  rcases l with ⟨k, m, n, e⟩ | ⟨k, c, e, q⟩
  · exact .inl ⟨k, m, n.keeps hk, e⟩
  · exact .inr ⟨k, c, e, q.keeps hk⟩
/-- reads, the top list may be one of the own ones -/
def RdI (own : List Addr) (h : Heap) (v : Value) (d : D) : Prop :=
  Rd (· ∉ own) h v d ∨ ∃ (a : Addr) (vs : List Value) (ds : List D), v = .ref a ∧ d = .list ds ∧ h.IsList a vs.toArray ∧ RdL (· ∉ own) h vs ds
theorem RdI.keeps {own : List Addr} {h h' : Heap} {v : Value} {d : D} (r : RdI own h v d) (hk : ∀ b o, h.get? b = some o → h'.get? b = some o) : RdI own h' v d := by
  rcases r with r | ⟨a, vs, ds, e1, e2, l, r⟩
  · exact .inl (r.keeps hk)
  · exact .inr ⟨a, vs, ds, e1, e2, (kseq_of hk : KSeq (fun _ => True) h h').isList trivial l, r.keeps hk⟩
theorem RdI.toRd {own : List Addr} {h : Heap} {v : Value} {d : D} (r : RdI own h v d) : Rd (fun _ => True) h v d := by
  rcases r with r | ⟨a, vs, ds, e1, e2, l, r⟩
  · exact r.weak fun _ _ => trivial
  · subst e1; subst e2; exact .list trivial l (r.weak fun _ _ => trivial)
theorem RdI.list {own : List Addr} {h : Heap} {v : Value} {ds : List D} (r : RdI own h v (.list ds)) : ∃ a vs, v = .ref a ∧ h.IsList a vs.toArray ∧ RdL (· ∉ own) h vs ds := by
  rcases r with r | ⟨a, vs, ds', e1, e2, l, r⟩
  · cases r with
    | list p l r => exact ⟨_, _, rfl, l, r⟩
  · cases e2; exact ⟨a, vs, e1, l, r⟩
/-- a name's content: frozen data, or a list of the frame's own -/
inductive SV where
  | fz (d : D)
  | wk (d : D)
  | ow (a : Addr) (ds : List D)
def SV.Ok (own : List Addr) (h : Heap) (v : Value) : SV → Prop
  | .fz d => Rd (· ∉ own) h v d
  | .wk d => RdI own h v d
  | .ow a ds => v = .ref a ∧ a ∈ own ∧ ∃ vs : List Value, h.PlainList a vs.toArray ∧ RdL (· ∉ own) h vs ds
/-- the datum that a name shows -/
def SV.dat : SV → D
  | .fz d => d
  | .wk d => d
  | .ow _ ds => .list ds
theorem SV.Ok.keeps {own : List Addr} {h h' : Heap} {v : Value} {x : SV} (o : x.Ok own h v) (hk : ∀ b o, h.get? b = some o → h'.get? b = some o) : x.Ok own h' v := by
  cases x with
  | fz d => exact Rd.keeps o hk
  | wk d => exact RdI.keeps o hk
  | ow a ds =>
    obtain ⟨e, m, vs, l, r⟩ := o
    exact ⟨e, m, vs, l.at fun o q => hk _ _ q, r.keeps hk⟩
abbrev Sg := List (Str × SV)
structure Act (env : Env) (own : List Addr) (σ : Sg) (h : Heap) : Prop where
  fn : env.scope.kind = .function
  gl : env.globals = mainGlobals
  bi : env.builtins = builtinsNs
  ns : ∃ m, h.Ns env.locals m
  cell : ∀ n c, (n, c) ∈ env.cells → ∃ v, h.IsCell c v
  apart : env.cells.Pairwise fun x y => x.2 ≠ y.2
  off : ∀ n c, (n, c) ∈ env.cells → c ≠ env.locals
  ow : ∀ a ∈ own, ∃ o xs n, h.get? a = some o ∧ o.data = Data.seq xs n
  names : ∀ x u, σ.lookup x = some u → ∃ v, Loads env h x v ∧ u.Ok own h v
  inj : ∀ x y a ds es, σ.lookup x = some (.ow a ds) → σ.lookup y = some (.ow a es) → x = y
theorem Act.keeps {env : Env} {own : List Addr} {σ : Sg} {h h' : Heap} (a : Act env own σ h) (hk : ∀ b o, h.get? b = some o → h'.get? b = some o) : Act env own σ h' where
  fn := a.fn
  gl := a.gl
  bi := a.bi
  ns := let ⟨m, n⟩ := a.ns; ⟨m, n.keeps hk⟩
  cell := fun n c e => let ⟨v, q⟩ := a.cell n c e; ⟨v, q.keeps hk⟩
  apart := a.apart
  off := a.off
  ow := fun b hb => let ⟨o, xs, n, e, d⟩ := a.ow b hb; ⟨o, xs, n, hk _ _ e, d⟩
  names := fun x u e => let ⟨v, l, o⟩ := a.names x u e; ⟨v, l.keeps hk, o.keeps hk⟩
  inj := a.inj
theorem Keeps.refl (s : Shared) : Keeps s s := ⟨s.heap, s.toks, rfl, fun _ _ e => e⟩
theorem Keeps.trans {s s' s'' : Shared} (a : Keeps s s') (b : Keeps s' s'') : Keeps s s'' := by
  obtain ⟨h1, t1, rfl, k1⟩ := a
  obtain ⟨h2, t2, rfl, k2⟩ := b
  exact ⟨h2, t2, rfl, fun b o e => k2 b o (k1 b o e)⟩
theorem Keeps.keep {s s' : Shared} (a : Keeps s s') : ∀ b o, s.heap.get? b = some o → s'.heap.get? b = some o := by
  obtain ⟨h1, t1, rfl, k1⟩ := a
  exact k1
theorem Keeps.tok (s : Shared) (t : Nat) : Keeps s { s with toks := t } := ⟨s.heap, t, rfl, fun _ _ e => e⟩
theorem Keeps.push (s : Shared) (o : Obj) : Keeps s { s with heap := s.heap.push o } := ⟨_, s.toks, rfl, fun _ _ e => Heap.get?_push_of_some o e⟩
/-- the expression gives the datum d, strictly apart from the own lists -/
def PE (c : Cx) (n : Nat) (env : Env) (own : List Addr) (σ : Sg) (e : Expr) (d : D) : Prop :=
  ∀ (A : Around) (s : Shared) (Q : Value → Shared → Prop) (E : Value → Shared → Prop), Rm n A → c.B.StaysIn s.heap → Act env own σ s.heap →
    (∀ v s', Keeps s s' → Rd (· ∉ own) s'.heap v d → Q v s') → wpAny c.M A (eval e env) Q E s
def PI (c : Cx) (n : Nat) (env : Env) (own : List Addr) (σ : Sg) (e : Expr) (d : D) : Prop :=
  ∀ (A : Around) (s : Shared) (Q : Value → Shared → Prop) (E : Value → Shared → Prop), Rm n A → c.B.StaysIn s.heap → Act env own σ s.heap →
    (∀ v s', Keeps s s' → RdI own s'.heap v d → Q v s') → wpAny c.M A (eval e env) Q E s
/-- the test's truth -/
def PT (c : Cx) (n : Nat) (env : Env) (own : List Addr) (σ : Sg) (e : Expr) (b : Bool) : Prop :=
  ∀ (A : Around) (s : Shared) (Q : Bool → Shared → Prop) (E : Value → Shared → Prop), Rm n A → c.B.StaysIn s.heap → Act env own σ s.heap →
    (∀ s', Keeps s s' → Q b s') → wpAny c.M A (isTrue e env (eval e env)) Q E s
section
variable {c : Cx} {n : Nat} {env : Env} {own : List Addr} {σ : Sg}
theorem PE.toPI {e : Expr} {d : D} (p : PE c n env own σ e d) : PI c n env own σ e d :=
  fun A s Q E r t a h => p A s Q E r t a fun v s' k q => h v s' k (.inl q)
theorem stays_keeps {B : Heap} {s s' : Shared} (t : B.StaysIn s.heap) (k : Keeps s s') : B.StaysIn s'.heap := fun b o e => Keeps.keep k b o (t b o e)
theorem loads_any {M : Model} {A : Around} {E : Value → Shared → Prop} {s : Shared} {x : Str} {v : Value} {Q : Value → Shared → Prop} (hf : env.scope.kind = .function) (l : Loads env s.heap x v) (h : Q v s) : wpAny M A (loadName env x) Q E s := by
  rcases l with ⟨k, m, n, e⟩ | ⟨k, c, e, q⟩
  · exact wpAny_loadName_local hf k n e h
  · rcases k with k | ⟨k, k'⟩
    · exact wpAny_loadName_cell hf k e q h
    · exact wpAny_loadName_free hf k e q h k'
theorem PE.name {x : Str} {pos : Pos} {d : D} (e : σ.lookup x = some (.fz d)) (hd : (x == ("__debug__" : Str)) = false := by decide) : PE c n env own σ (.Name x pos) d := by
  intro A s Q E r t a h
  obtain ⟨v, l, o⟩ := a.names x _ e
  exact wpAny_Name (loads_any a.fn l (h v s (Keeps.refl s) o)) hd
theorem PI.name {x : Str} {pos : Pos} {u : SV} (e : σ.lookup x = some u) (hd : (x == ("__debug__" : Str)) = false := by decide) : PI c n env own σ (.Name x pos) u.dat := by
  intro A s Q E r t a h
  obtain ⟨v, l, o⟩ := a.names x _ e
  refine wpAny_Name (loads_any a.fn l (h v s (Keeps.refl s) ?_)) hd
  cases u with
  | fz d => exact .inl o
  | wk d => exact o
  | ow b ds =>
    obtain ⟨e1, _, vs, l, r⟩ := o
    exact .inr ⟨b, vs, ds, e1, rfl, l.isList, r⟩
theorem PE.glob {x : Str} {pos : Pos} {v : Value} (hk : env.kindOf x = some .globalImplicit) (e : nsIn c.K mainGlobals x = some (some v)) (hd : (x == ("__debug__" : Str)) = false := by decide) : PE c n env own σ (.Name x pos) (.atom v) := by
  intro A s Q E r t a h
  obtain ⟨mg, g⟩ := c.tp.g
  refine Calls.Name_function_global a.fn hk (Calls.loadGlobal_global (mg := mg) ?_ (mg_of c.tp.k g e) (h v s (Keeps.refl s) (.atom v))) hd
  rw [a.gl]; exact g.keeps t
theorem PE.globBytes {x : Str} {pos : Pos} {b : Array UInt8} {tk : Tok} {ks : List Int} (hk : env.kindOf x = some .globalImplicit) (e : nsIn c.K mainGlobals x = some (some (.bytes b tk))) (hb : KBw.bInts b = ks) (hd : (x == ("__debug__" : Str)) = false := by decide) : PE c n env own σ (.Name x pos) (.bytes ks) := by
  intro A s Q E r t a h
  obtain ⟨mg, g⟩ := c.tp.g
  refine Calls.Name_function_global a.fn hk (Calls.loadGlobal_global (mg := mg) ?_ (mg_of c.tp.k g e) (h _ s (Keeps.refl s) (.bytes b tk ks hb))) hd
  rw [a.gl]; exact g.keeps t
theorem PE.builtin {x : Str} {pos : Pos} {v : Value} (hk : env.kindOf x = some .globalImplicit) (e : nsIn c.K mainGlobals x = some none) (hv : bootBuiltins x = some v) (hn : x ≠ "__name__" := by decide) (hd : (x == ("__debug__" : Str)) = false := by decide) : PE c n env own σ (.Name x pos) (.atom v) := by
  intro A s Q E r t a h
  obtain ⟨mg, g⟩ := c.tp.g
  obtain ⟨mb, b, hb⟩ := c.tp.b
  refine Calls.Name_function_global a.fn hk (Calls.loadGlobal_builtin (mg := mg) (mb := mb) ?_ (mg_none_of c.tp.k g e) ?_ ((hb x hn).trans hv) (h v s (Keeps.refl s) (.atom v))) hd
  · rw [a.gl]; exact g.keeps t
  · rw [a.bi]; exact b.keeps t
theorem PE.cInt {i : Int} {k : Nat} {pos : Pos} : PE c n env own σ (.Constant (.int i) k pos) (.int i) :=
  fun _ s _ _ _ _ _ h => wpAny_Constant_int (h _ _ (Keeps.tok s _) (.int _ _))
theorem PE.cNone {k : Nat} {pos : Pos} : PE c n env own σ (.Constant .none k pos) .none :=
  fun _ s _ _ _ _ _ h => wpAny_Constant_none (h _ _ (Keeps.refl s) .none)
theorem PE.cBool {b : Bool} {k : Nat} {pos : Pos} : PE c n env own σ (.Constant (.bool b) k pos) (.bool b) :=
  fun _ s _ _ _ _ _ h => wpAny_Constant_bool (h _ _ (Keeps.refl s) (.bool b))
theorem PE.cBytes {x : List UInt8} {k : Nat} {pos : Pos} : PE c n env own σ (.Constant (.bytes x) k pos) (.bytes (x.map fun u => (u.toNat : Int))) :=
  fun _ s _ _ _ _ _ h => Constant_bytes (h _ _ (Keeps.tok s _) (.bytes _ _ _ rfl))
theorem PE.cStr {x : Str} {k : Nat} {pos : Pos} : PE c n env own σ (.Constant (.str x) k pos) (.str x) :=
  fun _ s _ _ _ _ _ h => Calls.Constant_str (h _ _ (Keeps.tok s _) (.str _ _))
end
end Mine
namespace Mine
def OwnIn (own : List Addr) (h : Heap) : Prop := ∀ a ∈ own, ∃ o xs n, h.get? a = some o ∧ o.data = Data.seq xs n
theorem OwnIn.keeps {own : List Addr} {h h' : Heap} (a : OwnIn own h) (hk : ∀ b o, h.get? b = some o → h'.get? b = some o) : OwnIn own h' :=
  fun b hb => let ⟨o, xs, n, e, d⟩ := a b hb; ⟨o, xs, n, hk _ _ e, d⟩
theorem OwnIn.fresh {own : List Addr} {h : Heap} (o : OwnIn own h) {a : Addr} (e : h.get? a = none) : a ∉ own := fun m => by
  obtain ⟨_, _, _, q, _⟩ := o a m
  rw [e] at q; cases q
theorem fresh_size (h : Heap) : h.get? h.objs.size = none := by
  cases e : h.get? h.objs.size with
  | none => rfl
  | some o => exact absurd (Heap.lt_size e) (Nat.lt_irrefl _)
/-- an operation of two values, as data -/
def Op2 (c : Cx) (n : Nat) (f : Value → Value → Sem Value) (d₁ d₂ d : D) : Prop :=
  ∀ (own : List Addr) (A : Around) (s : Shared) (v₁ v₂ : Value) (Q : Value → Shared → Prop) (E : Value → Shared → Prop), Rm n A → c.B.StaysIn s.heap → OwnIn own s.heap →
    RdI own s.heap v₁ d₁ → RdI own s.heap v₂ d₂ → (∀ v s', Keeps s s' → Rd (· ∉ own) s'.heap v d → Q v s') → wpAny c.M A (f v₁ v₂) Q E s
def Op1 (c : Cx) (n : Nat) (f : Value → Sem Value) (d₁ d : D) : Prop :=
  ∀ (own : List Addr) (A : Around) (s : Shared) (v₁ : Value) (Q : Value → Shared → Prop) (E : Value → Shared → Prop), Rm n A → c.B.StaysIn s.heap → OwnIn own s.heap →
    RdI own s.heap v₁ d₁ → (∀ v s', Keeps s s' → Rd (· ∉ own) s'.heap v d → Q v s') → wpAny c.M A (f v₁) Q E s
def Tr1 (c : Cx) (n : Nat) (d₁ : D) (b : Bool) : Prop :=
  ∀ (own : List Addr) (A : Around) (s : Shared) (v₁ : Value) (Q : Bool → Shared → Prop) (E : Value → Shared → Prop), Rm n A → c.B.StaysIn s.heap → OwnIn own s.heap →
    RdI own s.heap v₁ d₁ → (∀ s', Keeps s s' → Q b s') → wpAny c.M A (truthy v₁) Q E s
section
variable {c : Cx} {n : Nat} {env : Env} {own : List Addr} {σ : Sg}
theorem PE.bin {l r : Expr} {op : Operator} {pos : Pos} {d₁ d₂ d : D} (p : PI c n env own σ l d₁) (q : PI c n env own σ r d₂) (o : Op2 c n (binaryOp op) d₁ d₂ d) : PE c n env own σ (.BinOp l op r pos) d := by
  intro A s Q E rm t a h
  refine wpAny_BinOp (p A s _ E rm t a fun v₁ s₁ k₁ r₁ => q A s₁ _ E rm (stays_keeps t k₁) (a.keeps (Keeps.keep k₁)) fun v₂ s₂ k₂ r₂ => ?_)
  exact o own A s₂ v₁ v₂ Q E rm (stays_keeps (stays_keeps t k₁) k₂) (OwnIn.keeps a.ow (Keeps.keep (Keeps.trans k₁ k₂))) (r₁.keeps (Keeps.keep k₂)) r₂
    fun v s' k r => h v s' (Keeps.trans (Keeps.trans k₁ k₂) k) r
theorem PE.una {x : Expr} {op : UnaryOp} {pos : Pos} {d₁ d : D} (p : PI c n env own σ x d₁) (o : Op1 c n (unaryOp op) d₁ d) : PE c n env own σ (.UnaryOp op x pos) d := by
  intro A s Q E rm t a h
  refine wpAny_UnaryOp (p A s _ E rm t a fun v₁ s₁ k₁ r₁ => ?_)
  exact o own A s₁ v₁ Q E rm (stays_keeps t k₁) (OwnIn.keeps a.ow (Keeps.keep k₁)) r₁ fun v s' k r => h v s' (Keeps.trans k₁ k) r
theorem PT.cmp {l r : Expr} {op : CmpOp} {pos : Pos} {d₁ d₂ : D} {b : Bool} (p : PI c n env own σ l d₁) (q : PI c n env own σ r d₂) (o : Op2 c n (compareOp op) d₁ d₂ (.bool b))
    (hm : behindInMarks op r = false := by with_unfolding_all rfl) : PT c n env own σ (.Compare l [op] [r] pos) b := by
  intro A s Q E rm t a h
  refine wpAny_isTrue_Compare1 (p A s _ E rm t a fun v₁ s₁ k₁ r₁ => q A s₁ _ E rm (stays_keeps t k₁) (a.keeps (Keeps.keep k₁)) fun v₂ s₂ k₂ r₂ => ?_) hm
  refine o own A s₂ v₁ v₂ _ E rm (stays_keeps (stays_keeps t k₁) k₂) (OwnIn.keeps a.ow (Keeps.keep (Keeps.trans k₁ k₂))) (r₁.keeps (Keeps.keep k₂)) r₂
    fun v s' k r => ?_
  cases r with
  | bool b => exact wpAny_truthy_bool (h s' (Keeps.trans (Keeps.trans k₁ k₂) k))
theorem PT.not {x : Expr} {pos : Pos} {b : Bool} (p : PT c n env own σ x b) : PT c n env own σ (.UnaryOp .Not x pos) (!b) :=
  fun A s _ E rm t a h => wpAny_isTrue_Not (p A s _ E rm t a h)
/-- a test by its value's truth -/
theorem PT.value {e : Expr} {d : D} {b : Bool} (p : PI c n env own σ e d) (o : Tr1 c n d b)
    (he : isTrue e env (eval e env) = (do let v ← eval e env; standAt e.pos; holding [v] (truthy v)) := by rfl) : PT c n env own σ e b := by
  intro A s Q E rm t a h
  refine wpAny_isTrue_value (p A s _ E rm t a fun v₁ s₁ k₁ r₁ => ?_) he
  exact o own A s₁ v₁ _ E rm (stays_keeps t k₁) (OwnIn.keeps a.ow (Keeps.keep k₁)) r₁ fun s' k => h s' (Keeps.trans k₁ k)
/-- and, or -/
def PAll (c : Cx) (n : Nat) (env : Env) (own : List Addr) (σ : Sg) (op : BoolOp) (es : List Expr) (b : Bool) : Prop :=
  ∀ (A : Around) (s : Shared) (Q : Bool → Shared → Prop) (E : Value → Shared → Prop), Rm n A → c.B.StaysIn s.heap → Act env own σ s.heap →
    (∀ s', Keeps s s' → Q b s') → wpAny c.M A (allTrue op es env) Q E s
theorem PAll.andNil : PAll c n env own σ .And [] true := fun _ s _ _ _ _ _ h => wpAny_allTrue_And_nil (h s (Keeps.refl s))
theorem PAll.orNil : PAll c n env own σ .Or [] false := fun _ s _ _ _ _ _ h => wpAny_allTrue_Or_nil (h s (Keeps.refl s))
theorem PAll.and {e : Expr} {es : List Expr} {b₁ b₂ : Bool} (p : PT c n env own σ e b₁) (q : b₁ = true → PAll c n env own σ .And es b₂) : PAll c n env own σ .And (e :: es) (b₁ && b₂) := by
  intro A s Q E rm t a h
  refine wpAny_allTrue_And_cons (p A s _ E rm t a fun s₁ k₁ => ?_)
  cases b₁ with
  | false => exact h s₁ k₁
  | true => exact q rfl A s₁ Q E rm (stays_keeps t k₁) (a.keeps (Keeps.keep k₁)) fun s' k => h s' (Keeps.trans k₁ k)
theorem PAll.or {e : Expr} {es : List Expr} {b₁ b₂ : Bool} (p : PT c n env own σ e b₁) (q : b₁ = false → PAll c n env own σ .Or es b₂) : PAll c n env own σ .Or (e :: es) (b₁ || b₂) := by
  intro A s Q E rm t a h
  refine wpAny_allTrue_Or_cons (p A s _ E rm t a fun s₁ k₁ => ?_)
  cases b₁ with
  | true => exact h s₁ k₁
  | false => exact q rfl A s₁ Q E rm (stays_keeps t k₁) (a.keeps (Keeps.keep k₁)) fun s' k => h s' (Keeps.trans k₁ k)
theorem PT.boolop {op : BoolOp} {es : List Expr} {pos : Pos} {b : Bool} (p : PAll c n env own σ op es b) : PT c n env own σ (.BoolOp op es pos) b :=
  fun A s _ E rm t a h => wpAny_isTrue_BoolOp (p A s _ E rm t a h)
theorem PE.ifexp {test body orelse : Expr} {pos : Pos} {b : Bool} {d₁ d₂ : D} (p : PT c n env own σ test b) (q₁ : b = true → PE c n env own σ body d₁) (q₂ : b = false → PE c n env own σ orelse d₂) :
    PE c n env own σ (.IfExp test body orelse pos) (if b then d₁ else d₂) := by
  intro A s Q E rm t a h
  refine wpAny_IfExp (p A s _ E rm t a fun s₁ k₁ => ?_)
  cases b with
  | true => exact q₁ rfl A s₁ Q E rm (stays_keeps t k₁) (a.keeps (Keeps.keep k₁)) fun v s' k r => h v s' (Keeps.trans k₁ k) r
  | false => exact q₂ rfl A s₁ Q E rm (stays_keeps t k₁) (a.keeps (Keeps.keep k₁)) fun v s' k r => h v s' (Keeps.trans k₁ k) r
theorem PE.conv {e : Expr} {d d' : D} (p : PE c n env own σ e d) (h : d = d') : PE c n env own σ e d' := h ▸ p
theorem PI.conv {e : Expr} {d d' : D} (p : PI c n env own σ e d) (h : d = d') : PI c n env own σ e d' := h ▸ p
theorem PT.conv {e : Expr} {d d' : Bool} (p : PT c n env own σ e d) (h : d = d') : PT c n env own σ e d' := h ▸ p
/-- lists of expressions -/
inductive RdIL (own : List Addr) (h : Heap) : List Value → List D → Prop
  | nil : RdIL own h [] []
  | cons {v : Value} {vs : List Value} {d : D} {ds : List D} : RdI own h v d → RdIL own h vs ds → RdIL own h (v :: vs) (d :: ds)
theorem RdIL.keeps {own : List Addr} {h h' : Heap} {vs : List Value} {ds : List D} (r : RdIL own h vs ds) (hk : ∀ b o, h.get? b = some o → h'.get? b = some o) : RdIL own h' vs ds := by
  induction r with
  | nil => exact .nil
  | cons a _ ih => exact .cons (a.keeps hk) ih
def notStar : Expr → Bool
  | .Starred .. => false
  | _ => true
theorem starEach_cons {e : Expr} {es : List Expr} {env : Env} (h : notStar e = true) : starEach (e :: es) env = (false, eval e env) :: starEach es env := by
  cases e <;> first | rfl | (simp [notStar] at h)
theorem backTo_cons {pos : Pos} {t : Sem Value} {ts : List (Bool × Sem Value)} : backTo pos ((false, t) :: ts) = (false, t) :: backTo pos ts := rfl
def PAI (c : Cx) (n : Nat) (env : Env) (own : List Addr) (σ : Sg) (es : List Expr) (ds : List D) : Prop :=
  ∀ (A : Around) (s : Shared) (pos : Pos) (Q : List Value → Shared → Prop) (E : Value → Shared → Prop), Rm n A → c.B.StaysIn s.heap → Act env own σ s.heap →
    (∀ vs s', Keeps s s' → RdIL own s'.heap vs ds → Q vs s') → wpAny c.M A (spliced (backTo pos (starEach es env))) Q E s
theorem PAI.nil : PAI c n env own σ [] [] := fun _ s _ _ _ _ _ _ h => Calls.spliced_nil (h [] s (Keeps.refl s) .nil)
theorem PAI.cons {e : Expr} {es : List Expr} {d : D} {ds : List D} (p : PI c n env own σ e d) (q : PAI c n env own σ es ds) (hs : notStar e = true := by rfl) : PAI c n env own σ (e :: es) (d :: ds) := by
  intro A s pos Q E rm t a h
  rw [starEach_cons hs, backTo_cons]
  refine Calls.spliced_cons (p A s _ E rm t a fun v s₁ k₁ r₁ => q A s₁ pos _ E rm (stays_keeps t k₁) (a.keeps (Keeps.keep k₁)) fun vs s₂ k₂ r₂ => ?_)
  exact h _ s₂ (Keeps.trans k₁ k₂) (.cons (r₁.keeps (Keeps.keep k₂)) r₂)
/-- strictly apart from the own lists -/
def PAE (c : Cx) (n : Nat) (env : Env) (own : List Addr) (σ : Sg) (es : List Expr) (ds : List D) : Prop :=
  ∀ (A : Around) (s : Shared) (pos : Pos) (Q : List Value → Shared → Prop) (E : Value → Shared → Prop), Rm n A → c.B.StaysIn s.heap → Act env own σ s.heap →
    (∀ vs s', Keeps s s' → RdL (· ∉ own) s'.heap vs ds → Q vs s') → wpAny c.M A (spliced (backTo pos (starEach es env))) Q E s
theorem PAE.nil : PAE c n env own σ [] [] := fun _ s _ _ _ _ _ _ h => Calls.spliced_nil (h [] s (Keeps.refl s) .nil)
theorem PAE.cons {e : Expr} {es : List Expr} {d : D} {ds : List D} (p : PE c n env own σ e d) (q : PAE c n env own σ es ds) (hs : notStar e = true := by rfl) : PAE c n env own σ (e :: es) (d :: ds) := by
  intro A s pos Q E rm t a h
  rw [starEach_cons hs, backTo_cons]
  refine Calls.spliced_cons (p A s _ E rm t a fun v s₁ k₁ r₁ => q A s₁ pos _ E rm (stays_keeps t k₁) (a.keeps (Keeps.keep k₁)) fun vs s₂ k₂ r₂ => ?_)
  exact h _ s₂ (Keeps.trans k₁ k₂) (.cons (r₁.keeps (Keeps.keep k₂)) r₂)
theorem isList_push (h : Heap) (vs : List Value) : (h.push { cls := .type "list", data := .seq vs.toArray }).IsList h.objs.size vs.toArray := ⟨_, Heap.get?_push_size _ rfl, rfl, _, rfl⟩
theorem PE.list {es : List Expr} {pos : Pos} {ds : List D} (p : PAE c n env own σ es ds) (hz : ds.length ≤ sizeLine := by decide) : PE c n env own σ (.List es pos) (.list ds) := by
  intro A s Q E rm t a h
  refine wpAny_List (p A s pos _ E rm t a fun vs s₁ k₁ r₁ => ⟨r₁.length ▸ hz, ?_⟩)
  have k := Keeps.push s₁ { cls := .type "list", data := .seq vs.toArray }
  exact h _ _ (Keeps.trans k₁ k) (.list (OwnIn.fresh (OwnIn.keeps a.ow (Keeps.keep k₁)) (fresh_size _)) (isList_push _ _) (r₁.keeps (Keeps.keep k)))
/-- an item -/
def isSlice : Expr → Bool
  | .Slice .. => true
  | _ => false
/-- what o[i] asks: its type's own getitem -/
def ItemAt (c : Cx) (A : Around) (s : Shared) (o i : Value) (Q : Value → Shared → Prop) (E : Value → Shared → Prop) : Prop :=
  ∃ T id, s.TypeIs o T ∧ typeLookup (.type T) "__getitem__" = pure (some (.builtin id)) ∧ wpAny c.M A (getItem o i) Q E s
def OpIt (c : Cx) (n : Nat) (d₁ d₂ d : D) : Prop :=
  ∀ (own : List Addr) (A : Around) (s : Shared) (v₁ v₂ : Value) (Q : Value → Shared → Prop) (E : Value → Shared → Prop), Rm n A → c.B.StaysIn s.heap → OwnIn own s.heap →
    RdI own s.heap v₁ d₁ → RdI own s.heap v₂ d₂ → (∀ v s', Keeps s s' → Rd (· ∉ own) s'.heap v d → Q v s') → ItemAt c A s v₁ v₂ Q E
theorem PE.sub {value slice : Expr} {pos : Pos} {d₁ d₂ d : D} (p : PI c n env own σ value d₁) (q : PI c n env own σ slice d₂) (o : OpIt c n d₁ d₂ d)
    (hs : ∀ o i, subscripted slice false o i = operate [o, i] (getItem o i) := by intro _ _; with_unfolding_all rfl) : PE c n env own σ (.Subscript value slice pos) d := by
  intro A s Q E rm t a h
  refine Subscript_ (p A s _ E rm t a fun v₁ s₁ k₁ r₁ => q A s₁ _ E rm (stays_keeps t k₁) (a.keeps (Keeps.keep k₁)) fun v₂ s₂ k₂ r₂ => ?_)
  obtain ⟨T, id, hT, hl, hg⟩ := o own A s₂ v₁ v₂ Q E rm (stays_keeps (stays_keeps t k₁) k₂) (OwnIn.keeps a.ow (Keeps.keep (Keeps.trans k₁ k₂))) (r₁.keeps (Keeps.keep k₂)) r₂
    fun v s' k r => h v s' (Keeps.trans (Keeps.trans k₁ k₂) k) r
  exact tail_any hT hl hg (hs _ _)
/-- a slice: its two ends -/
def PP (c : Cx) (n : Nat) (env : Env) (own : List Addr) (σ : Sg) (e : Option Expr) (k : Option Int) : Prop :=
  match e, k with
  | none, none => True
  | some e, some i => PI c n env own σ e (.int i)
  | _, _ => False
theorem PP.any {e : Option Expr} {k : Option Int} (p : PP c n env own σ e k) (A : Around) (s : Shared) (Q : Value → Shared → Prop) (E : Value → Shared → Prop) (rm : Rm n A) (t : c.B.StaysIn s.heap) (a : Act env own σ s.heap)
    (h : ∀ v s', Keeps s s' → IsPart v k → Q v s') : wpAny c.M A (evalPart e env) Q E s := by
  cases e with
  | none =>
    cases k with
    | none => exact wpAny_evalPart_none (h _ s (Keeps.refl s) .none)
    | some i => exact p.elim
  | some e =>
    cases k with
    | none => exact p.elim
    | some i =>
      refine wpAny_evalPart_some (PI.conv (show PI c n env own σ e (.int i) from p) rfl A s _ E rm t a fun v s' k r => h v s' k ?_)
      have r' := r.toRd
      cases r' with
      | int i t => exact .int i t
/-- the datum's cut -/
def cutD (ds : List D) (lo hi : Option Int) : List D := (ds.drop (lo.elim 0 (clipAt ds.length))).take (hi.elim ds.length (clipAt ds.length) - lo.elim 0 (clipAt ds.length))
theorem PE.sliceL {value : Expr} {lower upper : Option Expr} {p' pos : Pos} {ds : List D} {lo hi : Option Int} (p : PI c n env own σ value (.list ds)) (q₁ : PP c n env own σ lower lo) (q₂ : PP c n env own σ upper hi) (hz : ds.length ≤ sizeLine) :
    PE c n env own σ (.Subscript value (.Slice lower upper none p') pos) (.list (cutD ds lo hi)) := by
  intro A s Q E rm t a h
  refine Subscript_ (p A s _ E rm t a fun v₁ s₁ k₁ r₁ => wpAny_Slice (q₁.any A s₁ _ E rm (stays_keeps t k₁) (a.keeps (Keeps.keep k₁)) fun v₂ s₂ k₂ r₂ => q₂.any A s₂ _ E rm (stays_keeps (stays_keeps t k₁) k₂) ((a.keeps (Keeps.keep k₁)).keeps (Keeps.keep k₂)) fun v₃ s₃ k₃ r₃ => ?_))
  refine wpAny_evalPart_none ?_
  obtain ⟨l, vs, rfl, hl, rl⟩ := (r₁.keeps (Keeps.keep (Keeps.trans k₂ k₃))).list
  have k4 := Keeps.push s₃ { cls := .type "slice", data := .fields #[v₂, v₃, .none] }
  refine tail_any (T := "list") (ops := [_, _]) (hl.push _).typeIs slot_list_getitem.lookup (wpAny_getItem_list_slice (hl.push _) (Heap.IsSliceOf.new ..) r₂ r₃ .none (by simp) ?_ (by rw [List.size_toArray, rl.length]; exact hz)) (by with_unfolding_all rfl)
  have e : vs.toArray.size = ds.length := by rw [List.size_toArray, rl.length]
  have k0 := Keeps.trans (Keeps.trans (Keeps.trans k₁ k₂) k₃) k4
  have rz : RdL (· ∉ own) s₃.heap ((vs.drop (lo.elim 0 (clipAt ds.length))).take (hi.elim ds.length (clipAt ds.length) - lo.elim 0 (clipAt ds.length))) (cutD ds lo hi) := (rl.drop _).take _
  rw [slicePick_plain, e]
  show Q (.ref _) { s₃ with heap := Heap.push _ { cls := .type "list", data := .seq ((vs.drop (lo.elim 0 (clipAt ds.length))).take (hi.elim ds.length (clipAt ds.length) - lo.elim 0 (clipAt ds.length))).toArray } }
  generalize ((vs.drop (lo.elim 0 (clipAt ds.length))).take (hi.elim ds.length (clipAt ds.length) - lo.elim 0 (clipAt ds.length))) = zs at rz
  have k5 := Keeps.push { s₃ with heap := s₃.heap.push { cls := .type "slice", data := .fields #[v₂, v₃, .none] } } { cls := .type "list", data := .seq zs.toArray }
  exact h _ _ (Keeps.trans k0 k5) (.list (OwnIn.fresh (OwnIn.keeps a.ow (Keeps.keep k0)) (fresh_size _)) (isList_push _ _) (rz.keeps (Keeps.keep (Keeps.trans k4 k5))))
end
end Mine
namespace Mine
section inv
variable {own : List Addr} {h : Heap} {v : Value}
theorem RdI.int {i : Int} (r : RdI own h v (.int i)) : ∃ t, v = .int i t := by
  have q := r.toRd
  cases q with
  | int i t => exact ⟨t, rfl⟩
theorem RdI.bool {b : Bool} (r : RdI own h v (.bool b)) : v = .bool b := by
  have q := r.toRd
  cases q with
  | bool b => rfl
theorem RdI.none' (r : RdI own h v .none) : v = .none := by
  have q := r.toRd
  cases q with
  | none => rfl
theorem RdI.str {x : Str} (r : RdI own h v (.str x)) : ∃ t, v = .str x t := by
  have q := r.toRd
  cases q with
  | str x t => exact ⟨t, rfl⟩
theorem RdI.atom {x : Value} (r : RdI own h v (.atom x)) : v = x := by
  have q := r.toRd
  cases q with
  | atom x => rfl
theorem RdI.bytes {ks : List Int} (r : RdI own h v (.bytes ks)) : ∃ b t, v = .bytes b t ∧ KBw.bInts b = ks := by
  have q := r.toRd
  cases q with
  | bytes b t ks e => exact ⟨b, t, rfl, e⟩
end inv
section
variable {c : Cx} {n : Nat}
theorem op_add_int {a b : Int} : Op2 c n (binaryOp .Add) (.int a) (.int b) (.int (a + b)) := by
  intro own A s v₁ v₂ Q E rm t o r₁ r₂ h
  obtain ⟨t₁, rfl⟩ := r₁.int
  obtain ⟨t₂, rfl⟩ := r₂.int
  exact add_int (h _ _ (Keeps.tok s _) (.int _ _))
theorem op_sub_int {a b : Int} : Op2 c n (binaryOp .Sub) (.int a) (.int b) (.int (a - b)) := by
  intro own A s v₁ v₂ Q E rm t o r₁ r₂ h
  obtain ⟨t₁, rfl⟩ := r₁.int
  obtain ⟨t₂, rfl⟩ := r₂.int
  exact sub_int (h _ _ (Keeps.tok s _) (.int _ _))
theorem op_mul_int {a b : Int} (hm : IntMulOk a b) : Op2 c n (binaryOp .Mult) (.int a) (.int b) (.int (a * b)) := by
  intro own A s v₁ v₂ Q E rm t o r₁ r₂ h
  obtain ⟨t₁, rfl⟩ := r₁.int
  obtain ⟨t₂, rfl⟩ := r₂.int
  exact PyProof.Rows.mul_int (h _ _ (Keeps.tok s _) (.int _ _)) hm
theorem op_mod_int {a b : Int} (hb : b ≠ 0) : Op2 c n (binaryOp .Mod) (.int a) (.int b) (.int (a.fmod b)) := by
  intro own A s v₁ v₂ Q E rm t o r₁ r₂ h
  obtain ⟨t₁, rfl⟩ := r₁.int
  obtain ⟨t₂, rfl⟩ := r₂.int
  exact mod_int' hb (h _ _ (Keeps.tok s _) (.int _ _))
theorem op_div_int {a b : Int} (hb : b ≠ 0) (hp : b.natAbs < 1073741824) : Op2 c n (binaryOp .FloorDiv) (.int a) (.int b) (.int (a.fdiv b)) := by
  intro own A s v₁ v₂ Q E rm t o r₁ r₂ h
  obtain ⟨t₁, rfl⟩ := r₁.int
  obtain ⟨t₂, rfl⟩ := r₂.int
  exact floordiv_int hb (h _ _ (Keeps.tok s _) (.int _ _)) (.inl (PyProof.noPylong_small hp))
theorem op_pow_int {a b : Int} (hb : 0 ≤ b) (hz : (Builtin.Int.intBits a : Int) * b ≤ 2 ^ 27) : Op2 c n (binaryOp .Pow) (.int a) (.int b) (.int (a ^ b.toNat)) := by
  intro own A s v₁ v₂ Q E rm t o r₁ r₂ h
  obtain ⟨t₁, rfl⟩ := r₁.int
  obtain ⟨t₂, rfl⟩ := r₂.int
  exact pow_int hb hz (h _ _ (Keeps.tok s _) (.int _ _))
theorem op_shl_int {a b : Int} (hb : 0 ≤ b) (hb2 : b ≤ 1000000) (ha : a.natAbs < 2 ^ 64) : Op2 c n (binaryOp .LShift) (.int a) (.int b) (.int (a * 2 ^ b.toNat)) := by
  intro own A s v₁ v₂ Q E rm t o r₁ r₂ h
  obtain ⟨t₁, rfl⟩ := r₁.int
  obtain ⟨t₂, rfl⟩ := r₂.int
  exact lshift_int_small hb hb2 ha (h _ _ (Keeps.tok s _) (.int _ _))
theorem op_shr_int {a b : Int} (hb : 0 ≤ b) : Op2 c n (binaryOp .RShift) (.int a) (.int b) (.int (a.fdiv (2 ^ b.toNat))) := by
  intro own A s v₁ v₂ Q E rm t o r₁ r₂ h
  obtain ⟨t₁, rfl⟩ := r₁.int
  obtain ⟨t₂, rfl⟩ := r₂.int
  exact rshift_int hb (h _ _ (Keeps.tok s _) (.int _ _))
theorem op_and_int {a b : Int} : Op2 c n (binaryOp .BitAnd) (.int a) (.int b) (.int (Builtin.bitAnd a b)) := by
  intro own A s v₁ v₂ Q E rm t o r₁ r₂ h
  obtain ⟨t₁, rfl⟩ := r₁.int
  obtain ⟨t₂, rfl⟩ := r₂.int
  exact and_int (h _ _ (Keeps.tok s _) (.int _ _))
theorem op_or_int {a b : Int} : Op2 c n (binaryOp .BitOr) (.int a) (.int b) (.int (Builtin.bitOr a b)) := by
  intro own A s v₁ v₂ Q E rm t o r₁ r₂ h
  obtain ⟨t₁, rfl⟩ := r₁.int
  obtain ⟨t₂, rfl⟩ := r₂.int
  exact or_int (h _ _ (Keeps.tok s _) (.int _ _))
theorem op_xor_int {a b : Int} : Op2 c n (binaryOp .BitXor) (.int a) (.int b) (.int (Builtin.bitXor a b)) := by
  intro own A s v₁ v₂ Q E rm t o r₁ r₂ h
  obtain ⟨t₁, rfl⟩ := r₁.int
  obtain ⟨t₂, rfl⟩ := r₂.int
  exact xor_int (h _ _ (Keeps.tok s _) (.int _ _))
theorem op_neg_int {a : Int} : Op1 c n (unaryOp .USub) (.int a) (.int (-a)) := by
  intro own A s v₁ Q E rm t o r₁ h
  obtain ⟨t₁, rfl⟩ := r₁.int
  exact neg_int (h _ _ (Keeps.tok s _) (.int _ _))
theorem op_lt_int {a b : Int} : Op2 c n (compareOp .Lt) (.int a) (.int b) (.bool (decide (a < b))) := by
  intro own A s v₁ v₂ Q E rm t o r₁ r₂ h
  obtain ⟨t₁, rfl⟩ := r₁.int
  obtain ⟨t₂, rfl⟩ := r₂.int
  exact lt_int (h _ _ (Keeps.refl s) (.bool _))
theorem op_gt_int {a b : Int} : Op2 c n (compareOp .Gt) (.int a) (.int b) (.bool (decide (b < a))) := by
  intro own A s v₁ v₂ Q E rm t o r₁ r₂ h
  obtain ⟨t₁, rfl⟩ := r₁.int
  obtain ⟨t₂, rfl⟩ := r₂.int
  exact gt_int (h _ _ (Keeps.refl s) (.bool _))
theorem op_ge_int {a b : Int} : Op2 c n (compareOp .GtE) (.int a) (.int b) (.bool (decide (b ≤ a))) := by
  intro own A s v₁ v₂ Q E rm t o r₁ r₂ h
  obtain ⟨t₁, rfl⟩ := r₁.int
  obtain ⟨t₂, rfl⟩ := r₂.int
  exact ge_int (h _ _ (Keeps.refl s) (.bool _))
theorem op_eq_int {a b : Int} : Op2 c n (compareOp .Eq) (.int a) (.int b) (.bool (a == b)) := by
  intro own A s v₁ v₂ Q E rm t o r₁ r₂ h
  obtain ⟨t₁, rfl⟩ := r₁.int
  obtain ⟨t₂, rfl⟩ := r₂.int
  exact eq_int (h _ _ (Keeps.refl s) (.bool _))
theorem op_ne_int {a b : Int} : Op2 c n (compareOp .NotEq) (.int a) (.int b) (.bool (a != b)) := by
  intro own A s v₁ v₂ Q E rm t o r₁ r₂ h
  obtain ⟨t₁, rfl⟩ := r₁.int
  obtain ⟨t₂, rfl⟩ := r₂.int
  exact ne_int (h _ _ (Keeps.refl s) (.bool _))
/-- is None, is not None -/
def isNoneD : D → Bool
  | .none => true
  | .atom v => v == .none
  | _ => false
theorem rd_isNone {own : List Addr} {h : Heap} {v : Value} {d : D} (r : RdI own h v d) : (v == Value.none) = isNoneD d := by
  have q := r.toRd
  cases q <;> first | rfl | decide
theorem op_is_none {d : D} : Op2 c n (compareOp .Is) d .none (.bool (isNoneD d)) := by
  intro own A s v₁ v₂ Q E rm t o r₁ r₂ h
  have e := r₂.none'
  subst e
  exact is_none (h _ _ (Keeps.refl s) (by rw [rd_isNone r₁]; exact .bool _))
theorem op_isnot_none {d : D} : Op2 c n (compareOp .IsNot) d .none (.bool (!isNoneD d)) := by
  intro own A s v₁ v₂ Q E rm t o r₁ r₂ h
  have e := r₂.none'
  subst e
  exact isNot_none (h _ _ (Keeps.refl s) (by rw [rd_isNone r₁]; exact .bool _))
theorem op_is_plain {a b : Value} (hp : plainIs a b = true) : Op2 c n (compareOp .Is) (.atom a) (.atom b) (.bool (a == b)) := by
  intro own A s v₁ v₂ Q E rm t o r₁ r₂ h
  have e := r₁.atom
  have e' := r₂.atom
  subst e e'
  exact wpAny_is_plain hp (h _ _ (Keeps.refl s) (.bool _))
theorem op_is_self {x : Addr} : Op2 c n (compareOp .Is) (.atom (.ref x)) (.atom (.ref x)) (.bool true) := by
  intro own A s v₁ v₂ Q E rm t o r₁ r₂ h
  have e := r₁.atom
  have e' := r₂.atom
  subst e e'
  exact wpAny_is_ref_self (h _ _ (Keeps.refl s) (.bool _))
/-- truth -/
theorem tr_bool {b : Bool} : Tr1 c n (.bool b) b := by
  intro own A s v Q E rm t o r h
  have e := r.bool
  subst e
  exact wpAny_truthy_bool (h s (Keeps.refl s))
end
end Mine
namespace Mine
open PySem.SeqAt (EqAt RcAt RcNeAt)
section
variable {c : Cx} {n : Nat}
/-- items -/
theorem it_list {ds : List D} {k : Int} {d : D} (h0 : 0 ≤ k) (hf : k < 2 ^ 63) (e : ds[k.toNat]? = some d) : OpIt c n (.list ds) (.int k) d := by
  intro own A s v₁ v₂ Q E rm t o r₁ r₂ h
  obtain ⟨a, vs, rfl, l, r⟩ := r₁.list
  obtain ⟨t₂, rfl⟩ := r₂.int
  obtain ⟨v, ev, rv⟩ := r.get e
  exact ⟨"list", _, l.typeIs, slot_list_getitem.lookup, wpAny_getItem_list l h0 hf (by simpa using ev) (h v s (Keeps.refl s) rv)⟩
theorem it_list_last {ds : List D} {d : D} (hz : ds.length < 2 ^ 62) (e : ds.getLast? = some d) : OpIt c n (.list ds) (.int (-1)) d := by
  intro own A s v₁ v₂ Q E rm t o r₁ r₂ h
  obtain ⟨a, vs, rfl, l, r⟩ := r₁.list
  obtain ⟨t₂, rfl⟩ := r₂.int
  rw [List.getLast?_eq_getElem?] at e
  obtain ⟨v, ev, rv⟩ := r.get e
  have hl := r.length
  have hp : 0 < ds.length := by
    cases ds with
    | nil => simp at e
    | cons => simp
  refine ⟨"list", _, l.typeIs, slot_list_getitem.lookup, wpAny_getItem_list_neg l (by omega) (by rw [List.size_toArray]; omega) (by omega) ?_ (h v s (Keeps.refl s) rv)⟩
  rw [List.size_toArray]
  have e2 : (-1 + (vs.length : Int)).toNat = ds.length - 1 := by omega
  rw [e2]
  simpa using ev
theorem it_bytes {ks : List Int} {k : Int} (hz : ks.length ≤ 1099511627776) (h0 : 0 ≤ k) (h1 : k < ks.length) : OpIt c n (.bytes ks) (.int k) (.int (ks.getD k.toNat 0)) := by
  intro own A s v₁ v₂ Q E rm t o r₁ r₂ h
  obtain ⟨b, t₁, rfl, e⟩ := r₁.bytes
  obtain ⟨t₂, rfl⟩ := r₂.int
  have e1 : b.toList.toArray = b := Array.toArray_toList
  have g : wpAny c.M A (getItem (.bytes b.toList.toArray t₁) (.int k t₂)) Q E s := by
    refine getItem_bytes (l := b.toList) ?_ h0 ?_ ?_
    · have := KBw.ints_length b; rw [e] at this; simpa [this] using hz
    · have := KBw.ints_length b; rw [e] at this; rw [Array.length_toList]; omega
    · rw [KBw.getD_ints]
      have : b.toList.map (fun c => (c.toNat : Int)) = ks := e
      rw [this]
      exact h _ _ (Keeps.tok s _) (.int _ _)
  rw [e1] at g
  exact ⟨"bytes", _, typeIs_bytes _ _ _, FB.slot_bytes_getitem.lookup, g⟩
end
section
variable {c : Cx} {n : Nat} {env : Env} {own : List Addr} {σ : Sg}
def cutB (ks : List Int) (lo hi : Option Int) : List Int := (ks.drop (lo.elim 0 (clipAt ks.length))).take (hi.elim ks.length (clipAt ks.length) - lo.elim 0 (clipAt ks.length))
end
section
variable {c : Cx} {n : Nat}
/-- list + list -/
theorem op_add_list {ds es : List D} (hz : ds.length + es.length ≤ sizeLine) : Op2 c n (binaryOp .Add) (.list ds) (.list es) (.list (ds ++ es)) := by
  intro own A s v₁ v₂ Q E rm t o r₁ r₂ h
  obtain ⟨a, vs, rfl, l, r⟩ := r₁.list
  obtain ⟨b, ws, rfl, l', r'⟩ := r₂.list
  obtain ⟨⟨cls, dd, data, sl⟩, ho, hc, n, hd⟩ := id l
  obtain ⟨⟨cls2, dd2, data2, sl2⟩, ho2, hc2, n2, hd2⟩ := id l'
  simp only at hc hd hc2 hd2
  subst hc hd hc2 hd2
  have e : vs.toArray ++ ws.toArray = (vs ++ ws).toArray := by simp
  refine concat_meets ⟨_, ho, rfl⟩ ⟨_, ho2, rfl⟩ noFill_list_add seq_list_add PySem.F.slot_list_add PySem.F.entry_list_add (PySem.F.args_list_add_2 _ _) (list_addW a b vs.toArray ws.toArray n n2 dd dd2 sl sl2 (by rw [List.size_toArray, List.size_toArray, r.length, r'.length]; exact hz)) ⟨ho, ho2, ?_⟩
  rw [e]
  have k := Keeps.push s { cls := .type "list", data := .seq (vs ++ ws).toArray }
  exact h _ _ k (.list (o.fresh (fresh_size _)) (isList_push _ _) ((r.append r').keeps (Keeps.keep k)))
end
end Mine
namespace Mine
open PySem.SeqAt (EqAt RcAt RcNeAt)
open PySem.AutoSeq1 (wpAny_loadPart')
theorem intsAre_get {vs : List Value} {ns : List Int} (r : IntsAre vs ns) : ∀ {j : Nat} {v : Value}, vs[j]? = some v → ∃ t, v = .int (ns.getD j 0) t := by
  induction r with
  | nil => intro j v e; simp at e
  | cons n t _ ih =>
    intro j v e
    cases j with
    | zero => simp only [List.getElem?_cons_zero, Option.some.injEq] at e; subst e; exact ⟨t, rfl⟩
    | succ j => simpa using ih (by simpa using e)
theorem all_range_eq : ∀ {ns ms : List Int}, ns.length = ms.length → ((List.range ns.length).all fun j => ns.getD j 0 == ms.getD j 0) = decide (ns = ms)
  | [], [], _ => rfl
  | [], _ :: _, h => by simp at h
  | _ :: _, [], h => by simp at h
  | n :: ns, m :: ms, h => by
    have ih := all_range_eq (ns := ns) (ms := ms) (by simpa using h)
    rw [List.length_cons, List.range_succ_eq_map, List.all_cons, List.all_map]
    have e : ((fun j => (n :: ns).getD j 0 == (m :: ms).getD j 0) ∘ Nat.succ) = fun j => ns.getD j 0 == ms.getD j 0 := by funext j; simp
    rw [e, ih]
    by_cases h1 : n = m <;> by_cases h2 : ns = ms <;> simp [h1, h2]
theorem eqAt_ints {A : Around} {s : Shared} {vs ws : List Value} {ns ms : List Int} (r : IntsAre vs ns) (q : IntsAre ws ms) :
    ∀ j (h1 : j < vs.toArray.size) (h2 : j < ws.toArray.size), EqAt A s vs.toArray[j] ws.toArray[j] (ns.getD j 0 == ms.getD j 0) := by
  intro j h1 h2
  obtain ⟨t, e⟩ := intsAre_get r (j := j) (v := vs.toArray[j]) (by simp only [List.size_toArray] at h1; simp [h1])
  obtain ⟨u, e'⟩ := intsAre_get q (j := j) (v := ws.toArray[j]) (by simp only [List.size_toArray] at h2; simp [h2])
  rw [e, e']
  exact (MeetsSeq.EqGives.int _ _ t u).at A s
theorem rcne_ints {A : Around} {s : Shared} {a b : Addr} {vs ws : List Value} {ns ms : List Int} (l : s.heap.IsList a vs.toArray) (l' : s.heap.IsList b ws.toArray) (r : IntsAre vs ns) (q : IntsAre ws ms) (hu : A.units < cLine) :
    RcNeAt A s (.ref a) (.ref b) (!decide (ns = ms)) := by
  by_cases hl : ns.length = ms.length
  · have z := RcNeAt.lists l l' (by rw [List.size_toArray, List.size_toArray, r.length, q.length]; exact hl) hu (eqAt_ints r q)
    rw [List.size_toArray, r.length, all_range_eq hl] at z
    exact z
  · have e : decide (ns = ms) = false := decide_eq_false fun e => hl (by rw [e])
    rw [e]
    exact RcNeAt.lists_lengths l l' (by rw [List.size_toArray, List.size_toArray, r.length, q.length]; simpa using hl) hu
section
variable {c : Cx} {n : Nat}
theorem Rm.lt {m : Nat} {A : Around} (r : Rm m A) : A.units + 20 < cLine := by have := r.units; omega
theorem op_ne_ints {ns ms : List Int} : Op2 c n (compareOp .NotEq) (.list (dInts ns)) (.list (dInts ms)) (.bool (!decide (ns = ms))) := by
  intro own A s v₁ v₂ Q E rm t o r₁ r₂ h
  obtain ⟨a, vs, rfl, l, r⟩ := r₁.list
  obtain ⟨b, ws, rfl, l', r'⟩ := r₂.list
  exact rcne_ints l l' r.toInts r'.toInts (by have := rm.lt; omega) c.prog c.w E Q (h _ s (Keeps.refl s) (.bool _))
/-- against the empty list -/
theorem op_ne_nil {ds : List D} : Op2 c n (compareOp .NotEq) (.list ds) (.list []) (.bool (!ds.isEmpty)) := by
  intro own A s v₁ v₂ Q E rm t o r₁ r₂ h
  obtain ⟨a, vs, rfl, l, r⟩ := r₁.list
  obtain ⟨b, ws, rfl, l', r'⟩ := r₂.list
  cases r'
  have hu : A.units < cLine := by have := rm.lt; omega
  have hl := r.length
  cases ds with
  | nil =>
    have e : vs = [] := List.length_eq_zero_iff.mp hl
    subst e
    have z := RcNeAt.lists (e := fun _ => true) l l' rfl hu (fun j h1 _ => by simp at h1)
    exact z c.prog c.w E Q (h _ s (Keeps.refl s) (.bool _))
  | cons d ds =>
    have z := RcNeAt.lists_lengths l l' (by rw [List.size_toArray, hl]; simp) hu
    exact z c.prog c.w E Q (h _ s (Keeps.refl s) (.bool _))
/-- lists of lists of ints -/
def dLists (nss : List (List Int)) : List D := nss.map fun ns => .list (dInts ns)
end
/-- the order of lists of ints -/
def ltI : List Int → List Int → Bool
  | [], [] => false
  | [], _ :: _ => true
  | _ :: _, [] => false
  | a :: as, b :: bs => if a = b then ltI as bs else decide (a < b)
theorem lt_loopAt (l b : Addr) (items items2 : Array Value) (n n2 : Nat) (dd dd2 : Option Addr) (sl sl2 : Array (Option Value)) (ns ms : List Int) (hi : IntsAre items.toList ns) (hj : IntsAre items2.toList ms) (k : Nat) :
    ∀ i : Nat, items.size - i = k → i ≤ items.size → i ≤ items2.size → Meets (Builtin.«list.__eq__.loop» ⟨[.ref l, .ref b, rawInt i, rawInt 0], []⟩)
      (fun _ R s => s.heap.get? l = some { cls := .type "list", dict := dd, data := .seq items n, slots := sl } ∧ s.heap.get? b = some { cls := .type "list", dict := dd2, data := .seq items2 n2, slots := sl2 } ∧
        R (.ok (.ret (.bool (ltI (ns.drop i) (ms.drop i))))) s) := by
  have s1 : items.size = ns.length := by rw [← hi.length, Array.length_toList]
  have s2 : items2.size = ms.length := by rw [← hj.length, Array.length_toList]
  induction k with
  | zero =>
    intro i hk h1 h2 prog w A R s h
    obtain ⟨hp, g, d, tk, os⟩ := s; obtain ⟨hl, hb, h⟩ := h
    wp_walk using wpAny_loadPart' hl, wpAny_loadPart' hb
    have hi1 : items[((i : Nat) : Int).toNat]? = none := by simp; omega
    have hd : ns.drop i = [] := by simp; omega
    rw [hd] at h
    rw [hi1]
    wp_walk using wpAny_loadPart' hl, wpAny_loadPart' hb
    show R (.ok (.ret (.bool (decide (items.size < items2.size))))) _
    have e : decide (items.size < items2.size) = ltI [] (ms.drop i) := by
      cases hm : ms.drop i with
      | nil =>
        have : ms.length ≤ i := by simpa using hm
        exact decide_eq_false (by omega)
      | cons x r =>
        have : i < ms.length := by
          rcases Nat.lt_or_ge i ms.length with q | q
          · exact q
          · rw [List.drop_eq_nil_of_le q] at hm; cases hm
        exact decide_eq_true (by omega)
    rw [e]; exact h
  | succ k ih =>
    intro i hk h1 h2 prog w A R s h
    obtain ⟨hp, g, d, tk, os⟩ := s; obtain ⟨hl, hb, h⟩ := h
    wp_walk using wpAny_loadPart' hl, wpAny_loadPart' hb
    have hlt : i < items.size := by omega
    have hi1 : items[((i : Nat) : Int).toNat]? = some items[i] := by simp [hlt]
    have hlt' : i < ns.length := by omega
    have hdn : ns.drop i = ns[i] :: ns.drop (i + 1) := List.drop_eq_getElem_cons hlt'
    rcases Nat.lt_or_ge i items2.size with hlt2 | hge
    · have hi2 : items2[((i : Nat) : Int).toNat]? = some items2[i] := by simp [hlt2]
      have hlt2' : i < ms.length := by omega
      have hdm : ms.drop i = ms[i] :: ms.drop (i + 1) := List.drop_eq_getElem_cons hlt2'
      have hc : ((i : Int) + 1) = ((i + 1 : Nat) : Int) := by push_cast; rfl
      obtain ⟨t, ex⟩ := intsAre_get hi (j := i) (v := items[i]) (by simp [hlt])
      obtain ⟨u, ey⟩ := intsAre_get hj (j := i) (v := items2[i]) (by simp [hlt2])
      have gx : ns.getD i 0 = ns[i] := by simp [hlt']
      have gy : ms.getD i 0 = ms[i] := by simp [hlt2']
      rw [gx] at ex; rw [gy] at ey
      rw [hdn, hdm] at h
      rw [hi1, hi2, ex, ey]
      refine wpAny_bind (wpAny_eqBool_int ?_)
      by_cases hb' : ns[i] = ms[i]
      · have e0 : (ns[i] == ms[i]) = true := by simpa using hb'
        rw [e0]
        have h' : R (.ok (.ret (.bool (ltI (ns.drop (i + 1)) (ms.drop (i + 1)))))) ⟨hp, g, d, tk, os⟩ := by
          simpa [ltI, hb'] using h
        wp_walk
        rw [hc]
        exact ⟨plainId_quiet MeetsSeq3.plain_eq_loop _, codeAny_builtin MeetsSeq3.entry_eq_loop (by
          rw [Around.under_plainId MeetsSeq3.plain_eq_loop _]
          exact ih (i + 1) (by omega) (by omega) (by omega) prog w A R _ ⟨hl, hb, h'⟩)⟩
      · have e0 : (ns[i] == ms[i]) = false := by simpa using hb'
        rw [e0]
        have h' : R (.ok (.ret (.bool (decide (ns[i] < ms[i]))))) ⟨hp, g, d, tk, os⟩ := by
          simpa [ltI, hb'] using h
        wp_walk using wpAny_loadPart' hl, wpAny_loadPart' hb
        rw [hi1, hi2, ex, ey]
        exact wpAny_bind (show wpAny _ _ (compareOp .Lt (.int ns[i] t) (.int ms[i] u)) _ _ _ from lt_int (wpAny_pure h'))
    · have hi2 : items2[((i : Nat) : Int).toNat]? = none := by simp; omega
      have hdm : ms.drop i = [] := by simp; omega
      rw [hdn, hdm] at h
      rw [hi1, hi2]
      wp_walk using wpAny_loadPart' hl, wpAny_loadPart' hb
      show R (.ok (.ret (.bool (decide (items.size < items2.size))))) _
      have e : decide (items.size < items2.size) = false := decide_eq_false (by omega)
      rw [e]; exact h
theorem list_ltAt (l b : Addr) (items items2 : Array Value) (n n2 : Nat) (dd dd2 : Option Addr) (sl sl2 : Array (Option Value)) (ns ms : List Int) (hi : IntsAre items.toList ns) (hj : IntsAre items2.toList ms) :
    Meets (Builtin.«list.__lt__» ⟨[.ref l, .ref b], []⟩)
      (fun _ R s => s.heap.get? l = some { cls := .type "list", dict := dd, data := .seq items n, slots := sl } ∧ s.heap.get? b = some { cls := .type "list", dict := dd2, data := .seq items2 n2, slots := sl2 } ∧
        R (.ok (.ret (.bool (ltI ns ms)))) s) := by
  intro prog w A R s h
  obtain ⟨hp, g, d, tk, os⟩ := s; obtain ⟨hl, hb, h⟩ := h
  have f3 := AutoSeq1.sub_list_list
  wp_walk using wpAny_loadPart' hl, wpAny_loadPart' hb
  exact ⟨plainId_quiet MeetsSeq3.plain_eq_loop _, codeAny_builtin MeetsSeq3.entry_eq_loop (by
    rw [Around.under_plainId MeetsSeq3.plain_eq_loop _]
    exact lt_loopAt l b items items2 n n2 dd dd2 sl sl2 ns ms hi hj _ 0 rfl (Nat.zero_le _) (Nat.zero_le _) prog w A R _ ⟨hl, hb, by simpa using h⟩)⟩
theorem rc_lt_ints {prog : Program} {w : World} {A : Around} {E : Value → Shared → Prop} {s : Shared} {a b : Addr} {vs ws : List Value} {ns ms : List Int} {Q : Value → Shared → Prop} (l : s.heap.IsList a vs.toArray) (l' : s.heap.IsList b ws.toArray) (r : IntsAre vs ns) (q : IntsAre ws ms) (hu : A.units < cLine) (h : Q (.bool (ltI ns ms)) s) :
    wpAny (model prog w) A (richCompare .Lt (.ref a) (.ref b)) Q E s := by
  obtain ⟨⟨cls, dd, data, sl⟩, ho, hc, n, hd⟩ := id l
  obtain ⟨⟨cls2, dd2, data2, sl2⟩, ho2, hc2, n2, hd2⟩ := id l'
  simp only at hc hd hc2 hd2
  subst hc hd hc2 hd2
  exact richCompare_meets_room (op := .Lt) ⟨_, ho, rfl⟩ ⟨_, ho2, rfl⟩ F.slot_list_lt F.entry_list_lt (F.args_list_lt_2 _ _) (list_ltAt a b vs.toArray ws.toArray n n2 dd dd2 sl sl2 ns ms (by simpa using r) (by simpa using q))
    ⟨ho, ho2, show Value.bool (ltI ns ms) ≠ Value.notImplemented ∧ Q (.bool (ltI ns ms)) s from ⟨(fun x => nomatch x), h⟩⟩ hu
section
variable {c : Cx} {n : Nat}
theorem op_lt_ints {ns ms : List Int} : Op2 c n (compareOp .Lt) (.list (dInts ns)) (.list (dInts ms)) (.bool (ltI ns ms)) := by
  intro own A s v₁ v₂ Q E rm t o r₁ r₂ h
  obtain ⟨a, vs, rfl, l, r⟩ := r₁.list
  obtain ⟨b, ws, rfl, l', r'⟩ := r₂.list
  exact rc_lt_ints l l' r.toInts r'.toInts (by have := rm.lt; omega) (h _ s (Keeps.refl s) (.bool _))
end
end Mine
namespace Mine
theorem ns_unique {h : Heap} {a : Addr} {m m' : Str → Option Value} (x : h.Ns a m) (y : h.Ns a m') : m = m' := by
  obtain ⟨o, es, ep, ho, hd, _, hm⟩ := x
  obtain ⟨o', es', ep', ho', hd', _, hm'⟩ := y
  rw [ho] at ho'; cases ho'
  rw [hd] at hd'; cases hd'
  funext z
  rw [← hm, ← hm']
/-- addresses that the frame may change -/
def MutAt (env : Env) (mu : List Addr) (a : Addr) : Prop := a = env.locals ∨ (∃ n, (n, a) ∈ env.cells) ∨ a ∈ mu
/-- the frame's state, against the state s₀ ahead; Mut may have changed -/
structure St (c : Cx) (s₀ : Shared) (Mut : List Addr) (env : Env) (own mu : List Addr) (σ : Sg) (s : Shared) : Prop where
  same : ∃ h tk, s = { s₀ with heap := h, toks := tk }
  keep : ∀ b o, b ∉ Mut → s₀.heap.get? b = some o → s.heap.get? b = some o
  top : c.B.StaysIn s.heap
  act : Act env own σ s.heap
  sub : ∀ a ∈ mu, a ∈ own
  chg : ∀ a, MutAt env mu a → a ∈ Mut ∨ s₀.heap.get? a = none
  chgB : ∀ a, MutAt env mu a → c.B.get? a = none
section
variable {c : Cx} {s₀ : Shared} {Mut : List Addr} {env : Env} {own mu : List Addr} {σ : Sg} {s : Shared}
theorem St.keeps (x : St c s₀ Mut env own mu σ s) {s' : Shared} (k : Keeps s s') : St c s₀ Mut env own mu σ s' where
  same := by
    obtain ⟨h, tk, rfl⟩ := x.same
    obtain ⟨h', tk', rfl, _⟩ := k
    exact ⟨h', tk', rfl⟩
  keep := fun b o hb e => Keeps.keep k b o (x.keep b o hb e)
  top := stays_keeps x.top k
  act := x.act.keeps (Keeps.keep k)
  sub := x.sub
  chg := x.chg
  chgB := x.chgB
def KindOk (env : Env) (x : Str) : Prop := env.kindOf x = some .local ∨ (env.kindOf x = some .cell ∧ (env.cells.lookup x).isSome = true)
theorem lookup_put {σ : Sg} {x y : Str} {u w : SV} (e : List.lookup y ((x, u) :: σ) = some w) : (y = x ∧ w = u) ∨ (y ≠ x ∧ σ.lookup y = some w) := by
  rw [List.lookup_cons] at e
  cases hb : y == x with
  | true => rw [hb] at e; cases e; exact .inl ⟨beq_iff_eq.mp hb, rfl⟩
  | false => rw [hb] at e; exact .inr ⟨beq_eq_false_iff_ne.mp hb, e⟩
/-- one address of the frame's changes; lists elsewhere stay -/
theorem St.change (x : St c s₀ Mut env own mu σ s) {a : Addr} (ha : MutAt env mu a) {h' : Heap} {tk : Nat} (hs : Heap.SameBut a s.heap h') {σ' : Sg} (act : Act env own σ' h') : St c s₀ Mut env own mu σ' { s with heap := h', toks := tk } where
  same := by
    obtain ⟨h, tk', rfl⟩ := x.same
    exact ⟨h', tk, rfl⟩
  keep := fun b o hb e => by
    refine (hs.2 b fun q => ?_).trans (x.keep b o hb e)
    subst q
    rcases x.chg b ha with m | m
    · exact hb m
    · rw [m] at e; cases e
  top := fun b o e => by
    refine (hs.2 b fun q => ?_).trans (x.top b o e)
    subst q
    rw [x.chgB b ha] at e; cases e
  act := act
  sub := x.sub
  chg := x.chg
  chgB := x.chgB
theorem rdi_seq {own : List Addr} {h h' : Heap} (ks : KSeq (fun _ => True) h h') {v : Value} {d : D} (r : RdI own h v d) : RdI own h' v d := by
  have ks' : KSeq (· ∉ own) h h' := fun a o xs n _ e d => ks a o xs n trivial e d
  rcases r with r | ⟨a, vs, ds, e1, e2, l, r⟩
  · exact .inl (r.mono (fun _ p => p) ks')
  · exact .inr ⟨a, vs, ds, e1, e2, ks.isList trivial l, r.mono (fun _ p => p) ks'⟩
theorem sv_same {own : List Addr} {h h' : Heap} {a : Addr} (hs : Heap.SameBut a h h') (hna : ∀ o xs n, h.get? a = some o → o.data ≠ Data.seq xs n) {v : Value} {u : SV} (k : u.Ok own h v) : u.Ok own h' v := by
  have ks : ∀ P : Addr → Prop, KSeq P h h' := fun P b o xs n _ e d => (hs.2 b fun q => by subst q; exact hna o xs n e d).trans e
  cases u with
  | fz d => exact Rd.mono (fun _ p => p) (ks _) k
  | wk d => exact rdi_seq (ks _) k
  | ow b ds =>
    obtain ⟨e, m, vs, ⟨n, l⟩, r⟩ := k
    exact ⟨e, m, vs, ⟨n, ks (fun _ => True) b _ _ _ trivial l rfl⟩, r.mono (fun _ p => p) (ks _)⟩
theorem St.store {M : Model} {A : Around} {E : Value → Shared → Prop} {Q : Unit → Shared → Prop} (x : St c s₀ Mut env own mu σ s) {y : Str} {v : Value} {u : SV} (hk : KindOk env y) (hu : u.Ok own s.heap v)
    (hinj : ∀ a ds, u = .ow a ds → ∀ z es, σ.lookup z = some (.ow a es) → z = y)
    (h : ∀ s', St c s₀ Mut env own mu ((y, u) :: σ) s' → Q () s') : wpAny M A (storeName env y v) Q E s := by
  have injs : ∀ p q a ds es, List.lookup p ((y, u) :: σ) = some (.ow a ds) → List.lookup q ((y, u) :: σ) = some (.ow a es) → p = q := by
    intro p q a ds es e1 e2
    rcases lookup_put e1 with ⟨rfl, h1⟩ | ⟨n1, h1⟩ <;> rcases lookup_put e2 with ⟨rfl, h2⟩ | ⟨n2, h2⟩
    · rfl
    · exact (hinj a ds h1.symm q es h2).symm
    · exact hinj a es h2.symm p ds h1
    · exact x.act.inj p q a ds es h1 h2
  rcases hk with hl | ⟨hl, hc⟩
  · obtain ⟨m, hm⟩ := x.act.ns
    have hna : ∀ o xs n, s.heap.get? env.locals = some o → o.data ≠ Data.seq xs n := by
      intro o xs n e d
      obtain ⟨o', es, ep, ho, hd, _⟩ := hm
      rw [ho] at e; cases e
      rw [hd] at d; cases d
    refine wpAny_storeName_local hl hm (fun h' hn hs => h _ (x.change (.inl rfl) hs ?_)) (by rw [x.act.fn]; rfl)
    refine ⟨x.act.fn, x.act.gl, x.act.bi, ⟨_, hn⟩, fun n c e => ?_, x.act.apart, x.act.off, fun a ha => ?_, fun z w e => ?_, injs⟩
    · obtain ⟨v, q⟩ := x.act.cell n c e
      exact ⟨v, q.sameBut hs (x.act.off n c e)⟩
    · obtain ⟨o, xs, n, e, d⟩ := x.act.ow a ha
      exact ⟨o, xs, n, (hs.2 a fun q => by subst q; exact hna o xs n e d).trans e, d⟩
    · rcases lookup_put e with ⟨rfl, rfl⟩ | ⟨hz, e⟩
      · exact ⟨v, .inl ⟨hl, _, hn, by simp⟩, sv_same hs hna hu⟩
      · obtain ⟨vz, l, k⟩ := x.act.names z w e
        refine ⟨vz, ?_, sv_same hs hna k⟩
        rcases l with ⟨k1, m', n', e'⟩ | ⟨k1, cc, e', q⟩
        · refine .inl ⟨k1, _, hn, ?_⟩
          rw [if_neg hz, ns_unique hm n']; exact e'
        · exact .inr ⟨k1, cc, e', q.sameBut hs (x.act.off _ _ (mem_of_lookup e'))⟩
  · obtain ⟨cc, hc⟩ := Option.isSome_iff_exists.mp hc
    obtain ⟨v₀, hv₀⟩ := x.act.cell _ _ (mem_of_lookup hc)
    have hna : ∀ o xs n, s.heap.get? cc = some o → o.data ≠ Data.seq xs n := by
      intro o xs n e d
      obtain ⟨o', ho, hd⟩ := hv₀
      rw [ho] at e; cases e
      rw [hd] at d; cases d
    refine wpAny_storeName_cell x.act.fn hl hc hv₀ fun h' hv hs => h _ (x.change (.inr (.inl ⟨_, mem_of_lookup hc⟩)) hs ?_)
    refine ⟨x.act.fn, x.act.gl, x.act.bi, ?_, fun n c e => ?_, x.act.apart, x.act.off, fun a ha => ?_, fun z w e => ?_, injs⟩
    · obtain ⟨m, hm⟩ := x.act.ns
      exact ⟨m, hm.sameBut hs (Ne.symm (x.act.off _ _ (mem_of_lookup hc)))⟩
    · by_cases hcc : c = cc
      · subst hcc; exact ⟨_, hv⟩
      · obtain ⟨v, q⟩ := x.act.cell n c e
        exact ⟨v, q.sameBut hs hcc⟩
    · obtain ⟨o, xs, n, e, d⟩ := x.act.ow a ha
      exact ⟨o, xs, n, (hs.2 a fun q => by subst q; exact hna o xs n e d).trans e, d⟩
    · rcases lookup_put e with ⟨rfl, rfl⟩ | ⟨hz, e⟩
      · exact ⟨v, .inr ⟨.inl hl, cc, hc, hv⟩, sv_same hs hna hu⟩
      · obtain ⟨vz, l, k⟩ := x.act.names z w e
        refine ⟨vz, ?_, sv_same hs hna k⟩
        rcases l with ⟨k1, m', n', e'⟩ | ⟨k1, c', e', q⟩
        · exact .inl ⟨k1, m', n'.sameBut hs (Ne.symm (x.act.off _ _ (mem_of_lookup hc))), e'⟩
        · exact .inr ⟨k1, c', e', q.sameBut hs fun q' => hz (name_of_addr x.act.apart (mem_of_lookup e') (q' ▸ mem_of_lookup hc))⟩
end
/-- statements -/
def PS (c : Cx) (n : Nat) (s₀ : Shared) (Mut : List Addr) (env : Env) (own mu : List Addr) (σ : Sg) (ss : List Stmt) (Q : Flow → Shared → Prop) : Prop :=
  ∀ (A : Around) (s : Shared) (E : Value → Shared → Prop), Rm n A → St c s₀ Mut env own mu σ s → wpAny c.M A (execs ss env) Q E s
section
variable {c : Cx} {n : Nat} {s₀ : Shared} {Mut : List Addr} {env : Env} {own mu : List Addr} {σ : Sg} {Q : Flow → Shared → Prop}
theorem PS.nil (h : ∀ s, St c s₀ Mut env own mu σ s → Q .next s) : PS c n s₀ Mut env own mu σ [] Q := fun _ s _ _ x => wpAny_execs_nil (h s x)
theorem PS.assign {x : Str} {pos pos' : Pos} {e : Expr} {rest : List Stmt} {d : D} (hk : KindOk env x) (p : PE c n env own σ e d) (q : PS c n s₀ Mut env own mu ((x, .fz d) :: σ) rest Q)
    (hs : swapsWith e (some (.Name x pos')) pos.line env = pure false := by rfl) : PS c n s₀ Mut env own mu σ (.Assign [.Name x pos'] e pos :: rest) Q := by
  intro A s E rm y
  refine wpAny_execs_cons (wpAny_Assign_Name (p A s _ E rm y.top y.act fun v s' k r => ?_) hs)
  exact (y.keeps k).store (u := .fz d) hk r (fun a ds e => by cases e) fun s'' y'' => q A s'' E rm y''
theorem execs_append (env : Env) (ts : List Stmt) : ∀ (ss : List Stmt), execs (ss ++ ts) env = (execs ss env >>= fun f => match f with | .next => execs ts env | f => pure f)
  | [] => by rw [List.nil_append, execs_nil, pure_bind]
  | st :: ss => by
    rw [List.cons_append, execs_cons, execs_cons, bind_assoc]
    congr 1
    funext f
    cases f with
    | next => exact execs_append env ts ss
    | brk => rw [pure_bind]
    | cont => rw [pure_bind]
    | ret v => rw [pure_bind]
theorem execs_If (test : Expr) (body orelse rest : List Stmt) (pos : Pos) (env : Env) : execs (.If test body orelse pos :: rest) env =
    (do standAt pos; if ← isTrue test env (eval test env) then execs (body ++ rest) env else execs (orelse ++ rest) env) := by
  rw [execs_cons, exec_If, execs_append, execs_append, bind_assoc]
  congr 1
  funext _
  rw [bind_assoc]
  congr 1
  funext b
  cases b <;> rfl
theorem PS.ite {test : Expr} {body orelse rest : List Stmt} {pos : Pos} {b : Bool} (p : PT c n env own σ test b) (q₁ : b = true → PS c n s₀ Mut env own mu σ (body ++ rest) Q) (q₂ : b = false → PS c n s₀ Mut env own mu σ (orelse ++ rest) Q) :
    PS c n s₀ Mut env own mu σ (.If test body orelse pos :: rest) Q := by
  intro A s E rm y
  rw [execs_If]
  refine wpAny_bind (wpAny_standAt (wpAny_bind (p A s _ E rm y.top y.act fun s' k => ?_)))
  cases b with
  | true => exact q₁ rfl A s' E rm (y.keeps k)
  | false => exact q₂ rfl A s' E rm (y.keeps k)
theorem PS.assert {test : Expr} {msg : Option Expr} {rest : List Stmt} {pos : Pos} (p : PT c n env own σ test true) (q : PS c n s₀ Mut env own mu σ rest Q) : PS c n s₀ Mut env own mu σ (.Assert test msg pos :: rest) Q := by
  intro A s E rm y
  refine wpAny_execs_cons (wpAny_Assert_holds (p A s _ E rm y.top y.act fun s' k => ⟨rfl, ?_⟩))
  exact q A s' E rm (y.keeps k)
/-- a new own list -/
theorem rd_strong {P : Addr → Prop} {h : Heap} {a : Addr} (e : h.get? a = none) {v : Value} {d : D} (r : Rd P h v d) : Rd (fun b => P b ∧ b ≠ a) h v d := by
  induction r using Rd.rec (motive_2 := fun vs ds _ => RdL (fun b => P b ∧ b ≠ a) h vs ds) with
  | none => exact .none
  | bool b => exact .bool b
  | int i t => exact .int i t
  | str x t => exact .str x t
  | bytes b t ks e => exact .bytes b t ks e
  | atom v => exact .atom v
  | list p l _ ih => exact .list ⟨p, fun q => by obtain ⟨o, ho, _⟩ := l; rw [q, e] at ho; cases ho⟩ l ih
  | tuple p l _ ih => exact .tuple ⟨p, fun q => by obtain ⟨o, ho, _⟩ := l; rw [q, e] at ho; cases ho⟩ l ih
  | nil => exact .nil
  | cons _ _ a b => exact .cons a b
theorem rdl_strong {P : Addr → Prop} {h : Heap} {a : Addr} (e : h.get? a = none) {vs : List Value} {ds : List D} (r : RdL P h vs ds) : RdL (fun b => P b ∧ b ≠ a) h vs ds := by
  induction r using RdL.rec (motive_1 := fun _ _ _ => True) with
  | nil => exact .nil
  | cons x _ _ y => exact .cons (rd_strong e x) y
  | _ => trivial
theorem St.grow {s : Shared} (x : St c s₀ Mut env own mu σ s) {vs : List Value} : St c s₀ Mut env (s.heap.objs.size :: own) (s.heap.objs.size :: mu) σ { s with heap := s.heap.push { cls := .type "list", data := .seq vs.toArray } } := by
  have k := Keeps.push s { cls := .type "list", data := .seq vs.toArray }
  have y := x.keeps k
  have hn : s.heap.get? s.heap.objs.size = none := fresh_size _
  have h0 : s₀.heap.get? s.heap.objs.size = none ∨ s.heap.objs.size ∈ Mut := by
    cases e : s₀.heap.get? s.heap.objs.size with
    | none => exact .inl rfl
    | some o =>
      by_cases hm : s.heap.objs.size ∈ Mut
      · exact .inr hm
      · have := x.keep _ o hm e; rw [hn] at this; cases this
  have hB : c.B.get? s.heap.objs.size = none := by
    cases e : c.B.get? s.heap.objs.size with
    | none => rfl
    | some o => have := x.top _ o e; rw [hn] at this; cases this
  refine ⟨y.same, y.keep, y.top, ⟨y.act.fn, y.act.gl, y.act.bi, y.act.ns, y.act.cell, y.act.apart, y.act.off, fun a ha => ?_, fun z w e => ?_, y.act.inj⟩, fun a ha => ?_, fun a ha => ?_, fun a ha => ?_⟩
  · rcases List.mem_cons.mp ha with rfl | ha
    · exact ⟨_, _, _, Heap.get?_push_size _ rfl, rfl⟩
    · exact y.act.ow a ha
  · obtain ⟨v, l, q⟩ := x.act.names z w e
    refine ⟨v, l.keeps (Keeps.keep k), ?_⟩
    cases w with
    | fz d =>
      refine Rd.mono (P := fun b => b ∉ own ∧ b ≠ s.heap.objs.size) (fun b p m => ?_) (kseq_of (Keeps.keep k)) (rd_strong hn q)
      rcases List.mem_cons.mp m with e | m
      · exact p.2 e
      · exact p.1 m
    | wk d =>
      rcases q with q | ⟨b, us, ds, e1, e2, l, r⟩
      · refine .inl (Rd.mono (P := fun b => b ∉ own ∧ b ≠ s.heap.objs.size) (fun b p m => ?_) (kseq_of (Keeps.keep k)) (rd_strong hn q))
        rcases List.mem_cons.mp m with e | m
        · exact p.2 e
        · exact p.1 m
      · refine .inr ⟨b, us, ds, e1, e2, (kseq_of (Keeps.keep k) : KSeq (fun _ => True) _ _).isList trivial l, RdL.mono (P := fun b => b ∉ own ∧ b ≠ s.heap.objs.size) (fun b p m => ?_) (kseq_of (Keeps.keep k)) (rdl_strong hn r)⟩
        rcases List.mem_cons.mp m with e | m
        · exact p.2 e
        · exact p.1 m
    | ow b ds =>
      obtain ⟨e, m, us, l, r⟩ := q
      refine ⟨e, List.mem_cons_of_mem _ m, us, l.at fun o q => Keeps.keep k _ o q, ?_⟩
      refine RdL.mono (P := fun b => b ∉ own ∧ b ≠ s.heap.objs.size) (fun b p m => ?_) (kseq_of (Keeps.keep k)) (rdl_strong hn r)
      rcases List.mem_cons.mp m with e | m
      · exact p.2 e
      · exact p.1 m
  · rcases List.mem_cons.mp ha with rfl | ha
    · exact List.mem_cons_self
    · exact List.mem_cons_of_mem _ (x.sub a ha)
  · rcases ha with ha | ha | ha
    · exact x.chg a (.inl ha)
    · exact x.chg a (.inr (.inl ha))
    · rcases List.mem_cons.mp ha with rfl | ha
      · exact h0.symm
      · exact x.chg a (.inr (.inr ha))
  · rcases ha with ha | ha | ha
    · exact x.chgB a (.inl ha)
    · exact x.chgB a (.inr (.inl ha))
    · rcases List.mem_cons.mp ha with rfl | ha
      · exact hB
      · exact x.chgB a (.inr (.inr ha))
theorem PS.newOwn {x : Str} {pos pos' lpos : Pos} {es : List Expr} {rest : List Stmt} {ds : List D} (hk : KindOk env x) (p : PAE c n env own σ es ds) (q : ∀ a, a ∉ own → PS c n s₀ Mut env (a :: own) (a :: mu) ((x, .ow a ds) :: σ) rest Q) (hz : ds.length ≤ sizeLine := by decide) :
    PS c n s₀ Mut env own mu σ (.Assign [.Name x pos'] (.List es lpos) pos :: rest) Q := by
  intro A s E rm y
  refine wpAny_execs_cons (wpAny_Assign_Name (wpAny_List (p A s lpos _ E rm y.top y.act fun vs s₁ k₁ r₁ => ⟨r₁.length ▸ hz, ?_⟩)))
  have y1 := y.keeps k₁
  have y2 := y1.grow (vs := vs)
  have hn : s₁.heap.get? s₁.heap.objs.size = none := fresh_size _
  refine y2.store (u := .ow s₁.heap.objs.size ds) hk ⟨rfl, List.mem_cons_self, vs, ⟨_, Heap.get?_push_size _ rfl⟩, ?_⟩ (fun a ds' e z es' ez => ?_) fun s'' y'' => q _ (OwnIn.fresh y1.act.ow hn) A s'' E rm y''
  · refine RdL.mono (P := fun b => b ∉ own ∧ b ≠ s₁.heap.objs.size) (fun b p m => ?_) (kseq_of (Keeps.keep (Keeps.push s₁ _))) (rdl_strong hn r₁)
    rcases List.mem_cons.mp m with e | m
    · exact p.2 e
    · exact p.1 m
  · cases e
    obtain ⟨v, _, _, m, _⟩ := y1.act.names z _ ez
    obtain ⟨o, xs, n, e, _⟩ := y1.act.ow _ m
    rw [hn] at e; cases e
end
end Mine
namespace Mine
/-- an iterator's walk over the data -/
structure Wk (c : Cx) (A : Around) (own : List Addr) (F : Addr → Prop) (h : Heap) (I : Addr) (ds : List D) : Prop where
  ex : ∃ (fp : List Addr) (P : Nat → Value → Prop) (S : Nat → Heap → Prop), Walks c.prog c.w A I fp [I] ds.length P S ∧ S 0 h ∧
    (∀ b ∈ fp, b = I ∨ (F b ∧ ∃ o xs n, h.get? b = some o ∧ o.data = Data.seq xs n)) ∧
    (∀ i h', S i h' → ∃ o vs, h'.get? I = some o ∧ o.data = Data.fields vs) ∧
    (∀ i v d, P i v → ds[i]? = some d → Rd (· ∉ own) h v d)
/-- what a for takes -/
def Itb (own : List Addr) (F : Addr → Prop) (h : Heap) (v : Value) (ds : List D) : Prop :=
  (∃ a vs, v = .ref a ∧ F a ∧ h.IsList a vs.toArray ∧ RdL (· ∉ own) h vs ds) ∨
  (∃ b t, v = .bytes b t ∧ ds = dInts (KBw.bInts b)) ∨
  (∃ r a b k t u w m, v = .ref r ∧ IsRange h r a b k t u w ∧ Builtin.Range.small a b k = true ∧ Builtin.Range.rangeSize a b k = ((m : Nat) : Int) ∧ ds = dInts ((List.range m).map fun i : Nat => a + (i : Int) * k))
theorem Itb.iter {c : Cx} {A : Around} {own : List Addr} {F : Addr → Prop} {s : Shared} {v : Value} {ds : List D} {Q : Value → Shared → Prop} {E : Value → Shared → Prop} (x : Itb own F s.heap v ds) (hh : A.handled = none)
    (h : ∀ o, (∃ vs, o.data = Data.fields vs) → Wk c A own F (s.heap.push o) s.heap.objs.size ds → Q (.ref s.heap.objs.size) { s with heap := s.heap.push o }) : wpAny c.M A (pyIter v) Q E s := by
  rcases x with ⟨a, vs, rfl, hF, l, r⟩ | ⟨b, t, rfl, rfl⟩ | ⟨rr, a, b, k, t, u, w, m, rfl, hr, hs, hm, rfl⟩
  · refine wpAny_pyIter_list l (h _ ⟨_, rfl⟩ ⟨?_⟩)
    obtain ⟨o, ho, hc, n, hd⟩ := id l
    have hne : a ≠ s.heap.objs.size := Nat.ne_of_lt (Heap.lt_size ho)
    have W := Walks.list (prog := c.prog) (w := c.w) hh s.heap.objs.size a hne vs.toArray
    have e0 : vs.toArray.size = ds.length := by rw [List.size_toArray, r.length]
    rw [e0] at W
    refine ⟨_, _, _, W, ⟨⟨_, Heap.get?_push_size _ rfl, rfl, rfl⟩, l.push _⟩, fun b hb => ?_, fun i h' st => ?_, fun i v d p e => ?_⟩
    · simp only [List.mem_cons, List.not_mem_nil, or_false] at hb
      rcases hb with rfl | rfl
      · exact .inl rfl
      · exact .inr ⟨hF, o, _, n, Heap.get?_push_of_some _ ho, hd⟩
    · obtain ⟨⟨o', ho', _, hd'⟩, _⟩ := st
      exact ⟨o', _, ho', hd'⟩
    · obtain ⟨d', e', q⟩ := r.getV (k := i) (v := v) (by simpa using p)
      rw [e] at e'; cases e'
      exact q.keeps (fun b o e => Heap.get?_push_of_some _ e)
  · refine KBw.pyIter_bytes (h _ ⟨_, rfl⟩ ⟨?_⟩)
    have W := KBw.walks (prog := c.prog) (w := c.w) hh s.heap.objs.size b t
    have e : b.size = (dInts (KBw.bInts b)).length := by simp [dInts, KBw.ints_length]
    rw [e] at W
    refine ⟨_, _, _, W, ⟨_, Heap.get?_push_size _ rfl, rfl, rfl⟩, fun b hb => ?_, fun i h' st => ?_, fun i v d p e => ?_⟩
    · exact .inl (List.mem_singleton.mp hb)
    · obtain ⟨o', ho', _, hd'⟩ := st
      exact ⟨o', _, ho', hd'⟩
    · obtain ⟨cc, u, hc, rfl⟩ := p
      have := KBw.ints_get hc
      unfold dInts at e
      rw [List.getElem?_map, this] at e
      cases e
      exact .int _ _
  · refine wpAny_pyIter_range hr hs (h _ ⟨_, rfl⟩ ⟨?_⟩)
    have W := Walks.range (prog := c.prog) (w := c.w) (A := A) hh s.heap.objs.size a k m
    have e : m = (dInts ((List.range m).map fun i : Nat => a + (i : Int) * k)).length := by simp [dInts]
    have W2 : Walks c.prog c.w A s.heap.objs.size [s.heap.objs.size] [s.heap.objs.size] (dInts ((List.range m).map fun i : Nat => a + (i : Int) * k)).length (fun i v => ∃ t, v = .int (a + i * k) t) (fun i h => IsRangeIter h s.heap.objs.size (a + (i : Nat) * k) ((m : Int) - (i : Nat)) k) := by
      rw [← e]; exact W
    refine ⟨[s.heap.objs.size], _, _, W2, ?_, fun b hb => ?_, fun i h' st => ?_, fun i v d p e => ?_⟩
    · rw [hm]
      show IsRangeIter _ _ _ _ _
      simpa using Heap.get?_push_size s.heap (o := { cls := .type "range_iterator", data := .fields #[rawInt a, rawInt (m : Int), rawInt k] }) rfl
    · exact .inl (List.mem_singleton.mp hb)
    · exact ⟨_, _, st, rfl⟩
    · obtain ⟨u, rfl⟩ := p
      unfold dInts at e
      rw [List.getElem?_map, List.getElem?_map] at e
      cases hi : (List.range m)[i]? with
      | none => rw [hi] at e; simp at e
      | some j =>
        rw [hi] at e
        have : j = i := by
          have := List.getElem?_eq_some_iff.mp hi
          obtain ⟨hl, q⟩ := this
          simpa using q.symm
        subst this
        simp only [Option.map_some, Option.some.injEq] at e
        subst e
        exact .int _ _
def Src (c : Cx) (n : Nat) (env : Env) (own : List Addr) (F : Addr → Prop) (σ : Sg) (e : Expr) (ds : List D) : Prop :=
  ∀ (A : Around) (s : Shared) (Q : Value → Shared → Prop) (E : Value → Shared → Prop), Rm n A → c.B.StaysIn s.heap → Act env own σ s.heap →
    (∀ v s', Keeps s s' → Itb own F s'.heap v ds → Q v s') → wpAny c.M A (eval e env) Q E s
section
variable {c : Cx} {n : Nat} {env : Env} {own : List Addr} {σ : Sg}
theorem Src.list {e : Expr} {ds : List D} (p : PE c n env own σ e (.list ds)) : Src c n env own (· ∉ own) σ e ds := by
  intro A s Q E rm t a h
  refine p A s Q E rm t a fun v s' k r => h v s' k (.inl ?_)
  cases r with
  | list p l q => exact ⟨_, _, rfl, p, l, q⟩
theorem Src.listI {e : Expr} {ds : List D} (p : PI c n env own σ e (.list ds)) : Src c n env own (fun _ => True) σ e ds := by
  intro A s Q E rm t a h
  refine p A s Q E rm t a fun v s' k r => h v s' k (.inl ?_)
  obtain ⟨a, vs, e, l, q⟩ := r.list
  exact ⟨a, vs, e, trivial, l, q⟩
theorem Src.bytes {F : Addr → Prop} {e : Expr} {ks : List Int} (p : PI c n env own σ e (.bytes ks)) : Src c n env own F σ e (dInts ks) := by
  intro A s Q E rm t a h
  refine p A s Q E rm t a fun v s' k r => h v s' k (.inr (.inl ?_))
  obtain ⟨b, t, e, q⟩ := r.bytes
  exact ⟨b, t, e, by rw [q]⟩
end
/-- an object that the frame does not read -/
theorem Act.sideG {env : Env} {own : List Addr} {σ : Sg} {h h' : Heap} (x : Act env own σ h) {I : Addr} (hI : ∀ o xs n, h.get? I = some o → o.data ≠ Data.seq xs n) (hL : env.locals ≠ I) (hC : ∀ n c, (n, c) ∈ env.cells → c ≠ I)
    (hk : ∀ b o, b ≠ I → h.get? b = some o → h'.get? b = some o) : Act env own σ h' := by
  have ks : ∀ P : Addr → Prop, KSeq P h h' := fun P b o xs n _ e d => hk b o (fun q => hI o xs n (q ▸ e) d) e
  refine ⟨x.fn, x.gl, x.bi, ?_, fun m cc e => ?_, x.apart, x.off, fun a ha => ?_, fun z w e => ?_, x.inj⟩
  · obtain ⟨m, o, es, ep, ho, r⟩ := x.ns
    exact ⟨m, o, es, ep, hk _ _ hL ho, r⟩
  · obtain ⟨v, o, ho, hd⟩ := x.cell m cc e
    exact ⟨v, o, hk _ _ (hC _ _ e) ho, hd⟩
  · obtain ⟨o, xs, m, e, d⟩ := x.ow a ha
    exact ⟨o, xs, m, hk _ _ (fun q => hI o xs m (q ▸ e) d) e, d⟩
  · obtain ⟨v, l, k⟩ := x.names z w e
    refine ⟨v, ?_, ?_⟩
    · rcases l with ⟨k1, m, ⟨o, es, ep, ho, r⟩, e'⟩ | ⟨k1, cc, e', o, ho, hd⟩
      · exact .inl ⟨k1, m, ⟨o, es, ep, hk _ _ hL ho, r⟩, e'⟩
      · exact .inr ⟨k1, cc, e', o, hk _ _ (hC _ _ (mem_of_lookup e')) ho, hd⟩
    · cases w with
      | fz d => exact Rd.mono (fun _ p => p) (ks _) k
      | wk d => exact rdi_seq (ks _) k
      | ow b ds =>
        obtain ⟨e, m, vs, ⟨n, l⟩, r⟩ := k
        exact ⟨e, m, vs, ⟨n, ks (fun _ => True) b _ _ _ trivial l rfl⟩, r.mono (fun _ p => p) (ks _)⟩
section
variable {c : Cx} {s₀ : Shared} {Mut : List Addr} {env : Env} {own mu : List Addr} {σ : Sg} {s : Shared}
theorem St.sideG (x : St c s₀ Mut env own mu σ s) {I : Addr} (hI : ∀ o xs n, s.heap.get? I = some o → o.data ≠ Data.seq xs n) (hM : ∀ a, MutAt env mu a → a ≠ I) (hI0 : I ∈ Mut ∨ s₀.heap.get? I = none) (hIB : c.B.get? I = none) {h' : Heap} {tk : Nat}
    (hk : ∀ b o, b ≠ I → s.heap.get? b = some o → h'.get? b = some o) : St c s₀ Mut env own mu σ { s with heap := h', toks := tk } := by
  refine ⟨?_, fun b o hb e => ?_, fun b o e => ?_, x.act.sideG hI (hM _ (.inl rfl)) (fun m cc e => hM _ (.inr (.inl ⟨m, e⟩))) hk, x.sub, x.chg, x.chgB⟩
  · obtain ⟨h, tk', rfl⟩ := x.same
    exact ⟨h', tk, rfl⟩
  · refine hk b o (fun q => ?_) (x.keep b o hb e)
    subst q
    rcases hI0 with m | m
    · exact hb m
    · rw [m] at e; cases e
  · refine hk b o (fun q => ?_) (x.top b o e)
    subst q
    rw [hIB] at e; cases e
/-- an object changes that is none of the frame's -/
theorem St.side (x : St c s₀ Mut env own mu σ s) {I : Addr} (hI : ∃ o vs, s.heap.get? I = some o ∧ o.data = Data.fields vs) (hI0 : I ∈ Mut ∨ s₀.heap.get? I = none) (hIB : c.B.get? I = none) {h' : Heap} {tk : Nat}
    (hk : ∀ b o, b ≠ I → s.heap.get? b = some o → h'.get? b = some o) : St c s₀ Mut env own mu σ { s with heap := h', toks := tk } := by
  obtain ⟨oI, vI, hoI, hdI⟩ := hI
  have ne : ∀ {b o}, s.heap.get? b = some o → (∀ vs, o.data ≠ Data.fields vs) → b ≠ I := fun {b o} e hd q => by
    subst q; rw [hoI] at e; cases e; exact hd _ hdI
  refine x.sideG (fun o xs n e d => ?_) (fun a ha => ?_) hI0 hIB hk
  · rw [hoI] at e; cases e; rw [hdI] at d; cases d
  · rcases ha with rfl | ⟨m, ha⟩ | ha
    · obtain ⟨_, o, _, _, ho, hd, _⟩ := x.act.ns
      exact ne ho fun vs q => by rw [hd] at q; cases q
    · obtain ⟨_, o, ho, hd⟩ := x.act.cell m a ha
      exact ne ho fun vs q => by rw [hd] at q; cases q
    · obtain ⟨o, xs, k, ho, hd⟩ := x.act.ow a (x.sub a ha)
      exact ne ho fun vs q => by rw [hd] at q; cases q
def mutsOf (env : Env) (mu : List Addr) : List Addr := env.locals :: (env.cells.map (·.2) ++ mu)
theorem mem_mutsOf {a : Addr} (h : MutAt env mu a) : a ∈ mutsOf env mu := by
  rcases h with rfl | ⟨n, h⟩ | h
  · exact List.mem_cons_self
  · exact List.mem_cons_of_mem _ (List.mem_append_left _ (List.mem_map.mpr ⟨_, h, rfl⟩))
  · exact List.mem_cons_of_mem _ (List.mem_append_right _ h)
theorem of_mutsOf {a : Addr} (h : a ∈ mutsOf env mu) : MutAt env mu a := by
  rcases List.mem_cons.mp h with rfl | h
  · exact .inl rfl
  · rcases List.mem_append.mp h with h | h
    · obtain ⟨⟨n, b⟩, hm, rfl⟩ := List.mem_map.mp h
      exact .inr (.inl ⟨n, hm⟩)
    · exact .inr (.inr h)
/-- the state as a new start -/
theorem St.base (x : St c s₀ Mut env own mu σ s) : St c s (mutsOf env mu) env own mu σ s :=
  ⟨⟨s.heap, s.toks, rfl⟩, fun _ _ _ e => e, x.top, x.act, x.sub, fun _ h => .inl (mem_mutsOf h), x.chgB⟩
/-- and back -/
theorem St.back (x : St c s₀ Mut env own mu σ s) {σ' : Sg} {s' : Shared} (y : St c s (mutsOf env mu) env own mu σ' s') : St c s₀ Mut env own mu σ' s' where
  same := by
    obtain ⟨h, tk, rfl⟩ := x.same
    obtain ⟨h', tk', rfl⟩ := y.same
    exact ⟨h', tk', rfl⟩
  keep := fun b o hb e => by
    refine y.keep b o (fun m => ?_) (x.keep b o hb e)
    rcases x.chg b (of_mutsOf m) with q | q
    · exact hb q
    · rw [q] at e; cases e
  top := y.top
  act := y.act
  sub := x.sub
  chg := x.chg
  chgB := x.chgB
/-- what a turn keeps -/
theorem not_muts (x : St c s₀ Mut env own mu σ s) {b : Addr} {o : Obj} (e : s.heap.get? b = some o) (hd : (∃ vs, o.data = Data.fields vs) ∨ (b ∉ own ∧ ∃ xs n, o.data = Data.seq xs n)) : b ∉ mutsOf env mu := by
  intro m
  rcases of_mutsOf m with rfl | ⟨n, m⟩ | m
  · obtain ⟨_, o', es, ep, ho, hd', _⟩ := x.act.ns
    rw [ho] at e; cases e
    rcases hd with ⟨_, q⟩ | ⟨_, _, _, q⟩ <;> (rw [hd'] at q; cases q)
  · obtain ⟨_, o', ho, hd'⟩ := x.act.cell n b m
    rw [ho] at e; cases e
    rcases hd with ⟨_, q⟩ | ⟨_, _, _, q⟩ <;> (rw [hd'] at q; cases q)
  · obtain ⟨o', xs, n, ho, hd'⟩ := x.act.ow b (x.sub b m)
    rw [ho] at e; cases e
    rcases hd with ⟨_, q⟩ | ⟨q, _⟩
    · rw [hd'] at q; cases q
    · exact q (x.sub b m)
end
section
variable {c : Cx} {n : Nat} {s₀ : Shared} {Mut : List Addr} {env : Env} {own mu : List Addr} {σ : Sg} {Q : Flow → Shared → Prop}
theorem PS.loop {x : Str} {px pos : Pos} {iter : Expr} {body rest : List Stmt} {ds : List D} (src : Src c n env own (· ∉ own) σ iter ds) (hk : KindOk env x) (J : Nat → Sg → Prop) (h0 : J 0 σ)
    (turn : ∀ s₁ i d σ', ds[i]? = some d → J i σ' → PS c n s₁ (mutsOf env mu) env own mu ((x, .fz d) :: σ') body (fun f s' => f = .next ∧ ∃ σ'', J (i + 1) σ'' ∧ St c s₁ (mutsOf env mu) env own mu σ'' s'))
    (fin : ∀ σ', J ds.length σ' → PS c n s₀ Mut env own mu σ' rest Q)
    (hs : ∀ x, foldedSetIterable iter env x = pure x := by intro _; rfl) : PS c n s₀ Mut env own mu σ (.For (.Name x px) iter body [] pos :: rest) Q := by
  intro A s E rm y
  refine wpAny_execs_cons (wpAny_For (src A s _ E rm y.top y.act fun v s₁ k₁ it => it.iter rm.handled fun oi hoi wk => ?_) hs)
  have y1 := y.keeps k₁
  have y2 := y1.keeps (Keeps.push s₁ oi)
  obtain ⟨fp, P, S, W, hS0, hfp, hIf, hrd⟩ := wk.ex
  have hn1 : s₁.heap.get? s₁.heap.objs.size = none := fresh_size _
  have hI0 : s₁.heap.objs.size ∈ Mut ∨ s₀.heap.get? s₁.heap.objs.size = none := by
    cases e : s₀.heap.get? s₁.heap.objs.size with
    | none => exact .inr rfl
    | some o =>
      by_cases hm : s₁.heap.objs.size ∈ Mut
      · exact .inl hm
      · have := y1.keep _ o hm e; rw [hn1] at this; cases this
  have hIB : c.B.get? s₁.heap.objs.size = none := by
    cases e : c.B.get? s₁.heap.objs.size with
    | none => rfl
    | some o => have := y1.top _ o e; rw [hn1] at this; cases this
  generalize hI : s₁.heap.objs.size = I at *
  refine codeAny_forLoop (R := fun r s' => match r with | .ok f => (match f with | .next => wpAny c.M A (execs rest env) Q E s' | f => Q f s') | .error e => cameBackBy c.M A env E e s')
    (fun k s' => ∃ i σ', J i σ' ∧ St c s₀ Mut env own mu σ' s' ∧ S i s'.heap ∧ KSeq (· ∉ own) (s₁.heap.push oi) s'.heap ∧ i ≤ ds.length ∧ k = ds.length + 1 - i) ?_ (ds.length + 1)
    ⟨0, σ, h0, y2, hS0, fun _ _ _ _ _ e _ => e, Nat.zero_le _, rfl⟩
  rintro k s' ⟨i, σ', hJ, y', hSi, hK, hi, rfl⟩
  have hIo := hIf i s'.heap hSi
  by_cases hlt : i < ds.length
  · refine W.item i _ _ _ hlt hSi fun v h₁ tk₁ hP hS1 hk₁ => ?_
    obtain ⟨d, hd⟩ : ∃ d, ds[i]? = some d := ⟨ds[i], by simp [hlt]⟩
    have z1 : St c s₀ Mut env own mu σ' { s' with heap := h₁, toks := tk₁ } := y'.side hIo hI0 hIB (fun b o hb e => hk₁ b o (by simpa using hb) e)
    have hKI : KSeq (· ∉ own) s'.heap h₁ := fun b o xs m _ e dd => hk₁ b o (by
      intro q
      rw [List.mem_singleton.mp q] at e
      obtain ⟨oI, vI, hoI, hdI⟩ := hIo
      rw [hoI] at e; cases e
      rw [hdI] at dd; cases dd) e
    have hrv : Rd (· ∉ own) h₁ v d := ((hrd i v d hP hd).mono (fun _ p => p) hK).mono (fun _ p => p) hKI
    have hI1 := hIf (i + 1) h₁ hS1
    refine wpAny_assign_Name (z1.base.store (u := .fz d) hk hrv (fun a ds e => by cases e) fun s₂ z2 => ?_)
    have z2' : St c s₀ Mut env own mu ((x, .fz d) :: σ') s₂ := z1.back z2
    refine wpAny_mono (turn s₂ i d σ' hd hJ A s₂ (notedBy c.M A env fun e s' => _) rm z2'.base) (fun f s₃ h₃ => ?_) fun _ _ e => e
    obtain ⟨rfl, σ'', hJ', z3⟩ := h₃
    have z3' : St c s₀ Mut env own mu σ'' s₃ := z2'.back z3
    -- what the turn keeps
    have kp : ∀ b o, h₁.get? b = some o → ((∃ vs, o.data = Data.fields vs) ∨ (b ∉ own ∧ ∃ xs n, o.data = Data.seq xs n)) → s₃.heap.get? b = some o := by
      intro b o e hd
      have e2 := z2.keep b o (not_muts z1 e hd) e
      exact z3.keep b o (not_muts z2' e2 hd) e2
    refine ⟨ds.length + 1 - (i + 1), by omega, i + 1, σ'', hJ', z3', ?_, ?_, hlt, rfl⟩
    · refine W.frame _ _ _ hS1 fun b hb o e => ?_
      rcases hfp b hb with rfl | ⟨hF, o', xs, m, e', dd⟩
      · obtain ⟨oI, vI, hoI, hdI⟩ := hI1
        have : oI = o := by rw [hoI] at e; exact Option.some.inj e
        subst this
        exact kp _ _ e (.inl ⟨_, hdI⟩)
      · have e1 := hKI b o' xs m hF (hK b o' xs m hF e' dd) dd
        have : o' = o := by rw [e1] at e; exact Option.some.inj e
        subst this
        exact kp _ _ e (.inr ⟨hF, xs, m, dd⟩)
    · intro b o xs m hF e dd
      exact kp b o (hKI b o xs m hF (hK b o xs m hF e dd) dd) (.inr ⟨hF, xs, m, dd⟩)
  · have hin : i = ds.length := by omega
    subst hin
    refine W.done _ _ _ hSi fun h₁ tk₁ hk₁ => wpAny_execs_nil ?_
    have z1 : St c s₀ Mut env own mu σ' { s' with heap := h₁, toks := tk₁ } := y'.side hIo hI0 hIB (fun b o hb e => hk₁ b o (by simpa using hb) e)
    exact fin σ' hJ A _ E rm z1
theorem PS.whil {test : Expr} {body rest : List Stmt} {pos : Pos} (J : Nat → Sg → Prop) {m : Nat} (h0 : J m σ)
    (turn : ∀ k σ', J k σ' → ∃ b, PT c n env own σ' test b ∧ (b = true → PS c n s₀ Mut env own mu σ' body (fun f s' => f = .next ∧ ∃ k' σ'', k' < k ∧ J k' σ'' ∧ St c s₀ Mut env own mu σ'' s')) ∧
      (b = false → PS c n s₀ Mut env own mu σ' rest Q)) : PS c n s₀ Mut env own mu σ (.While test body [] pos :: rest) Q := by
  intro A s E rm y
  refine wpAny_execs_cons (wpAny_While ?_)
  refine codeAny_whileLoop (R := fun r s' => match r with | .ok f => (match f with | .next => wpAny c.M A (execs rest env) Q E s' | f => Q f s') | .error e => cameBackBy c.M A env E e s')
    (fun k s' => ∃ σ', J k σ' ∧ St c s₀ Mut env own mu σ' s') ?_ m ⟨σ, h0, y⟩
  rintro k s' ⟨σ', hJ, y'⟩
  obtain ⟨b, p, q₁, q₂⟩ := turn k σ' hJ
  refine p A s' _ _ rm y'.top y'.act fun s₂ k₂ => ?_
  have y2 := y'.keeps k₂
  cases b with
  | true =>
    simp only [if_true]
    refine wpAny_mono (q₁ rfl A s₂ (notedBy c.M A env fun e s' => _) rm y2) (fun f s₃ h₃ => ?_) fun _ _ e => e
    obtain ⟨rfl, k', σ'', hk', hJ', y3⟩ := h₃
    exact ⟨k', hk', σ'', hJ', y3⟩
  | false =>
    simp only [Bool.false_eq_true, if_false]
    exact wpAny_execs_nil (q₂ rfl A s₂ E rm y2)
end
end Mine
namespace Mine
structure KwI (own : List Addr) (h : Heap) (kvs : List (Str × Value)) (kds : List (Str × D)) : Prop where
  names : kvs.map (·.1) = kds.map (·.1)
  vals : RdIL own h (kvs.map (·.2)) (kds.map (·.2))
/-- a callable, as data -/
def Cl (c : Cx) (n : Nat) (fv : Value) (ds : List D) (kds : List (Str × D)) (r : D) : Prop :=
  ∀ (own : List Addr) (A : Around) (s : Shared) (vs : List Value) (kvs : List (Str × Value)) (Q : Value → Shared → Prop) (E : Value → Shared → Prop), Rm n A → c.B.StaysIn s.heap → OwnIn own s.heap →
    RdIL own s.heap vs ds → KwI own s.heap kvs kds → (∀ v s', Keeps s s' → Rd (· ∉ own) s'.heap v r → Q v s') → wpAny c.M A (call fv vs kvs) Q E s
/-- the same, for arguments apart from the own lists -/
def ClS (c : Cx) (n : Nat) (fv : Value) (ds : List D) (r : D) : Prop :=
  ∀ (own : List Addr) (A : Around) (s : Shared) (vs : List Value) (Q : Value → Shared → Prop) (E : Value → Shared → Prop), Rm n A → c.B.StaysIn s.heap → OwnIn own s.heap →
    RdL (· ∉ own) s.heap vs ds → (∀ v s', Keeps s s' → Rd (· ∉ own) s'.heap v r → Q v s') → wpAny c.M A (call fv vs []) Q E s
theorem Cl.le {c : Cx} {n m : Nat} {fv : Value} {ds : List D} {kds : List (Str × D)} {r : D} (h : Cl c n fv ds kds r) (hn : n ≤ m) : Cl c m fv ds kds r :=
  fun own A s vs kvs Q E rm => h own A s vs kvs Q E (rm.le hn)
theorem ClS.le {c : Cx} {n m : Nat} {fv : Value} {ds : List D} {r : D} (h : ClS c n fv ds r) (hn : n ≤ m) : ClS c m fv ds r :=
  fun own A s vs Q E rm => h own A s vs Q E (rm.le hn)
inductive Callable (c : Cx) : Value → Prop
  | builtin (id : String) : Callable c (.builtin id)
  | type (T : String) : Callable c (.type T)
  | fn {f : Addr} {o : Obj} {fd : FuncData} : c.K.lookup f = some o → o.data = .func fd → Callable c (.ref f)
theorem evalArgs_any {M : Model} {A : Around} {E : Value → Shared → Prop} {s : Shared} {f : Value} {args : List (Bool × Sem Value)} {keywords : List (Option Str × Sem Value)} {Q : Args → Shared → Prop} (hns : args.any (·.1) = false) (hall : keywords.all (·.1.isSome) = true)
    (h : wpAny M A (spliced args) (fun vs s₁ => wpAny M A (evalAll (keywords.map (·.2))) (fun ks s₂ => Q ⟨vs, (keywords.filterMap (·.1)).zip ks⟩ s₂) E s₁) E s) : wpAny M A (evalArgs f true args keywords) Q E s := by
  cases args with
  | nil =>
    refine evalArgs_kw_nil hall ?_
    have h' : wpAny M A (pure []) (fun vs s₁ => wpAny M A (evalAll (keywords.map (·.2))) (fun ks s₂ => Q ⟨vs, (keywords.filterMap (·.1)).zip ks⟩ s₂) E s₁) E s := h
    intro Γ p hΓ
    have h2 := h' Γ p hΓ
    rw [Sem.wp_pure'] at h2
    exact h2 Γ p hΓ
  | cons a rest =>
    obtain ⟨b, x⟩ := a
    have hb : b = false := by
      cases b with
      | false => rfl
      | true => simp at hns
    subst hb
    exact evalArgs_kw hall h
theorem callWith_other {M : Model} {A : Around} {E : Value → Shared → Prop} {s : Shared} {pos : Pos} {f : Value} {first : List Value} {args : List (Bool × Sem Value)} {keywords : List (Option Str × Sem Value)} {Q : Value → Shared → Prop} (hf : ∀ a, f ≠ .ref a)
    (hplain : (args.any (·.1) || keywords.any (·.1.isNone)) = false)
    (h : wpAny M A (evalArgs f true args keywords) (fun a s₁ => wpAny M A (call f (first ++ a.pos) a.kw) Q E s₁) E s) : wpAny M A (callWith pos f first args keywords) Q E s := by
  unfold callWith
  refine wpAny_bind (wpAny_holding (wpAny_mono h (fun a s₁ h₁ => wpAny_bind (wpAny_standAt ?_)) fun _ _ x => x))
  simp only [hplain]
  have hk : keeperOf f = pure .machine := by
    unfold keeperOf
    cases f <;> first | rfl | exact absurd rfl (hf _)
  rw [hk]
  refine wpAny_bind (wpAny_pure ?_)
  exact wpAny_bind (wpAny_mono h₁ (fun r s₂ hr => wpAny_bind (wpAny_holding (wpAny_point (wpAny_pure hr)))) fun _ _ x => x)
section
variable {c : Cx} {n : Nat} {env : Env} {own : List Addr} {σ : Sg}
/-- keyword arguments -/
structure PKI (c : Cx) (n : Nat) (env : Env) (own : List Addr) (σ : Sg) (ks : List Keyword) (kds : List (Str × D)) : Prop where
  names : ks.map (·.arg) = kds.map fun p => some p.1
  vals : ∀ (A : Around) (s : Shared) (pos : Pos) (Q : List Value → Shared → Prop) (E : Value → Shared → Prop), Rm n A → c.B.StaysIn s.heap → Act env own σ s.heap →
    (∀ vs s', Keeps s s' → RdIL own s'.heap vs (kds.map (·.2)) → Q vs s') → wpAny c.M A (evalAll ((backToKw pos (keywordEach ks env)).map (·.2))) Q E s
theorem PKI.nil : PKI c n env own σ [] [] := ⟨rfl, fun _ s _ _ _ _ _ _ h => wpAny_evalAll_nil (h [] s (Keeps.refl s) .nil)⟩
theorem PKI.cons {x : Str} {e : Expr} {kp : Pos} {ks : List Keyword} {d : D} {kds : List (Str × D)} (p : PI c n env own σ e d) (q : PKI c n env own σ ks kds) : PKI c n env own σ (⟨some x, e, kp⟩ :: ks) ((x, d) :: kds) := by
  refine ⟨by simp [q.names], fun A s pos Q E rm t a h => ?_⟩
  show wpAny c.M A (evalAll ((do let v ← eval e env; standAt pos; pure v) :: (backToKw pos (keywordEach ks env)).map (·.2))) Q E s
  refine wpAny_evalAll_cons (wpAny_bind (p A s _ E rm t a fun v s₁ k₁ r₁ => wpAny_bind (wpAny_standAt (wpAny_pure ?_))))
  exact q.vals A s₁ pos _ E rm (stays_keeps t k₁) (a.keeps (Keeps.keep k₁)) fun vs s₂ k₂ r₂ => h _ s₂ (Keeps.trans k₁ k₂) (.cons (r₁.keeps (Keeps.keep k₂)) r₂)
def noStars : List Expr → Bool
  | [] => true
  | e :: es => notStar e && noStars es
theorem noStars_any {es : List Expr} {env : Env} {pos : Pos} (h : noStars es = true) : (backTo pos (starEach es env)).any (·.1) = false := by
  induction es with
  | nil => rfl
  | cons e es ih =>
    simp only [noStars, Bool.and_eq_true] at h
    rw [starEach_cons h.1, backTo_cons, List.any_cons, ih h.2]; rfl
theorem kw_each {ks : List Keyword} {kds : List (Str × D)} {pos : Pos} {env : Env} (h : ks.map (·.arg) = kds.map fun p => some p.1) : (backToKw pos (keywordEach ks env)).map (·.1) = kds.map fun p => some p.1 := by
  rw [← h]
  clear h
  induction ks with
  | nil => rfl
  | cons k ks ih =>
    obtain ⟨a, v, p⟩ := k
    exact congrArg (a :: ·) ih
theorem kw_some {l : List (Option Str × Sem Value)} {kds : List (Str × D)} (h : l.map (·.1) = kds.map fun p => some p.1) : l.all (·.1.isSome) = true ∧ l.any (·.1.isNone) = false ∧ l.filterMap (·.1) = kds.map (·.1) := by
  induction l generalizing kds with
  | nil =>
    cases kds with
    | nil => exact ⟨rfl, rfl, rfl⟩
    | cons => simp at h
  | cons x l ih =>
    obtain ⟨a, t⟩ := x
    cases kds with
    | nil => simp at h
    | cons k kds =>
      simp only [List.map_cons, List.cons.injEq] at h
      obtain ⟨h1, h2⟩ := h
      subst h1
      obtain ⟨i1, i2, i3⟩ := ih h2
      exact ⟨by simpa using i1, by simpa using i2, by simpa using i3⟩
theorem zip_maps {α β : Type} : ∀ {as : List α} {bs : List β}, as.length = bs.length → (as.zip bs).map (·.1) = as ∧ (as.zip bs).map (·.2) = bs
  | [], [], _ => ⟨rfl, rfl⟩
  | a :: as, b :: bs, h => by
    have := zip_maps (as := as) (bs := bs) (by simpa using h)
    simp [this.1, this.2]
theorem RdIL.length {own : List Addr} {h : Heap} {vs : List Value} {ds : List D} (r : RdIL own h vs ds) : vs.length = ds.length := by
  induction r with
  | nil => rfl
  | cons _ _ ih => simp [ih]
/-- a call, its arguments evaluated -/
theorem callWith_any {A : Around} {s : Shared} {pos : Pos} {fv : Value} {first : List Value} {args : List Expr} {kws : List Keyword} {ds : List D} {kds : List (Str × D)} {Q : Value → Shared → Prop} {E : Value → Shared → Prop} (hc : Callable c fv) (rm : Rm n A) (t : c.B.StaysIn s.heap) (a : Act env own σ s.heap)
    (pa : PAI c n env own σ args ds) (pk : PKI c n env own σ kws kds) (hns : noStars args = true)
    (h : ∀ vs kvs s', Keeps s s' → RdIL own s'.heap vs ds → KwI own s'.heap kvs kds → wpAny c.M A (call fv (first ++ vs) kvs) Q E s') :
    wpAny c.M A (callWith pos fv first (backTo pos (starEach args env)) (backToKw pos (keywordEach kws env))) Q E s := by
  have hkw := kw_each (pos := pos) (env := env) pk.names
  obtain ⟨k1, k2, k3⟩ := kw_some hkw
  have ev : ∀ {R : Args → Shared → Prop}, (∀ vs kvs s', Keeps s s' → RdIL own s'.heap vs ds → KwI own s'.heap kvs kds → R ⟨vs, kvs⟩ s') → wpAny c.M A (evalArgs fv true (backTo pos (starEach args env)) (backToKw pos (keywordEach kws env))) R E s := by
    intro R hR
    refine evalArgs_any (noStars_any hns) k1 (pa A s pos _ E rm t a fun vs s₁ q₁ r₁ => pk.vals A s₁ pos _ E rm (stays_keeps t q₁) (a.keeps (Keeps.keep q₁)) fun ks s₂ q₂ r₂ => ?_)
    rw [k3]
    have hlen : (kds.map (·.1)).length = ks.length := by rw [r₂.length]; simp
    have z := zip_maps hlen
    exact hR _ _ s₂ (Keeps.trans q₁ q₂) (r₁.keeps (Keeps.keep q₂)) ⟨z.1, by rw [z.2]; exact r₂⟩
  cases hc with
  | builtin id => exact callWith_other (fun a e => by cases e) (by rw [noStars_any hns, k2]; rfl) (ev h)
  | type T => exact callWith_other (fun a e => by cases e) (by rw [noStars_any hns, k2]; rfl) (ev h)
  | fn ho hd =>
    refine callWith_function_kw (ev fun vs kvs s' q r r' => ⟨⟨?_, hd⟩, h vs kvs s' q r r'⟩)
    exact Keeps.keep q _ _ (t _ _ (c.tp.k _ _ ho))
theorem PE.call {f : Str} {fp pos : Pos} {args : List Expr} {kws : List Keyword} {fv : Value} {ds : List D} {kds : List (Str × D)} {r : D} (pf : PE c n env own σ (.Name f fp) (.atom fv)) (hc : Callable c fv) (pa : PAI c n env own σ args ds) (pk : PKI c n env own σ kws kds) (cl : Cl c n fv ds kds r)
    (hns : noStars args = true := by rfl) : PE c n env own σ (.Call (.Name f fp) args kws pos) r := by
  intro A s Q E rm t a h
  refine wpAny_Call_Name_kw (pf A s _ E rm t a fun v s₁ k₁ r₁ => ?_)
  have e := RdI.atom (.inl r₁)
  subst e
  refine callWith_any hc rm (stays_keeps t k₁) (a.keeps (Keeps.keep k₁)) pa pk hns fun vs kvs s' q r r' => ?_
  have k2 := Keeps.trans k₁ q
  exact cl own A s' vs kvs Q E rm (stays_keeps t k2) (OwnIn.keeps a.ow (Keeps.keep k2)) r r' fun v s'' k3 r3 => h v s'' (Keeps.trans k2 k3) r3
theorem PE.callS {f : Str} {fp pos : Pos} {args : List Expr} {fv : Value} {ds : List D} {r : D} (pf : PE c n env own σ (.Name f fp) (.atom fv)) (hc : Callable c fv) (pa : PAE c n env own σ args ds) (cl : ClS c n fv ds r)
    (hns : noStars args = true := by rfl) : PE c n env own σ (.Call (.Name f fp) args [] pos) r := by
  intro A s Q E rm t a h
  refine wpAny_Call_Name_kw (pf A s _ E rm t a fun v s₁ k₁ r₁ => ?_)
  have e := RdI.atom (.inl r₁)
  subst e
  have ev : ∀ {R : Args → Shared → Prop}, (∀ vs s', Keeps s₁ s' → RdL (· ∉ own) s'.heap vs ds → R ⟨vs, []⟩ s') → wpAny c.M A (evalArgs v true (backTo pos (starEach args env)) (backToKw pos (keywordEach [] env))) R E s₁ := by
    intro R hR
    refine evalArgs_any (noStars_any hns) rfl (pa A s₁ pos _ E rm (stays_keeps t k₁) (a.keeps (Keeps.keep k₁)) fun vs s₂ q₁ r₂ => wpAny_evalAll_nil ?_)
    exact hR vs s₂ q₁ r₂
  have fin : ∀ vs s', Keeps s₁ s' → RdL (· ∉ own) s'.heap vs ds → wpAny c.M A (PySem.call v ([] ++ vs) []) Q E s' := fun vs s' q r => by
    have k2 := Keeps.trans k₁ q
    exact cl own A s' vs Q E rm (stays_keeps t k2) (OwnIn.keeps a.ow (Keeps.keep k2)) r fun v s'' k3 r3 => h v s'' (Keeps.trans k2 k3) r3
  cases hc with
  | builtin id => exact callWith_other (fun a e => by cases e) (by rw [noStars_any hns]; rfl) (ev fin)
  | type T => exact callWith_other (fun a e => by cases e) (by rw [noStars_any hns]; rfl) (ev fin)
  | fn ho hd =>
    refine callWith_function_kw (ev fun vs s' q r => ⟨⟨?_, hd⟩, fin vs s' q r⟩)
    exact Keeps.keep (Keeps.trans k₁ q) _ _ (t _ _ (c.tp.k _ _ ho))
/-- a method of a bytes or a str -/
inductive ByVal : D → String → Prop
  | bytes (ks : List Int) : ByVal (.bytes ks) "bytes"
  | str (x : Str) : ByVal (.str x) "str"
theorem PE.meth {o : Expr} {name : Str} {apos pos : Pos} {args : List Expr} {d₀ : D} {T id : String} {ds : List D} {r : D} (po : PI c n env own σ o d₀) (hv : ByVal d₀ T) (pa : PlainAttrs T) (slot : Slot T name id) (hty : typeOf (.builtin id) = pure (.type "method_descriptor"))
    (pargs : PAI c n env own σ args ds) (cl : Cl c n (.builtin id) (d₀ :: ds) [] r)
    (hbase : attributeBase o name env (eval o env) = eval o env := by rfl)
    (hfew : ((backTo pos (starEach args env)).all (fun x => !x.1) && (backToKw pos (keywordEach [] env)).all (fun x => x.1.isSome)
      && decide (args.length + ([] : List Keyword).length + (if ([] : List Keyword).isEmpty then 0 else 1) < 30)) = true := by rfl)
    (hline : (apos.endLine == pos.line) = true := by rfl) (hns : noStars args = true := by rfl) : PE c n env own σ (.Call (.Attribute o name apos) args [] pos) r := by
  intro A s Q E rm t a h
  refine wpAny_Call_method hbase hfew hline pa slot hty (po A s _ E rm t a fun v s₁ k₁ r₁ => ?_)
  have hT : s₁.TypeIs v T ∧ ∀ a, v ≠ .ref a := by
    cases hv with
    | bytes ks => obtain ⟨b, u, rfl, _⟩ := r₁.bytes; exact ⟨typeIs_bytes _ _ _, fun a e => by cases e⟩
    | str x => obtain ⟨u, rfl⟩ := r₁.str; exact ⟨rfl, fun a e => by cases e⟩
  refine ⟨hT.1, fun a e => absurd e (hT.2 a), ?_⟩
  show wpAny c.M A (callWith pos (.builtin id) [v] (backTo pos (starEach args env)) (backToKw pos (keywordEach [] env))) Q E s₁
  refine callWith_any (kws := []) (kds := []) (Callable.builtin id) rm (stays_keeps t k₁) (a.keeps (Keeps.keep k₁)) pargs PKI.nil hns fun vs kvs s' q r r' => ?_
  have k2 := Keeps.trans k₁ q
  show wpAny c.M A (PySem.call (.builtin id) (v :: vs) kvs) Q E s'
  exact cl own A s' (v :: vs) kvs Q E rm (stays_keeps t k2) (OwnIn.keeps a.ow (Keeps.keep k2)) (.cons (r₁.keeps (Keeps.keep q)) r) r' fun v s'' k3 r3 => h v s'' (Keeps.trans k2 k3) r3
end
/-- entering a def -/
def envC (fd : FuncData) (f L : Addr) : Env := newEnv fd.scope L fd.globals (cellsFrom (L + 1) fd.scope.names []) (fd.qualname ++ ".<locals>.") (some f) fd.code none fd.builtins
def svOf : D → SV
  | .list ds => .wk (.list ds)
  | d => .fz d
def sgW (names : List Str) (bs : List D) : Sg := names.zip (bs.map svOf)
def sgF (names : List Str) (bs : List D) : Sg := names.zip (bs.map SV.fz)
theorem svOf_ok {own : List Addr} {h : Heap} {v : Value} {d : D} (r : RdI own h v d) : (svOf d).Ok own h v := by
  rcases r with q | ⟨a, vs, ds, e1, e2, l, q⟩
  · cases d <;> first | exact q | exact .inl q
  · subst e2; exact .inr ⟨a, vs, ds, e1, rfl, l, q⟩
structure FnAt (c : Cx) (f : Addr) (fd : FuncData) (body : List Stmt) : Prop where
  ex : ∃ fo, c.K.lookup f = some fo ∧ fo.data = .func fd
  body : fd.body = .stmts body
  code : codeIn c.K fd.code fd.qualname = true
  clo : fd.closure = []
  gl : fd.globals = mainGlobals
  bi : fd.builtins = builtinsNs
  kind : fd.scope.kind = .function
  gen : fd.scope.isGenerator = false
  cor : fd.scope.isCoroutine = false
  cnd : ((cellsFrom 0 fd.scope.names []).map (·.1)).Nodup
/-- the names that a call binds lie in the frame -/
def kindsOk (fd : FuncData) (names : List Str) : Bool :=
  names.all fun x => decide (fd.scope.names.lookup x = some .local) || (decide (fd.scope.names.lookup x = some .cell) && ((cellsFrom 0 fd.scope.names []).lookup x).isSome)
theorem cells_isSome (x : Str) : ∀ (names : List (Str × NameKind)) (n m : Nat) (acc acc' : List (Str × Addr)), (acc.lookup x).isSome = (acc'.lookup x).isSome → ((cellsFrom n names acc).lookup x).isSome = ((cellsFrom m names acc').lookup x).isSome
  | [], _, _, _, _, h => h
  | (y, k) :: r, n, m, acc, acc', h => by
    unfold cellsFrom
    split
    · refine cells_isSome x r _ _ _ _ ?_
      rw [List.lookup_cons, List.lookup_cons]
      cases x == y <;> simp [h]
    · exact cells_isSome x r _ _ _ _ h
/-- what a body must give back -/
def RetQ (own : List Addr) (s : Shared) (r : D) (fl : Flow) (s' : Shared) : Prop :=
  ∃ v, (fl = .ret v ∨ (fl = .next ∧ v = .none)) ∧ Rd (· ∉ own) s'.heap v r ∧ Keeps s s'
theorem bindL_other {kindOf : Str → Option NameKind} {y : Str} : ∀ (r : List (Str × Value)) (m : Str → Option Value), y ∉ r.map (·.1) → bindL kindOf r m y = m y
  | [], _, _ => rfl
  | (n, v) :: r, m, h => by
    simp only [List.map_cons, List.mem_cons, not_or] at h
    unfold bindL
    rw [bindL_other r _ h.2]
    split
    · exact if_neg h.1
    · rfl
theorem bindC_other {kindOf : Str → Option NameKind} {y : Str} : ∀ (r : List (Str × Value)) (m : Str → Option Value), y ∉ r.map (·.1) → bindC kindOf r m y = m y
  | [], _, _ => rfl
  | (n, v) :: r, m, h => by
    simp only [List.map_cons, List.mem_cons, not_or] at h
    unfold bindC
    rw [bindC_other r _ h.2]
    split
    · rfl
    · exact if_neg h.1
theorem bindL_at {kindOf : Str → Option NameKind} {y : Str} {v : Value} (hk : kindOf y = some .local) : ∀ (r : List (Str × Value)) (m : Str → Option Value), (r.map (·.1)).Nodup → (y, v) ∈ r → bindL kindOf r m y = some v
  | (n, w) :: r, m, hnd, hm => by
    rw [List.map_cons, List.nodup_cons] at hnd
    unfold bindL
    rcases List.mem_cons.mp hm with e | hm
    · cases e
      rw [bindL_other r _ hnd.1, if_pos hk]; simp
    · exact bindL_at hk r _ hnd.2 hm
theorem bindC_at {kindOf : Str → Option NameKind} {y : Str} {v : Value} (hk : kindOf y ≠ some .local) : ∀ (r : List (Str × Value)) (m : Str → Option Value), (r.map (·.1)).Nodup → (y, v) ∈ r → bindC kindOf r m y = some v
  | (n, w) :: r, m, hnd, hm => by
    rw [List.map_cons, List.nodup_cons] at hnd
    unfold bindC
    rcases List.mem_cons.mp hm with e | hm
    · cases e
      rw [bindC_other r _ hnd.1, if_neg hk]; simp
    · exact bindC_at hk r _ hnd.2 hm
theorem zip_lookup {α : Type} {y : Str} {u : α} : ∀ {names : List Str} {us : List α}, (names.zip us).lookup y = some u → ∃ i : Nat, names[i]? = some y ∧ us[i]? = some u
  | [], _, h => by simp at h
  | _ :: _, [], h => by simp at h
  | x :: names, w :: us, h => by
    rw [List.zip_cons_cons, List.lookup_cons] at h
    cases hb : y == x with
    | true => rw [hb] at h; cases h; exact ⟨0, by rw [beq_iff_eq.mp hb]; rfl, rfl⟩
    | false =>
      rw [hb] at h
      obtain ⟨i, h1, h2⟩ := zip_lookup h
      exact ⟨i + 1, by simpa using h1, by simpa using h2⟩
theorem enterG {c : Cx} {mu : List Addr} {f : Addr} {fd : FuncData} {body : List Stmt} (F : FnAt c f fd body) {names : List Str} {bvs : List Value} {us : List SV} {own : List Addr} {A : Around} {s : Shared} {vs : List Value} {kvs : List (Str × Value)} {m : Nat} {Q : Value → Shared → Prop} {E : Value → Shared → Prop}
    (rm : Rm (m + 1) A) (t : c.B.StaysIn s.heap) (o : OwnIn own s.heap) (hbind : peek c.K ⟨c.prog, c.w.params⟩ (bindArgs fd ⟨vs, kvs⟩) = some (names.zip bvs)) (hlen : names.length = bvs.length) (hnd : names.Nodup)
    (hus : ∀ (i : Nat) (v : Value) (u : SV), bvs[i]? = some v → us[i]? = some u → u.Ok own s.heap v) (hinj : ∀ p q a ds es, (names.zip us).lookup p = some (.ow a ds) → (names.zip us).lookup q = some (.ow a es) → p = q) (ha₀ : ∀ a ∈ mu, a ∈ own) (hB₀ : ∀ a ∈ mu, c.B.get? a = none) (hk : kindsOk fd names = true)
    (hb : ∀ L, PS c m s mu (envC fd f L) own mu (names.zip us) body (fun fl s' => ∃ v, (fl = .ret v ∨ (fl = .next ∧ v = .none)) ∧ Q v s')) : wpAny c.M A (PySem.call (.ref f) vs kvs) Q E s := by
  obtain ⟨fo, hl, hd⟩ := F.ex
  have hK : c.K.In s.heap := c.tp.k.keeps t
  have hkind : ∀ n : Nat, ∀ x ∈ names, fd.scope.names.lookup x = some .local ∨ (fd.scope.names.lookup x = some .cell ∧ ((cellsFrom n fd.scope.names []).lookup x).isSome = true) := by
    intro n x hm
    have := List.all_eq_true.mp hk x hm
    simp only [Bool.or_eq_true, decide_eq_true_eq, Bool.and_eq_true] at this
    rcases this with h | ⟨h1, h2⟩
    · exact .inl h
    · exact .inr ⟨h1, by rw [cells_isSome x fd.scope.names n 0 [] [] rfl]; exact h2⟩
  refine wpAny_call (codeAny_call_function (by have := rm.depth; omega) (hK _ _ hl) hd F.cor F.gen F.body (codeRec_of hK F.code) ?_)
  refine (Looks.of_peek (M := c.M) hK hbind).here ?_
  rw [F.clo]
  refine wpAny_newFunctionEnv_cells F.kind (fun x hx => hkind _ x.1 (List.of_mem_zip (show (x.1, x.2) ∈ names.zip bvs from hx)).1) fun env' he s' x => ?_
  subst he
  refine ⟨(c.tp.nolimit.keeps t).keeps x.toInCall.keep, codeAny_func ?_⟩
  have znd : ((names.zip bvs).map (·.1)).Nodup := by rw [(zip_maps hlen).1]; exact hnd
  have hcm : ∀ y cc, (y, cc) ∈ cellsFrom (s.heap.objs.size + 1) fd.scope.names [] → (cellsFrom (s.heap.objs.size + 1) fd.scope.names []).lookup y = some cc := fun y cc hm =>
    lookup_of_mem_nodup (cellsFrom_names fd.scope.names 0 (s.heap.objs.size + 1) [] [] rfl ▸ F.cnd) hm
  have hnone : ∀ a, s.heap.objs.size ≤ a → s.heap.get? a = none := fun a ha => by
    cases e : s.heap.get? a with
    | none => rfl
    | some o => exact absurd (Heap.lt_size e) (Nat.not_lt.mpr ha)
  have hmut : ∀ a, MutAt (envC fd f s.heap.objs.size) mu a → a ∈ mu ∨ s.heap.get? a = none := by
    intro a ha
    rcases ha with rfl | ⟨y, ha⟩ | ha
    · exact .inr (hnone _ (Nat.le_refl _))
    · exact .inr (hnone _ (Nat.le_of_lt (x.above y a ha)))
    · exact .inl ha
  have hst : St c s mu (envC fd f s.heap.objs.size) own mu (names.zip us) s' := by
    refine ⟨x.toInCall.same, fun b o _ e => x.toInCall.keep b o e, fun b o e => x.toInCall.keep b o (t b o e), ?_, ha₀, hmut, fun a h => ?_⟩
    · refine ⟨F.kind, F.gl, F.bi, ⟨_, x.toInCall.ns⟩, fun y cc e => ⟨_, x.cell y cc (hcm y cc e)⟩, x.apart, fun y cc e => Nat.ne_of_gt (x.above y cc e), o.keeps x.toInCall.keep, fun y u e => ?_, fun p q a ds es e1 e2 => ?_⟩
      · obtain ⟨i, h1, h2⟩ := zip_lookup e
        have hi : i < bvs.length := by
          have := (List.getElem?_eq_some_iff.mp h1).1
          omega
        have h3 : bvs[i]? = some bvs[i] := by simp [hi]
        have hmem : (y, bvs[i]) ∈ names.zip bvs := by
          have : (names.zip bvs)[i]? = some (y, bvs[i]) := by
            rw [List.getElem?_zip_eq_some]; exact ⟨h1, h3⟩
          exact List.mem_of_getElem? this
        refine ⟨bvs[i], ?_, (hus i _ u h3 h2).keeps x.toInCall.keep⟩
        rcases hkind (s.heap.objs.size + 1) y (List.mem_of_getElem? h1) with hl | ⟨hl, hc⟩
        · exact .inl ⟨hl, _, x.toInCall.ns, bindL_at hl _ _ znd hmem⟩
        · obtain ⟨cc, hc⟩ := Option.isSome_iff_exists.mp hc
          refine .inr ⟨.inl hl, cc, hc, ?_⟩
          have := x.cell y cc hc
          rw [bindC_at (by show fd.scope.names.lookup y ≠ some .local; rw [hl]; decide) _ _ znd hmem] at this
          exact this
      · exact hinj p q a ds es e1 e2
    · rcases hmut a h with q | q
      · exact hB₀ a q
      · cases e : c.B.get? a with
        | none => rfl
        | some o => have := t _ o e; rw [q] at this; cases this
  refine wpAny_mono (hb s.heap.objs.size (A.deeper _) s' _ rm.deeper hst) (fun fl s'' h => ?_) fun _ _ e => e
  obtain ⟨v, hv, hQ⟩ := h
  rcases hv with rfl | ⟨rfl, rfl⟩
  · exact hQ
  · exact hQ
theorem enter {c : Cx} {f : Addr} {fd : FuncData} {body : List Stmt} (F : FnAt c f fd body) {names : List Str} {bvs : List Value} {us : List SV} {own : List Addr} {A : Around} {s : Shared} {vs : List Value} {kvs : List (Str × Value)} {m : Nat} {Q : Value → Shared → Prop} {E : Value → Shared → Prop}
    (rm : Rm (m + 1) A) (t : c.B.StaysIn s.heap) (o : OwnIn own s.heap) (hbind : peek c.K ⟨c.prog, c.w.params⟩ (bindArgs fd ⟨vs, kvs⟩) = some (names.zip bvs)) (hlen : names.length = bvs.length) (hnd : names.Nodup)
    (hus : ∀ (i : Nat) (v : Value) (u : SV), bvs[i]? = some v → us[i]? = some u → u.Ok own s.heap v) (huo : ∀ u ∈ us, ∀ a ds, u ≠ .ow a ds) (hk : kindsOk fd names = true)
    (hb : ∀ L, PS c m s [] (envC fd f L) own [] (names.zip us) body (fun fl s' => ∃ v, (fl = .ret v ∨ (fl = .next ∧ v = .none)) ∧ Q v s')) : wpAny c.M A (PySem.call (.ref f) vs kvs) Q E s :=
  enterG F rm t o hbind hlen hnd hus (fun _ _ a ds _ e1 _ => absurd rfl (huo _ (List.of_mem_zip (mem_of_lookup e1)).2 a ds)) (fun _ h => by cases h) (fun _ h => by cases h) hk hb
theorem RdIL.get {own : List Addr} {h : Heap} {vs : List Value} {ds : List D} (r : RdIL own h vs ds) : ∀ {i : Nat} {v : Value} {d : D}, vs[i]? = some v → ds[i]? = some d → RdI own h v d := by
  induction r with
  | nil => intro i v d e; simp at e
  | cons a _ ih =>
    intro i v d e1 e2
    cases i with
    | zero => simp only [List.getElem?_cons_zero, Option.some.injEq] at e1 e2; subst e1 e2; exact a
    | succ i => exact ih (by simpa using e1) (by simpa using e2)
/-- a def's contract by its body -/
theorem Cl.fn {c : Cx} {f : Addr} {fd : FuncData} {body : List Stmt} (F : FnAt c f fd body) {names : List Str} {bs ds : List D} {kds : List (Str × D)} {r : D} {m : Nat}
    (hbind : ∀ (own : List Addr) (h : Heap) (vs : List Value) (kvs : List (Str × Value)), RdIL own h vs ds → KwI own h kvs kds → ∃ bvs, peek c.K ⟨c.prog, c.w.params⟩ (bindArgs fd ⟨vs, kvs⟩) = some (names.zip bvs) ∧ RdIL own h bvs bs)
    (hlen : names.length = bs.length) (hnd : names.Nodup) (hk : kindsOk fd names = true)
    (hb : ∀ own s L, PS c m s [] (envC fd f L) own [] (sgW names bs) body (RetQ own s r)) : Cl c (m + 1) (.ref f) ds kds r := by
  intro own A s vs kvs Q E rm t o r₁ r₂ h
  obtain ⟨bvs, e, rb⟩ := hbind own s.heap vs kvs r₁ r₂
  refine enter F (us := bs.map svOf) rm t o e (by rw [hlen, rb.length]) hnd (fun i v u e1 e2 => ?_) (fun u hu a es e => ?_) hk (fun L => ?_)
  · rw [List.getElem?_map] at e2
    cases hd : bs[i]? with
    | none => rw [hd] at e2; cases e2
    | some d => rw [hd] at e2; cases e2; exact svOf_ok (rb.get e1 hd)
  · obtain ⟨d, _, rfl⟩ := List.mem_map.mp hu
    cases d <;> cases e
  · intro A' s' E' rm' st
    refine wpAny_mono (hb own s L A' s' E' rm' st) (fun fl s'' q => ?_) fun _ _ e => e
    obtain ⟨v, hv, hr, hk⟩ := q
    exact ⟨v, hv, h v s'' hk hr⟩
theorem ClS.fn {c : Cx} {f : Addr} {fd : FuncData} {body : List Stmt} (F : FnAt c f fd body) {names : List Str} {bs ds : List D} {r : D} {m : Nat}
    (hbind : ∀ (own : List Addr) (h : Heap) (vs : List Value), RdL (· ∉ own) h vs ds → ∃ bvs, peek c.K ⟨c.prog, c.w.params⟩ (bindArgs fd ⟨vs, []⟩) = some (names.zip bvs) ∧ RdL (· ∉ own) h bvs bs)
    (hlen : names.length = bs.length) (hnd : names.Nodup) (hk : kindsOk fd names = true)
    (hb : ∀ own s L, PS c m s [] (envC fd f L) own [] (sgF names bs) body (RetQ own s r)) : ClS c (m + 1) (.ref f) ds r := by
  intro own A s vs Q E rm t o r₁ h
  obtain ⟨bvs, e, rb⟩ := hbind own s.heap vs r₁
  refine enter F (us := bs.map SV.fz) rm t o e (by rw [hlen, rb.length]) hnd (fun i v u e1 e2 => ?_) (fun u hu a es e => ?_) hk (fun L => ?_)
  · rw [List.getElem?_map] at e2
    cases hd : bs[i]? with
    | none => rw [hd] at e2; cases e2
    | some d =>
      rw [hd] at e2; cases e2
      obtain ⟨d', e', q⟩ := rb.getV e1
      rw [hd] at e'; cases e'
      exact q
  · obtain ⟨d, _, rfl⟩ := List.mem_map.mp hu
    cases e
  · intro A' s' E' rm' st
    refine wpAny_mono (hb own s L A' s' E' rm' st) (fun fl s'' q => ?_) fun _ _ e => e
    obtain ⟨v, hv, hr, hk⟩ := q
    exact ⟨v, hv, h v s'' hk hr⟩
section
variable {c : Cx} {n : Nat} {s₀ : Shared} {env : Env} {own mu : List Addr} {σ : Sg}
theorem St.kp {s : Shared} (x : St c s₀ [] env own mu σ s) : Keeps s₀ s := by
  obtain ⟨h, tk, rfl⟩ := x.same
  exact ⟨h, tk, rfl, fun b o e => x.keep b o (by simp) e⟩
/-- return -/
theorem PS.retE {own₀ : List Addr} {e : Expr} {pos : Pos} {rest : List Stmt} {d : D} (p : PE c n env own σ e d) (hs : ∀ a ∈ own₀, a ∈ own) : PS c n s₀ [] env own mu σ (.Return (some e) pos :: rest) (RetQ own₀ s₀ d) := by
  intro A s E rm x
  refine wpAny_execs_cons (wpAny_Return_some (p A s _ E rm x.top x.act fun v s' k r => ⟨v, .inl rfl, r.weak fun a h m => h (hs a m), (x.keeps k).kp⟩))
theorem PS.retOwn {own₀ : List Addr} {x : Str} {p pos : Pos} {rest : List Stmt} {a : Addr} {ds : List D} (e : σ.lookup x = some (.ow a ds)) (hs : ∀ a ∈ own₀, a ∈ own) (ha : a ∉ own₀) (hd : (x == ("__debug__" : Str)) = false := by decide) : PS c n s₀ [] env own mu σ (.Return (some (.Name x p)) pos :: rest) (RetQ own₀ s₀ (.list ds)) := by
  intro A s E rm y
  obtain ⟨v, l, rfl, m, vs, pl, r⟩ := y.act.names x _ e
  refine wpAny_execs_cons (wpAny_Return_some (wpAny_Name (loads_any y.act.fn l ?_) hd))
  exact ⟨_, .inl rfl, .list ha pl.isList (r.weak fun a h m => h (hs a m)), y.kp⟩
end
end Mine
namespace Mine
section
variable {own : List Addr} {h : Heap} {vs : List Value} {kvs : List (Str × Value)}
theorem KwI.nil' (r : KwI own h kvs []) : kvs = [] := by
  have := r.names
  simpa using this
theorem RdIL.one' {d : D} (r : RdIL own h vs [d]) : ∃ v, vs = [v] ∧ RdI own h v d := by
  cases r with | cons a q => cases q; exact ⟨_, rfl, a⟩
theorem RdIL.two' {d e : D} (r : RdIL own h vs [d, e]) : ∃ v w, vs = [v, w] ∧ RdI own h v d ∧ RdI own h w e := by
  cases r with | cons a q => obtain ⟨w, rfl, b⟩ := q.one'; exact ⟨_, _, rfl, a, b⟩
theorem RdIL.three' {d e f : D} (r : RdIL own h vs [d, e, f]) : ∃ v w x, vs = [v, w, x] ∧ RdI own h v d ∧ RdI own h w e ∧ RdI own h x f := by
  cases r with | cons a q => obtain ⟨w, x, rfl, b, c⟩ := q.two'; exact ⟨_, _, _, rfl, a, b, c⟩
theorem RdIL.four' {d e f g : D} (r : RdIL own h vs [d, e, f, g]) : ∃ v w x y, vs = [v, w, x, y] ∧ RdI own h v d ∧ RdI own h w e ∧ RdI own h x f ∧ RdI own h y g := by
  cases r with | cons a q => obtain ⟨w, x, y, rfl, b, c, d⟩ := q.three'; exact ⟨_, _, _, _, rfl, a, b, c, d⟩
end
section
variable {c : Cx} {n : Nat}
theorem cl_len_list {ds : List D} (hz : (ds.length : Int) < 2 ^ 62) : Cl c n (.builtin "len") [.list ds] [] (.int ds.length) := by
  intro own A s vs kvs Q E rm t o r rk h
  obtain ⟨v, rfl, r1⟩ := r.one'
  have e := rk.nil'; subst e
  obtain ⟨a, us, rfl, l, q⟩ := r1.list
  have e : us.toArray.size = ds.length := by rw [List.size_toArray, q.length]
  refine len_list l (by rw [e]; omega) ?_
  rw [e]
  exact h _ _ (Keeps.tok s _) (.int _ _)
theorem cl_len_bytes {ks : List Int} (hz : ks.length ≤ 1099511627776) : Cl c n (.builtin "len") [.bytes ks] [] (.int ks.length) := by
  intro own A s vs kvs Q E rm t o r rk h
  obtain ⟨v, rfl, r1⟩ := r.one'
  have e := rk.nil'; subst e
  obtain ⟨b, u, rfl, q⟩ := r1.bytes
  exact KBw.len_K q hz (h _ _ (Keeps.tok s _) (.int _ _))
theorem cl_bytes {ns : List Int} (hr : ∀ n ∈ ns, 0 ≤ n ∧ n < 256) (hz : ns.length ≤ sizeLine) : Cl c n (.type "bytes") [.list (dInts ns)] [] (.bytes ns) := by
  intro own A s vs kvs Q E rm t o r rk h
  obtain ⟨v, rfl, r1⟩ := r.one'
  have e := rk.nil'; subst e
  obtain ⟨a, us, rfl, l, q⟩ := r1.list
  refine call_bytes_ints l q.toInts hr (by rw [q.length]; simpa [dInts] using hz) rm.handled fun h' t' k hk => h _ _ ⟨h', k, rfl, hk⟩ (.bytes _ _ _ ?_)
  exact KBa.ints_make hr
theorem cl_isi_bytes {ks : List Int} : Cl c n (.builtin "isinstance") [.bytes ks, .atom (.type "bytes")] [] (.bool true) := by
  intro own A s vs kvs Q E rm t o r rk h
  obtain ⟨v, w, rfl, r1, r2⟩ := r.two'
  have e := rk.nil'; subst e
  obtain ⟨b, u, rfl, q⟩ := r1.bytes
  have e := r2.atom; subst e
  exact kia_one (K := c.K) kitx_bytes (c.tp.k.keeps t) trivial rfl (by intro q; cases q) fun tk => h _ _ (Keeps.tok s tk) (.bool _)
theorem cl_type_bytes {ks : List Int} : Cl c n (.type "type") [.bytes ks] [] (.atom (.type "bytes")) := by
  intro own A s vs kvs Q E rm t o r rk h
  obtain ⟨v, rfl, r1⟩ := r.one'
  have e := rk.nil'; subst e
  obtain ⟨b, u, rfl, q⟩ := r1.bytes
  exact call_type_of (typeIs_bytes _ _ _) (by decide) (h _ _ (Keeps.refl s) (.atom _))
theorem cl_type_bool {b : Bool} : Cl c n (.type "type") [.bool b] [] (.atom (.type "bool")) := by
  intro own A s vs kvs Q E rm t o r rk h
  obtain ⟨v, rfl, r1⟩ := r.one'
  have e := rk.nil'; subst e
  have e := r1.bool; subst e
  exact call_type_of (show s.TypeIs (.bool b) "bool" from rfl) (by decide) (h _ _ (Keeps.refl s) (.atom _))
theorem cl_type_int {i : Int} : Cl c n (.type "type") [.int i] [] (.atom (.type "int")) := by
  intro own A s vs kvs Q E rm t o r rk h
  obtain ⟨v, rfl, r1⟩ := r.one'
  have e := rk.nil'; subst e
  obtain ⟨u, rfl⟩ := r1.int
  exact call_type_of (typeIs_int s i u) (by decide) (h _ _ (Keeps.refl s) (.atom _))
theorem ints_items {vs : List Value} {ns : List Int} (hi : IntsAre vs ns) : ∃ xs : Array (Int × Tok), vs.toArray = intItems xs ∧ ns = xs.toList.map (·.1) := by
  obtain ⟨xs, e⟩ := hi.allInts.items
  exact ⟨xs, e, by rw [← hi.numsOf, ← nums_intItems, ← e]⟩
theorem cl_min {ns : List Int} {M : Int} (hm : M ∈ ns) (hle : ∀ a ∈ ns, M ≤ a) : Cl c n (.builtin "min") [.list (dInts ns)] [] (.int M) := by
  intro own A s vs kvs Q E rm t o r rk h
  obtain ⟨v, rfl, r1⟩ := r.one'
  have e := rk.nil'; subst e
  obtain ⟨a, us, rfl, l, q⟩ := r1.list
  obtain ⟨xs, e, hns⟩ := ints_items q.toInts
  have hne : 0 < ns.length := List.length_pos_of_mem hm
  have hsz : 0 < xs.size := by
    have h3 := hne; rw [hns, List.length_map, Array.length_toList] at h3; exact h3
  rw [e] at l
  refine min_intList rm.handled l hsz fun v h' tk hv hk => ?_
  obtain ⟨t, rfl⟩ := intItems_at hv
  obtain ⟨h1, h2⟩ := argBest_lt (numAt xs) (xs.size - 1)
  generalize hj : argBest (fun i j => decide (numAt xs i < numAt xs j)) (xs.size - 1) = j at *
  have hmem : numAt xs j ∈ ns := by rw [hns, numAt_eq]; exact getD_mem (by rw [List.length_map, Array.length_toList]; omega)
  have hlow : numAt xs j ≤ M := by
    rw [hns] at hm
    obtain ⟨i, hi, rfl⟩ := mem_getD hm
    rw [List.length_map, Array.length_toList] at hi
    rw [← numAt_eq]; exact h2 i (by omega)
  have e2 : numAt xs j = M := Int.le_antisymm hlow (hle _ hmem)
  rw [e2]
  exact h _ _ ⟨h', tk, rfl, hk⟩ (.int _ _)
theorem cl_max {ns : List Int} {M : Int} (hm : M ∈ ns) (hle : ∀ a ∈ ns, a ≤ M) : Cl c n (.builtin "max") [.list (dInts ns)] [] (.int M) := by
  intro own A s vs kvs Q E rm t o r rk h
  obtain ⟨v, rfl, r1⟩ := r.one'
  have e := rk.nil'; subst e
  obtain ⟨a, us, rfl, l, q⟩ := r1.list
  obtain ⟨xs, e, hns⟩ := ints_items q.toInts
  have hne : 0 < ns.length := List.length_pos_of_mem hm
  have hsz : 0 < xs.size := by
    have h3 := hne; rw [hns, List.length_map, Array.length_toList] at h3; exact h3
  rw [e] at l
  refine max_intList rm.handled l hsz fun v h' tk hv hk => ?_
  obtain ⟨t, rfl⟩ := intItems_at hv
  obtain ⟨h1, h2⟩ := argBest_gt (numAt xs) (xs.size - 1)
  generalize hj : argBest (fun i j => decide (numAt xs i > numAt xs j)) (xs.size - 1) = j at *
  have hmem : numAt xs j ∈ ns := by rw [hns, numAt_eq]; exact getD_mem (by rw [List.length_map, Array.length_toList]; omega)
  have hlow : M ≤ numAt xs j := by
    rw [hns] at hm
    obtain ⟨i, hi, rfl⟩ := mem_getD hm
    rw [List.length_map, Array.length_toList] at hi
    rw [← numAt_eq]; exact h2 i (by omega)
  have e2 : numAt xs j = M := Int.le_antisymm (hle _ hmem) hlow
  rw [e2]
  exact h _ _ ⟨h', tk, rfl, hk⟩ (.int _ _)
theorem cl_max2 {a b : Int} : Cl c n (.builtin "max") [.int a, .int b] [] (.int (max a b)) := by
  intro own A s vs kvs Q E rm t o r rk h
  obtain ⟨v, w, rfl, r1, r2⟩ := r.two'
  have e := rk.nil'; subst e
  obtain ⟨t₁, rfl⟩ := r1.int
  obtain ⟨t₂, rfl⟩ := r2.int
  refine max_two_ints rm.handled fun h' tk hk => h _ _ ⟨h', tk, rfl, hk⟩ ?_
  by_cases hb : b > a
  · rw [if_pos hb, show max a b = b by omega]; exact .int _ _
  · rw [if_neg hb, show max a b = a by omega]; exact .int _ _
theorem cl_sum {ns : List Int} : Cl c n (.builtin "sum") [.list (dInts ns)] [] (.int ns.sum) := by
  intro own A s vs kvs Q E rm t o r rk h
  obtain ⟨v, rfl, r1⟩ := r.one'
  have e := rk.nil'; subst e
  obtain ⟨a, us, rfl, l, q⟩ := r1.list
  have hlt : a < s.heap.objs.size := by obtain ⟨o, ho, _⟩ := l; exact Heap.lt_size ho
  have hne : a ≠ s.heap.objs.size := Nat.ne_of_lt hlt
  refine call_sum_walkAnyS (wpAny_pyIter_list l ?_)
  have W := (Walks.list (prog := c.prog) (w := c.w) (A := A.in1) rm.handled s.heap.objs.size a hne us.toArray).toS
  refine ⟨_, _, _, _, _, _, _, (fun j => ns.getD j 0), rfl, W, ⟨⟨_, Heap.get?_push_size _ rfl, rfl, rfl⟩, l.push _⟩, fun b hb => ?_, fun i v p => ?_, fun s' t' mv => ?_⟩
  · rw [Heap.size_push]
    rcases List.mem_cons.mp hb with rfl | hb
    · exact Nat.lt_succ_self _
    · rw [List.mem_singleton.mp hb]; exact Nat.lt_succ_of_lt hlt
  · exact intsAre_get q.toInts (by simpa using p)
  · have e : us.toArray.size = ns.length := by rw [List.size_toArray, q.length]; simp [dInts]
    rw [e, KBmo.pre_take ns ns.length (Nat.le_refl _), List.take_length]
    refine h _ _ ?_ (.int _ _)
    have e9 := Moved.eq_with mv
    refine ⟨s'.heap, s'.toks, e9, fun b o e => mv.heap b o (fun hm => ?_) (Heap.get?_push_of_some _ e)⟩
    exact absurd (Heap.lt_size e) (by rw [List.mem_singleton.mp hm]; exact Nat.lt_irrefl _)
end
end Mine
namespace Mine
section
variable {prog : Program} {w : World} {A : Around} {E : Value → Shared → Prop} {s : Shared}
def ByteAt (b : Array UInt8) (i : Nat) (v : Value) : Prop := ∃ c u, b[i]? = some c ∧ v = .int (c.toNat : Int) u
theorem extend_bytes {R : Result → Shared → Prop} (hh : A.handled = none) (x : Array UInt8) (t : Tok) (S : Addr) (res : Value) (c₀ : Nat) (hS : s.heap.get? S = some { cls := .type "list", data := .seq #[] c₀ })
    (hR : ∀ h' tk acc' c', (∀ b o, b ≠ S → s.heap.get? b = some o → h'.get? b = some o) → h'.get? S = some { cls := .type "list", dict := none, data := .seq acc' c', slots := #[] } →
      ItemsOf (ByteAt x) acc' x.size → R (.ok (.ret res)) { s with heap := h', toks := tk }) (hn : x.size ≤ sizeLine) :
    wpAny (model prog w) A.in1 (Builtin.List.listExtendWith (.ref S) (.bytes x t) res)
      (fun fin s' => match fin with | .done f => R (.ok f) s' | .again c' => c'.quiet = true ∧ codeAny (model prog w) A c' R s') (fun e s' => R (.error e) s') s := by
  have hSI : S ≠ s.heap.objs.size := Nat.ne_of_lt (Heap.lt_size hS)
  have hSf : S ∉ [s.heap.objs.size] := fun hm => hSI (List.mem_singleton.mp hm)
  unfold Builtin.List.listExtendWith
  refine wpAny_bind (wpAny_typeOf (T := "bytes") (v := .bytes x t) rfl ?_)
  have h1 : Builtin.List.listSameRef (.ref S) (.bytes x t) = false := rfl
  have h2 : (Value.type "bytes" == Value.type "list") = false := by decide
  have h3 : (Value.type "bytes" == Value.type "tuple") = false := by decide
  simp only [h1, h2, h3, Bool.or_false, Bool.false_eq_true, if_false]
  refine wpAny_bind (KBw.pyIter_bytes ?_)
  refine wpAny_bind (wpAny_holding ?_)
  unfold Builtin.List.listLengthHint
  refine wpAny_bind (wpAny_specialOf (T := "bytes") (v := .bytes x t) rfl FB.slot_bytes_len.lookup ?_)
  wp_delta
  refine wpAny_bind (wpAny_isInstance (T := "bytes") (v := .bytes x t) (b := true) rfl (by rw [isSubtype_type]; kernel_rfl) ?_)
  show wpAny _ _ (typeOf (Value.bytes x t) >>= _) _ _ _
  refine wpAny_bind (wpAny_typeOf (T := "bytes") (v := .bytes x t) rfl ?_)
  refine wpAny_pure ?_
  rw [if_neg (by decide)]
  have W := (KBw.walks (prog := prog) (w := w) (A := A.in1) hh s.heap.objs.size x t).toS
  refine wpAny_pure ⟨plainId_quiet F.plain_extend_loop _, codeAny_extend_loopS W hn _ hSf _ x.size 0 _ _ _ rfl (Nat.zero_le _) ⟨_, Heap.get?_push_size _ rfl, rfl, rfl⟩ (Heap.get?_push_of_some _ hS) (ItemsOf.nil _) fun s' acc' c' hm hS' hacc => ?_⟩
  rw [Moved.eq_with hm]
  refine hR s'.heap s'.toks acc' c' (fun b ob hb e => hm.heap b ob (fun hmem => ?_) (Heap.get?_push_of_some _ e)) hS' hacc
  rcases List.mem_cons.mp hmem with e' | hmem
  · exact hb e'
  · exact absurd (Heap.lt_size e) (by rw [List.mem_singleton.mp hmem]; exact Nat.lt_irrefl _)
theorem list_init_bytes {R : Result → Shared → Prop} (hh : A.handled = none) (x : Array UInt8) (t : Tok) (S : Addr) (hS : s.heap.get? S = some { cls := .type "list", data := .seq #[] })
    (hR : ∀ h' tk acc' c', (∀ b o, b ≠ S → s.heap.get? b = some o → h'.get? b = some o) → h'.get? S = some { cls := .type "list", dict := none, data := .seq acc' c', slots := #[] } →
      ItemsOf (ByteAt x) acc' x.size → R (.ok (.ret .none)) { s with heap := h', toks := tk }) (hn : x.size ≤ sizeLine) :
    wpAny (model prog w) A.in1 (Builtin.«list.__init__» ⟨[.ref S, .bytes x t], []⟩)
      (fun fin s' => match fin with | .done f => R (.ok f) s' | .again c' => c'.quiet = true ∧ codeAny (model prog w) A c' R s') (fun e s' => R (.error e) s') s := by
  show wpAny _ _ (do let old ← Builtin.List.listItems (.ref S); Builtin.List.listUpdate (.ref S) (fun _ => #[]); letGo old.toList.reverse; Builtin.List.listExtendWith (.ref S) (.bytes x t) .none) _ _ s
  refine wpAny_bind ?_
  unfold Builtin.List.listItems
  refine wpAny_bind (wpAny_seqItems hS rfl (wpAny_pure ?_))
  show wpAny _ _ (updateSeq S (fun _ => #[]) >>= fun _ => letGo (#[] : Array Value).toList.reverse >>= fun _ => Builtin.List.listExtendWith (.ref S) (.bytes x t) .none) _ _ s
  refine wpAny_bind (wpAny_updateSeq hS rfl ?_)
  have hS₂ := Heap.get?_update_self (Obj.mapSeq (fun _ => (#[] : Array Value))) hS rfl
  have oth : ∀ b o, b ≠ S → s.heap.get? b = some o → (s.heap.update S (Obj.mapSeq (fun _ => (#[] : Array Value)))).get? b = some o :=
    fun b o hb e => (Heap.get?_update_other _ _ (Ne.symm hb)).trans e
  refine wpAny_bind (wpAny_letGo ?_)
  refine extend_bytes (hn := hn) hh x t S .none _ hS₂ fun h' tk acc' c' hk hS' hacc => ?_
  exact hR h' tk acc' c' (fun b o hb e => hk b o hb (oth b o hb e)) hS' hacc
theorem call_list_bytes {Q : Value → Shared → Prop} (hh : A.handled = none) (x : Array UInt8) (t : Tok)
    (hQ : ∀ h' tk acc' c', (∀ b o, s.heap.get? b = some o → h'.get? b = some o) →
      h'.get? s.heap.objs.size = some { cls := .type "list", dict := none, data := .seq acc' c', slots := #[] } → ItemsOf (ByteAt x) acc' x.size → Q (.ref s.heap.objs.size) { s with heap := h', toks := tk }) (hn : x.size ≤ sizeLine) :
    wpAny (model prog w) A (call (.type "list") [.bytes x t]) Q E s := by
  refine callType_codes (Q₁ := fun obj s₁ => obj = .ref s.heap.objs.size ∧ s₁ = { s with heap := s.heap.push { cls := .type "list", data := .seq #[] } }) F.called_list (F.typeCall_list_1 _) F.entry_list_init
    (code_list_new _ ⟨rfl, rfl⟩) fun obj s₁ h₁ => ?_
  obtain ⟨rfl, rfl⟩ := h₁
  have hS : (s.heap.push { cls := .type "list", data := .seq #[] }).get? s.heap.objs.size = some { cls := .type "list", data := .seq #[] } := Heap.get?_push_size _ rfl
  refine ⟨⟨_, hS, rfl⟩, F.args_list_init_2 _ _, list_init_bytes (A := A.in1) (hn := hn) hh x t _ hS fun h' tk acc' c' hk hS' hacc => ?_⟩
  exact ⟨rfl, hQ h' tk acc' c' (fun b o e => hk b o (Nat.ne_of_lt (Heap.lt_size e)) (Heap.get?_push_of_some _ e)) hS' hacc⟩
end
theorem intsAre_of : ∀ {l : List Value} {ns : List Int}, l.length = ns.length → (∀ (i : Nat) v, l[i]? = some v → ∃ t, v = .int (ns.getD i 0) t) → IntsAre l ns
  | [], [], _, _ => .nil
  | [], _ :: _, h, _ => by simp at h
  | _ :: _, [], h, _ => by simp at h
  | v :: l, n :: ns, h, p => by
    obtain ⟨t, e⟩ := p 0 v rfl
    have e' : v = .int n t := by simpa using e
    subst e'
    exact .cons n t (intsAre_of (by simpa using h) fun i v e => by simpa using p (i + 1) v (by simpa using e))
section
variable {c : Cx} {n : Nat}
theorem cl_list_bytes {ks : List Int} (hz : ks.length ≤ sizeLine) : Cl c n (.type "list") [.bytes ks] [] (.list (dInts ks)) := by
  intro own A s vs kvs Q E rm t o r rk h
  obtain ⟨v, rfl, r1⟩ := r.one'
  have e := rk.nil'; subst e
  obtain ⟨b, u, rfl, q⟩ := r1.bytes
  have hb : b.size = ks.length := by rw [← KBw.ints_length b, q]
  refine call_list_bytes rm.handled b u (fun h' tk acc c' hk hS hit => ?_) (by rw [hb]; exact hz)
  obtain ⟨l⟩ := acc
  refine h _ _ ⟨h', tk, rfl, hk⟩ (.list (o.fresh (fresh_size _)) ⟨_, hS, rfl, _, rfl⟩ (rdl_ints ?_))
  refine intsAre_of ?_ fun i v e => ?_
  · have := hit.1
    rw [List.size_toArray] at this
    rw [this, hb]
  · obtain ⟨cc, u', hc, rfl⟩ := hit.2 i v (by simpa using e)
    have := KBw.ints_get hc
    rw [q] at this
    exact ⟨u', by rw [List.getD_eq_getElem?_getD, this]; rfl⟩
end
end Mine
namespace Mine
section
variable {c : Cx} {n : Nat}
theorem rdl_rep {P : Addr → Prop} {h : Heap} {vs : List Value} {ds : List D} (r : RdL P h vs ds) : ∀ k : Nat, RdL P h (List.replicate k vs).flatten (List.replicate k ds).flatten
  | 0 => by simp; exact .nil
  | k + 1 => by
    rw [List.replicate_succ, List.flatten_cons, List.replicate_succ, List.flatten_cons]
    exact r.append (rdl_rep r k)
theorem op_mul_list {ds : List D} {x : Int} (hlo : -(2 ^ 63 : Int) ≤ x) (hhi : x < 2 ^ 63) (hsz : ds.length * x.toNat ≤ 2 ^ 24) : Op2 c n (binaryOp .Mult) (.list ds) (.int x) (.list (List.replicate x.toNat ds).flatten) := by
  intro own A s v₁ v₂ Q E rm t o r₁ r₂ h
  obtain ⟨l, vs, rfl, hl, r⟩ := r₁.list
  obtain ⟨u, rfl⟩ := r₂.int
  obtain ⟨⟨cls, d, data, sl⟩, ho, hcl, k, hd⟩ := id hl
  simp only at hcl hd
  subst hcl hd
  have hsz' : vs.toArray.size * x.toNat ≤ 2 ^ 24 := by rw [List.size_toArray, r.length]; exact hsz
  refine wpAny_binaryOp_repeat_ref (T := "list") (U := "int") (by decide) ⟨_, ho, rfl⟩ (fun s' => typeIs_int s' x u) noFill_list_mul F.fills_int_mul F.slot_int_rmul repeat_list F.slot_int_index.lookup
    (call_meets F.slot_int_rmul (typeIs_int s x u) F.entry_int_rmul (F.args_int_rmul_2 _ _) (lm_int_rmul_list_any x u l vs.toArray k d sl)
      ⟨ho, rfl, ⟨_, ho, rfl⟩, call_meets F.slot_list_mul ⟨_, ho, rfl⟩ F.entry_list_mul (F.args_list_mul_2 _ _)
        (lm_list_mul_any l vs.toArray k d sl x u (by simp [Builtin.List.listFitsIndex]; omega) (by omega) (by simp [Builtin.List.listTooLong, sizeLine]; omega))
        ⟨ho, ?_⟩⟩)
  rw [listMul_foldl_if]
  have kk := Keeps.push s { cls := .type "list", data := .seq (List.replicate x.toNat vs).flatten.toArray }
  exact h _ _ kk (.list (o.fresh (fresh_size _)) (isList_push _ _) ((rdl_rep r _).keeps (Keeps.keep kk)))
end
section
variable {c : Cx} {n : Nat} {s₀ : Shared} {Mut : List Addr} {env : Env} {own mu : List Addr} {σ : Sg} {Q : Flow → Shared → Prop}
def noWk (σ : Sg) : Prop := ∀ x d, σ.lookup x ≠ some (.wk d)
theorem St.ownSetK {s : Shared} (y : St c s₀ Mut env own mu σ s) (hw : noWk σ) {x : Str} {a : Addr} {ds es : List D} (e : σ.lookup x = some (.ow a ds)) (hm : a ∈ mu) {h' : Heap} {ws : List Value} (hl : h'.PlainList a ws.toArray)
    (hs : ∀ b o, b ≠ a → s.heap.get? b = some o → h'.get? b = some o) (r : RdL (· ∉ own) h' ws es) (tk : Nat) :
    St c s₀ Mut env own mu ((x, .ow a es) :: σ) { s with heap := h', toks := tk } := by
  have hown : a ∈ own := y.sub a hm
  obtain ⟨oa, xa, na, hoa, hda⟩ := y.act.ow a hown
  have ks : KSeq (· ∉ own) s.heap h' := fun b o xs n hb e d => hs b o (fun q => hb (q ▸ hown)) e
  have hL : env.locals ≠ a := fun q => by
    obtain ⟨_, o, es, ep, ho, hd, _⟩ := y.act.ns
    rw [q, hoa] at ho; cases ho; rw [hda] at hd; cases hd
  have hC : ∀ n c, (n, c) ∈ env.cells → c ≠ a := fun n c e q => by
    obtain ⟨_, o, ho, hd⟩ := y.act.cell n c e
    rw [q, hoa] at ho; cases ho; rw [hda] at hd; cases hd
  refine ⟨?_, fun b o hb eo => ?_, fun b o eo => ?_, ⟨y.act.fn, y.act.gl, y.act.bi, ?_, fun m cc eo => ?_, y.act.apart, y.act.off, fun b hb => ?_, fun z w ez => ?_, fun p q b ds' es' e1 e2 => ?_⟩, y.sub, y.chg, y.chgB⟩
  · obtain ⟨h, tk', rfl⟩ := y.same
    exact ⟨h', tk, rfl⟩
  · refine hs b o (fun q => ?_) (y.keep b o hb eo)
    subst q
    rcases y.chg b (.inr (.inr hm)) with m | m
    · exact hb m
    · rw [m] at eo; cases eo
  · refine hs b o (fun q => ?_) (y.top b o eo)
    subst q
    rw [y.chgB b (.inr (.inr hm))] at eo; cases eo
  · obtain ⟨m, o, es, ep, ho, rest⟩ := y.act.ns
    exact ⟨m, o, es, ep, hs _ _ hL ho, rest⟩
  · obtain ⟨v, o, ho, hd⟩ := y.act.cell m cc eo
    exact ⟨v, o, hs _ _ (hC _ _ eo) ho, hd⟩
  · by_cases q : b = a
    · subst q; obtain ⟨k, hk⟩ := hl; exact ⟨_, _, _, hk, rfl⟩
    · obtain ⟨o, xs, m, eo, d⟩ := y.act.ow b hb
      exact ⟨o, xs, m, hs _ _ q eo, d⟩
  · have ld : ∀ {v : Value}, Loads env s.heap z v → Loads env h' z v := fun {v} l => by
      rcases l with ⟨k1, m, ⟨o, es, ep, ho, rest⟩, e'⟩ | ⟨k1, cc, e', o, ho, hd⟩
      · exact .inl ⟨k1, m, ⟨o, es, ep, hs _ _ hL ho, rest⟩, e'⟩
      · exact .inr ⟨k1, cc, e', o, hs _ _ (hC _ _ (mem_of_lookup e')) ho, hd⟩
    rcases lookup_put ez with ⟨rfl, rfl⟩ | ⟨hz, ez2⟩
    · obtain ⟨v, l, ev, _, _⟩ := y.act.names z _ e
      exact ⟨v, ld l, ev, hown, ws, hl, r⟩
    · obtain ⟨v, l, k⟩ := y.act.names z w ez2
      refine ⟨v, ld l, ?_⟩
      cases w with
      | fz d => exact Rd.mono (fun _ p => p) ks k
      | wk d => exact absurd ez2 (hw z d)
      | ow b ds' =>
        have hba : b ≠ a := fun q => by subst q; exact hz (y.act.inj z x b ds' ds ez2 e)
        obtain ⟨e1, m1, us, ⟨k1, l1⟩, r1⟩ := k
        exact ⟨e1, m1, us, ⟨k1, hs _ _ hba l1⟩, r1.mono (fun _ p => p) ks⟩
  · rcases lookup_put e1 with ⟨rfl, h1⟩ | ⟨n1, h1⟩ <;> rcases lookup_put e2 with ⟨rfl, h2⟩ | ⟨n2, h2⟩
    · rfl
    · cases h1; exact (y.act.inj q p a es' ds h2 e).symm
    · cases h2; exact y.act.inj p q a ds' ds h1 e
    · exact y.act.inj p q b ds' es' h1 h2
theorem St.ownSet {s : Shared} (y : St c s₀ Mut env own mu σ s) (hw : noWk σ) {x : Str} {a : Addr} {ds es : List D} (e : σ.lookup x = some (.ow a ds)) (hm : a ∈ mu) {h' : Heap} {ws : List Value} (hl : h'.PlainList a ws.toArray) (hs : Heap.SameBut a s.heap h') (r : RdL (· ∉ own) s.heap ws es) (tk : Nat) :
    St c s₀ Mut env own mu ((x, .ow a es) :: σ) { s with heap := h', toks := tk } :=
  y.ownSetK hw e hm hl (fun b o hb e => (hs.2 b hb).trans e) (r.mono (fun _ p => p) fun b o xs n hb e d => (hs.2 b fun q => hb (q ▸ y.sub a hm)).trans e) tk
theorem plain_upd {h : Heap} {a : Addr} {xs : List Value} (hl : h.PlainList a xs.toArray) (f : Array Value → Array Value) {ys : List Value} (e : f xs.toArray = ys.toArray) : (h.update a (Obj.mapSeq f)).PlainList a ys.toArray := by
  obtain ⟨n, ho⟩ := hl
  have := PySem.IsL.update ho f
  rw [e] at this
  exact ⟨_, this⟩
/-- a method that changes an own list -/
def Eff (c : Cx) (n : Nat) (id : String) (ds args es : List D) : Prop :=
  ∀ (own : List Addr) (a : Addr) (A : Around) (s : Shared) (vs us : List Value) (Q : Value → Shared → Prop) (E : Value → Shared → Prop), Rm n A → a ∈ own → s.heap.PlainList a vs.toArray → RdL (· ∉ own) s.heap vs ds → RdL (· ∉ own) s.heap us args →
    (∀ h' ws, h'.PlainList a (List.toArray ws) → Heap.SameBut a s.heap h' → RdL (· ∉ own) s.heap ws es → Q .none { s with heap := h' }) → wpAny c.M A (call (.builtin id) (.ref a :: us)) Q E s
theorem PS.ownMeth {x name : Str} {id : String} {args : List Expr} {p apos pos epos : Pos} {rest : List Stmt} {a : Addr} {ds ds' es : List D} (ex : σ.lookup x = some (.ow a ds)) (hm : a ∈ mu) (hw : noWk σ) (slot : Slot "list" name id) (hty : typeOf (.builtin id) = pure (.type "method_descriptor"))
    (pa : PAE c n env own σ args ds') (eff : Eff c n id ds ds' es)
    (q : PS c n s₀ Mut env own mu ((x, .ow a es) :: σ) rest Q)
    (hbase : attributeBase (.Name x p) name env (eval (.Name x p) env) = eval (.Name x p) env := by rfl)
    (hfew : ((backTo pos (starEach args env)).all (fun x => !x.1) && (backToKw pos (keywordEach [] env)).all (fun x => x.1.isSome)
      && decide (args.length + ([] : List Keyword).length + (if ([] : List Keyword).isEmpty then 0 else 1) < 30)) = true := by rfl)
    (hline : (apos.endLine == pos.line) = true := by rfl) (hns : noStars args = true := by rfl) (hi : interactive env = false := by rfl) (hd : (x == ("__debug__" : Str)) = false := by decide) :
    PS c n s₀ Mut env own mu σ (.Expr (.Call (.Attribute (.Name x p) name apos) args [] pos) epos :: rest) Q := by
  intro A s E rm y
  refine wpAny_execs_cons (wpAny_Expr (wpAny_Call_method hbase hfew hline F.plainAttrs_list slot hty ?_) hi)
  obtain ⟨v, l, rfl, ha, vs, pl, r⟩ := y.act.names x _ ex
  refine wpAny_Name (loads_any y.act.fn l ⟨pl.isList.typeIs, fun b e => ?_, ?_⟩) hd
  · cases e; obtain ⟨k, hk⟩ := pl; exact ⟨_, hk, rfl⟩
  · show wpAny c.M A (callWith pos (.builtin id) [.ref a] (backTo pos (starEach args env)) (backToKw pos (keywordEach [] env))) _ E s
    refine callWith_other (fun a e => by cases e) (by rw [noStars_any hns]; rfl) (evalArgs_any (noStars_any hns) rfl ?_)
    refine pa A s pos _ E rm y.top y.act fun us s₁ k₁ r₁ => wpAny_evalAll_nil ?_
    have y1 := y.keeps k₁
    have pl1 := pl.at fun o q => Keeps.keep k₁ _ o q
    refine eff own a A s₁ vs us _ E rm ha pl1 (r.keeps (Keeps.keep k₁)) r₁ fun h' ws hl' hs' rw' => ?_
    show wpAny c.M A (execs rest env) Q E _
    exact q A _ E rm (y1.ownSet hw ex hm hl' hs' rw' s₁.toks)
end
section
variable {c : Cx} {n : Nat}
theorem eff_append {ds : List D} {d : D} (hz : ds.length ≤ 1000000) : Eff c n "list.append" ds [d] (ds ++ [d]) := by
  intro own a A s vs us Q E rm ha pl r ra h
  cases ra with
  | cons r1 rb =>
    cases rb
    refine wpAny_list_append_plain pl (fun h' hl' hs' => h h' (vs ++ [_]) (by simpa using hl') hs' (r.append (.one r1))) (by rw [List.size_toArray, r.length, sizeLine_eq]; omega)
theorem eff_insert {ds : List D} {i : Int} {d : D} (h0 : 0 ≤ i) (h1 : i ≤ ds.length) (hz : ds.length ≤ 1000000) : Eff c n "list.insert" ds [.int i, d] (ds.take i.toNat ++ d :: ds.drop i.toNat) := by
  intro own a A s vs us Q E rm ha pl r ra h
  cases ra with
  | cons r1 rb =>
    cases rb with
    | cons r2 rc =>
      cases rc
      cases r1 with
      | int i u =>
        obtain ⟨k, hk⟩ := id pl
        have hlen := r.length
        refine call_meets PySem.F.slot_list_insert ⟨_, hk, rfl⟩ PySem.F.entry_list_insert (PySem.F.args_list_insert_3 _ _ _) (PySem.AutoSeq1.list_insert_list_int_val_1 a _ k i u _ (by simp [Builtin.List.listFitsIndex]; omega) (by rw [List.size_toArray, sizeLine_eq]; omega)) ⟨hk, ?_⟩
        refine h _ (vs.take i.toNat ++ _ :: vs.drop i.toNat) (plain_upd pl _ ?_) (Heap.SameBut.update ..) ((r.take _).append (.cons r2 (r.drop _)))
        have e : (if i < 0 then (i + (vs.toArray.size : Int)).toNat else min i.toNat vs.toArray.size) = i.toNat := by
          rw [if_neg (by omega), List.size_toArray]; omega
        show (vs.toArray.extract 0 (if i < 0 then (i + (vs.toArray.size : Int)).toNat else min i.toNat vs.toArray.size)).push _ ++ vs.toArray.extract (if i < 0 then (i + (vs.toArray.size : Int)).toNat else min i.toNat vs.toArray.size) = _
        rw [e, kl_ins_eq]
end
end Mine
namespace Mine
theorem Act.setL {env : Env} {own : List Addr} {σ : Sg} {h h' : Heap} (x : Act env own σ h) {y : Str} {v : Value} {d : D} {m : Str → Option Value} (hl : env.kindOf y = some .local) (hm : h.Ns env.locals m)
    (hn : h'.Ns env.locals (fun z => if z = y then some v else m z)) (hs : Heap.SameBut env.locals h h') (hu : Rd (· ∉ own) h v d) : Act env own ((y, .fz d) :: σ) h' := by
  have hna : ∀ o xs n, h.get? env.locals = some o → o.data ≠ Data.seq xs n := by
    intro o xs n e d
    obtain ⟨o', es, ep, ho, hd, _⟩ := hm
    rw [ho] at e; cases e
    rw [hd] at d; cases d
  refine ⟨x.fn, x.gl, x.bi, ⟨_, hn⟩, fun n c e => ?_, x.apart, x.off, fun a ha => ?_, fun z w e => ?_, fun p q a ds es e1 e2 => ?_⟩
  · obtain ⟨v, q⟩ := x.cell n c e
    exact ⟨v, q.sameBut hs (x.off n c e)⟩
  · obtain ⟨o, xs, n, e, d⟩ := x.ow a ha
    exact ⟨o, xs, n, (hs.2 a fun q => by subst q; exact hna o xs n e d).trans e, d⟩
  · rcases lookup_put e with ⟨rfl, rfl⟩ | ⟨hz, e⟩
    · exact ⟨v, .inl ⟨hl, _, hn, by simp⟩, sv_same (u := .fz d) hs hna hu⟩
    · obtain ⟨vz, l, k⟩ := x.names z w e
      refine ⟨vz, ?_, sv_same hs hna k⟩
      rcases l with ⟨k1, m', n', e'⟩ | ⟨k1, cc, e', q⟩
      · refine .inl ⟨k1, _, hn, ?_⟩
        rw [if_neg hz, ns_unique hm n']; exact e'
      · exact .inr ⟨k1, cc, e', q.sameBut hs (x.off _ _ (mem_of_lookup e'))⟩
  · rcases lookup_put e1 with ⟨rfl, h1⟩ | ⟨n1, h1⟩
    · cases h1
    · rcases lookup_put e2 with ⟨rfl, h2⟩ | ⟨n2, h2⟩
      · cases h2
      · exact x.inj p q a ds es h1 h2
theorem Act.sub {env : Env} {own : List Addr} {σ τ : Sg} {h : Heap} (x : Act env own σ h) (hs : ∀ y u, τ.lookup y = some u → σ.lookup y = some u) : Act env own τ h :=
  ⟨x.fn, x.gl, x.bi, x.ns, x.cell, x.apart, x.off, x.ow, fun y u e => x.names y u (hs y u e), fun p q a ds es e1 e2 => x.inj p q a ds es (hs _ _ e1) (hs _ _ e2)⟩
theorem lt_ne {a b : Nat} (h : a < b) : a ≠ b := Nat.ne_of_lt h
theorem lt_sz {h : Heap} {a : Addr} {o : Obj} (e : h.get? a = some o) : @LT.lt Nat _ a h.objs.size := Heap.lt_size e
/-- one own list is written -/
theorem Act.ownElse {env : Env} {own : List Addr} {σ : Sg} {h h' : Heap} (x : Act env own σ h) {D : Addr} (hD : D ∈ own) {ws : List Value} (hl : h'.PlainList D ws.toArray) (hs : Heap.SameBut D h h') (hw : noWk σ) (hn : ∀ y a ds, σ.lookup y = some (.ow a ds) → a ≠ D) : Act env own σ h' := by
  have ks : KSeq (· ∉ own) h h' := fun b o xs n hb e d => (hs.2 b fun q => hb (q ▸ hD)).trans e
  obtain ⟨oD, xD, nD, hoD, hdD⟩ := x.ow D hD
  have hL : env.locals ≠ D := fun q => by
    obtain ⟨_, o, es, ep, ho, hd, _⟩ := x.ns
    rw [q, hoD] at ho; cases ho; rw [hdD] at hd; cases hd
  have hC : ∀ n c, (n, c) ∈ env.cells → c ≠ D := fun n c e q => by
    obtain ⟨_, o, ho, hd⟩ := x.cell n c e
    rw [q, hoD] at ho; cases ho; rw [hdD] at hd; cases hd
  refine ⟨x.fn, x.gl, x.bi, ?_, fun n c e => ?_, x.apart, x.off, fun a ha => ?_, fun z w e => ?_, x.inj⟩
  · obtain ⟨m, hm⟩ := x.ns
    exact ⟨m, hm.sameBut hs hL⟩
  · obtain ⟨v, q⟩ := x.cell n c e
    exact ⟨v, q.sameBut hs (hC n c e)⟩
  · by_cases q : a = D
    · subst q; obtain ⟨k, hk⟩ := hl; exact ⟨_, _, _, hk, rfl⟩
    · obtain ⟨o, xs, n, e, d⟩ := x.ow a ha
      exact ⟨o, xs, n, (hs.2 a q).trans e, d⟩
  · obtain ⟨v, l, k⟩ := x.names z w e
    refine ⟨v, ?_, ?_⟩
    · rcases l with ⟨k1, m, hn, e'⟩ | ⟨k1, cc, e', q⟩
      · exact .inl ⟨k1, m, hn.sameBut hs hL, e'⟩
      · exact .inr ⟨k1, cc, e', q.sameBut hs (hC _ _ (mem_of_lookup e'))⟩
    · cases w with
      | fz d => exact Rd.mono (fun _ p => p) ks k
      | wk d => exact absurd e (hw z d)
      | ow b ds' =>
        obtain ⟨e1, m1, us, ⟨k1, l1⟩, r1⟩ := k
        exact ⟨e1, m1, us, ⟨k1, (hs.2 b (hn z b ds' e)).trans l1⟩, r1.mono (fun _ p => p) ks⟩
/-- the tests of a comprehension -/
def PTs (c : Cx) (n : Nat) (env : Env) (own : List Addr) (σ : Sg) (ifs : List Expr) (b : Bool) : Prop :=
  ∀ (A : Around) (s : Shared) (Q : Bool → Shared → Prop) (E : Value → Shared → Prop), Rm n A → c.B.StaysIn s.heap → Act env own σ s.heap → (∀ s', Keeps s s' → Q b s') →
    wpAny c.M A (forIn ifs true fun t r => if r = true then do let ok ← isTrue t env (eval t env); pure (ForInStep.yield ok) else pure (ForInStep.yield r)) Q E s
theorem PTs.nil {c : Cx} {n : Nat} {env : Env} {own : List Addr} {σ : Sg} : PTs c n env own σ [] true := fun _ s _ _ _ _ _ h => wpAny_tests_nil (h s (Keeps.refl s))
theorem PTs.one {c : Cx} {n : Nat} {env : Env} {own : List Addr} {σ : Sg} {t : Expr} {b : Bool} (p : PT c n env own σ t b) : PTs c n env own σ [t] b := fun A s _ E rm t a h => wpAny_tests_one (p A s _ E rm t a h)
/-- what the block sees of the frame -/
structure Seen (env : Env) (scope : Scope) (cl : List (Str × Addr)) (x : Str) (σ τ : Sg) : Prop where
  clos : closureFor scope env = pure cl
  kind : scope.kind = .function
  nocell : ∀ y ∈ scope.names, y.2 ≠ .cell
  locs : ∀ y ∈ scope.names, y.2 = .local → scope.names.lookup y.1 = some .local
  var : scope.names.lookup x = some .local
  nodup : (cl.map (·.1)).Nodup
  old : cl.map (fun p => env.cells.lookup p.1) = cl.map fun p => some p.2
  now : ∀ p ∈ cl, (relabel scope env).names.lookup p.1 = some .cell ∧ (env.kindOf p.1 = some .cell ∨ env.kindOf p.1 = some .free)
  sub : ∀ p ∈ τ, (cl.lookup p.1).isSome = true ∧ τ.lookup p.1 = some p.2 ∧ σ.lookup p.1 = some p.2 ∧ (∀ d, p.2 ≠ .wk d)
  new : τ.lookup x = none
theorem cl_old {env : Env} {cl : List (Str × Addr)} (h : cl.map (fun p => env.cells.lookup p.1) = cl.map fun p => some p.2) : ∀ p ∈ cl, env.cells.lookup p.1 = some p.2 := by
  intro p hp
  obtain ⟨i, hi, e⟩ := List.getElem_of_mem hp
  have := congrArg (fun l => l[i]?) h
  simp only [List.getElem?_map, List.getElem?_eq_getElem hi, Option.map_some, Option.some.injEq] at this
  rwa [e] at this
theorem Seen.act {env : Env} {scope : Scope} {cl : List (Str × Addr)} {x : Str} {σ τ : Sg} (S : Seen env scope cl x σ τ) {own : List Addr} {h : Heap} (a : Act env own σ h) {C : Addr} (hC : ∃ m, h.Ns C m) (hCn : ∀ n c, (n, c) ∈ cl → c ≠ C) : Act (compEnvC scope cl C env) own τ h := by
  have ho := cl_old S.old
  refine ⟨S.kind, a.gl, a.bi, hC, fun n c e => a.cell n c (mem_of_lookup (ho _ e)), ?_, hCn, a.ow, fun y u e => ?_, fun p q b ds es e1 e2 => ?_⟩
  · have hnd := S.nodup
    show cl.Pairwise fun x y => x.2 ≠ y.2
    have hm : ∀ p ∈ cl, p ∈ env.cells := fun p hp => mem_of_lookup (ho p hp)
    have key : ∀ l : List (Str × Addr), (∀ p ∈ l, p ∈ env.cells) → (l.map (·.1)).Nodup → l.Pairwise fun x y => x.2 ≠ y.2 := by
      intro l
      induction l with
      | nil => intro _ _; exact .nil
      | cons p l ih =>
        intro hm hn
        rw [List.map_cons, List.nodup_cons] at hn
        refine .cons (fun q hq e => ?_) (ih (fun q hq => hm q (List.mem_cons_of_mem _ hq)) hn.2)
        have h1 : p.1 = q.1 := by
          have hp := hm p List.mem_cons_self
          have hq' := hm q (List.mem_cons_of_mem _ hq)
          obtain ⟨p1, p2⟩ := p
          obtain ⟨q1, q2⟩ := q
          simp only at e ⊢
          subst e
          exact name_of_addr a.apart hp hq'
        exact hn.1 (h1 ▸ List.mem_map.mpr ⟨q, hq, rfl⟩)
    exact key cl hm hnd
  · obtain ⟨h1, h2, h3, h4⟩ := S.sub (y, u) (mem_of_lookup e)
    obtain ⟨cc, hcc⟩ := Option.isSome_iff_exists.mp h1
    obtain ⟨v, l, k⟩ := a.names y u h3
    refine ⟨v, .inr ⟨.inl (S.now _ (mem_of_lookup hcc)).1, cc, hcc, ?_⟩, k⟩
    rcases l with ⟨k1, m', n', e'⟩ | ⟨k1, c', e', q⟩
    · rcases (S.now _ (mem_of_lookup hcc)).2 with q | q <;> (simp only at q; rw [q] at k1; cases k1)
    · have := ho _ (mem_of_lookup hcc)
      simp only at this
      rw [e'] at this; cases this; exact q
  · exact a.inj p q b ds es (S.sub _ (mem_of_lookup e1)).2.2.1 (S.sub _ (mem_of_lookup e2)).2.2.1
theorem Act.growD {env : Env} {own : List Addr} {σ : Sg} {h h' : Heap} (x : Act env own σ h) {D : Addr} (hD : h.get? D = none) (hk : ∀ b o, h.get? b = some o → h'.get? b = some o) (hl : ∃ xs, h'.PlainList D xs) : Act env (D :: own) σ h' := by
  have y := x.keeps hk
  refine ⟨y.fn, y.gl, y.bi, y.ns, y.cell, y.apart, y.off, fun a ha => ?_, fun z w e => ?_, y.inj⟩
  · rcases List.mem_cons.mp ha with rfl | ha
    · obtain ⟨xs, n, e⟩ := hl; exact ⟨_, _, _, e, rfl⟩
    · exact y.ow a ha
  · obtain ⟨v, l, q⟩ := x.names z w e
    have up : ∀ b, (b ∉ own ∧ b ≠ D) → b ∉ D :: own := fun b p m => by
      rcases List.mem_cons.mp m with e | m
      · exact p.2 e
      · exact p.1 m
    refine ⟨v, l.keeps hk, ?_⟩
    cases w with
    | fz d => exact Rd.mono up (kseq_of hk) (rd_strong hD q)
    | wk d =>
      rcases q with q | ⟨b, us, ds, e1, e2, l, r⟩
      · exact .inl (Rd.mono up (kseq_of hk) (rd_strong hD q))
      · exact .inr ⟨b, us, ds, e1, e2, (kseq_of hk : KSeq (fun _ => True) _ _).isList trivial l, RdL.mono up (kseq_of hk) (rdl_strong hD r)⟩
    | ow b ds =>
      obtain ⟨e, m, us, l, r⟩ := q
      exact ⟨e, List.mem_cons_of_mem _ m, us, l.at fun o q => hk _ o q, RdL.mono up (kseq_of hk) (rdl_strong hD r)⟩
theorem Act.low {env : Env} {own : List Addr} {σ : Sg} {h : Heap} (x : Act env own σ h) {y : Str} {a : Addr} {ds : List D} (e : σ.lookup y = some (.ow a ds)) : a ∈ own := by
  obtain ⟨v, _, _, m, _⟩ := x.names y _ e
  exact m
section
variable {c : Cx} {n : Nat} {env : Env} {own : List Addr} {σ : Sg}
/-- the block -/
theorem comp_core {α : Type} {A : Around} {E : Value → Shared → Prop} {elt iter : Expr} {x : Str} {px pos : Pos} {ifs : List Expr} {scope : Scope} {cl : List (Str × Addr)} {τ : Sg} (S : Seen env scope cl x σ τ) (as : List α) (g : α → D) (p : α → Bool) (f : α → D) {s₁ : Shared} {oi : Obj}
    {F : Addr → Prop} (rm : Rm n A) (t : c.B.StaysIn s₁.heap) (a : Act env own σ s₁.heap) (hoi : ∃ vs, oi.data = Data.fields vs) (wk : Wk c A own F (s₁.heap.push oi) s₁.heap.objs.size (as.map g)) (hz : as.length ≤ 1000000)
    (tests : ∀ y ∈ as, ∀ C own', PTs c n (compEnvC scope cl C env) own' ((x, .fz (g y)) :: τ) ifs (p y))
    (elts : ∀ y ∈ as, p y = true → ∀ C own', PE c n (compEnvC scope cl C env) own' ((x, .fz (g y)) :: τ) elt (f y))
    {RR : Value → Addr → Result → Shared → Prop}
    (hRR : ∀ D C h' tk m' ws, s₁.heap.get? D = none → s₁.heap.get? C = none → D ≠ C → D ∉ own → h'.Ns C m' → h'.PlainList D (List.toArray ws) → RdL (· ∉ D :: own) h' ws ((as.filter p).map f) → (∀ b o, s₁.heap.get? b = some o → h'.get? b = some o) →
      RR (.ref D) C (.ok .next) { s₁ with heap := h', toks := tk }) :
    wpAny c.M A (newList []) (fun acc s₃ => wpAny c.M A (newFunctionEnv scope env.globals cl [] env.qual none .none (some env)) (fun cenv s₄ =>
      codeAny c.M A (.compStart (.ListComp elt [⟨.Name x px, iter, ifs, 0⟩] scope pos) 0 (.ref s₁.heap.objs.size) acc { cenv with scope := relabel scope env }) (RR acc cenv.locals) s₄) E s₃) E { s₁ with heap := s₁.heap.push oi } := by
  obtain ⟨fp, P, Sx, W, hS0, hfp, hIf, hrd⟩ := wk.ex
  generalize hh1 : s₁.heap.push oi = h1 at hS0 hfp hrd ⊢
  have k1 : ∀ b o, s₁.heap.get? b = some o → h1.get? b = some o := fun b o e => hh1 ▸ Heap.get?_push_of_some oi e
  have hI1 : h1.get? s₁.heap.objs.size = some oi := hh1 ▸ Heap.get?_push_size _ (by obtain ⟨cls, dict, data, sl⟩ := oi; obtain ⟨vs, e⟩ := hoi; simp only at e; subst e; rfl)
  have hsz1 : h1.objs.size = s₁.heap.objs.size + 1 := by rw [← hh1, Heap.size_push]
  have fresh1 : ∀ b, s₁.heap.objs.size ≤ b → s₁.heap.get? b = none := fun b hb => by
    cases e : s₁.heap.get? b with
    | none => rfl
    | some o' => exact absurd (Heap.lt_size e) (Nat.not_lt.mpr hb)
  have a1 := a.keeps k1
  refine wpAny_newObj_type (wpAny_newFunctionEnv S.nocell (by intro y hy; simp at hy) (fun h₁ hns₁ hsb₁ => ?_) S.kind)
  dsimp only at hns₁ hsb₁ ⊢
  generalize hH2 : h1.push { cls := .type "list", dict := none, data := .seq ([] : List Value).toArray } = H2 at hns₁ hsb₁ ⊢
  have hC : H2.objs.size = h1.objs.size + 1 := by rw [← hH2, Heap.size_push]
  generalize hDD : h1.objs.size = D at hC hH2 hsz1 ⊢
  generalize hCC : H2.objs.size = C at hC hns₁ hsb₁ ⊢
  generalize hII : s₁.heap.objs.size = I at *
  have hDI : D ≠ I := by omega
  have hCI : C ≠ I := by omega
  have hDC : D ≠ C := by omega
  have hD0 : h1.get? D = none := hDD ▸ fresh_size _
  have hDown : D ∉ own := OwnIn.fresh a1.ow hD0
  have old : ∀ b o, h1.get? b = some o → h₁.get? b = some o := fun b o e => by
    have hb := lt_sz e
    exact hsb₁.extBut b o (lt_ne (by omega)) (Heap.get?_push_of_some _ (hH2 ▸ Heap.get?_push_of_some _ e))
  have hacc : h₁.PlainList D #[] := ⟨_, hsb₁.extBut _ _ hDC (Heap.get?_push_of_some _ (hH2 ▸ hDD ▸ Heap.get?_push_size _ rfl))⟩
  have hfpD : ∀ b ∈ fp, b ≠ D ∧ b ≠ C := fun b hb => by
    have : @LT.lt Nat _ b h1.objs.size := by
      rcases hfp b hb with rfl | ⟨_, o, xs, m, e, _⟩
      · exact lt_sz hI1
      · exact lt_sz e
    exact ⟨lt_ne (by omega), lt_ne (by omega)⟩
  have actD : Act env (D :: own) σ h₁ := a1.growD hD0 old ⟨_, hacc⟩
  have hclC : ∀ m cc, (m, cc) ∈ cl → cc ≠ C := fun m cc e => by
    obtain ⟨_, o, ho, _⟩ := a1.cell m cc (mem_of_lookup (cl_old S.old _ e))
    have := lt_sz ho
    exact lt_ne (by omega)
  have hclI : ∀ m cc, (m, cc) ∈ cl → cc ≠ I := fun m cc e q => by
    obtain ⟨_, o, ho, hd⟩ := a1.cell m cc (mem_of_lookup (cl_old S.old _ e))
    obtain ⟨vs, hoi⟩ := hoi
    rw [q, hI1] at ho; cases ho; rw [hoi] at hd; cases hd
  have actC : Act (compEnvC scope cl C env) (D :: own) τ h₁ := S.act actD ⟨_, hns₁⟩ hclC
  have hrdD : ∀ i v y, P i v → as[i]? = some y → Rd (· ∉ D :: own) h1 v (g y) := fun i v y hp hy => by
    refine Rd.weak (rd_strong hD0 (hrd i v (g y) hp (by rw [List.getElem?_map, hy]; rfl))) fun b q m => ?_
    rcases List.mem_cons.mp m with e | m
    · exact q.2 e
    · exact q.1 m
  have hwτ : ∀ (y : Str) (u : Mine.D), noWk ((y, .fz u) :: τ) := by
    intro y u z d e
    rcases lookup_put e with ⟨_, q⟩ | ⟨_, q⟩
    · cases q
    · exact (S.sub _ (mem_of_lookup q)).2.2.2 d rfl
  have howτ : ∀ y b ds, τ.lookup y = some (.ow b ds) → b ≠ D := fun y b ds e q => hDown (q ▸ a.low ((S.sub _ (mem_of_lookup e)).2.2.1))
  have loop : ∀ s₃ : Shared, s₃ = { s₁ with heap := h₁, toks := s₁.toks + ([] : List (Str × Value)).length } →
      codeAny c.M A (.compLoop (.ListComp elt [⟨.Name x px, iter, ifs, 0⟩] scope pos) 0 (.ref I) (.ref D) (compEnvC scope cl C env)) (RR (.ref D) C) s₃ := by
    rintro s₃ rfl
    refine codeAny_compLoop_tests
      (fun k s' => ∃ h' tk ws i, s' = { s₁ with heap := h', toks := tk } ∧ Sx i h' ∧ h'.PlainList D (List.toArray ws) ∧ Act (compEnvC scope cl C env) (D :: own) τ h' ∧ RdL (· ∉ D :: own) h' ws (((as.take i).filter p).map f) ∧ i ≤ as.length ∧ k = as.length + 1 - i ∧
        (∀ b o, b ≠ I → b ≠ D → b ≠ C → h1.get? b = some o → h'.get? b = some o)) ?_ (as.length + 1)
      ⟨h₁, _, [], 0, rfl, W.frame _ _ _ hS0 fun b _ o e => old b o e, hacc, actC, by simpa using RdL.nil, Nat.zero_le _, rfl, fun b o _ _ _ e => old b o e⟩
    rintro k s' ⟨H, tk, ws, i, rfl, hSi, haccH, actH, hws, hi, rfl, hk⟩
    have hIo := hIf i H hSi
    have hlenM : (as.map g).length = as.length := by simp
    have hlw : ws.length ≤ as.length := by
      rw [hws.length, List.length_map]
      exact Nat.le_trans (List.length_filter_le _ _) (by rw [List.length_take]; omega)
    have hIseq : ∀ (h' : Heap) (j : Nat), Sx j h' → ∀ o xs m, h'.get? I = some o → o.data ≠ Data.seq xs m := fun h' j hj o xs m e d => by
      obtain ⟨oI, vI, hoI, hdI⟩ := hIf j h' hj
      rw [hoI] at e; cases e; rw [hdI] at d; cases d
    by_cases hlt : i < as.length
    · refine W.item i _ _ _ (by omega) hSi fun v hA tkA hP hSA hkA => ?_
      obtain ⟨y, hy⟩ : ∃ y, as[i]? = some y := ⟨as[i], by simp [hlt]⟩
      have hym : y ∈ as := List.mem_of_getElem? hy
      have kIA : ∀ b o, b ≠ I → H.get? b = some o → hA.get? b = some o := fun b o hb e => hkA b o (by simpa using hb) e
      have actA : Act (compEnvC scope cl C env) (D :: own) τ hA := actH.sideG (hIseq H i hSi) hCI hclI kIA
      have accA : hA.PlainList D ws.toArray := haccH.at fun o e => kIA _ o hDI e
      have wsA : RdL (· ∉ D :: own) hA ws (((as.take i).filter p).map f) := hws.mono (fun _ q => q) fun b o xs m _ e d => kIA b o (fun q => hIseq H i hSi o xs m (q ▸ e) d) e
      have rv : Rd (· ∉ D :: own) hA v (g y) := by
        refine (hrdD i v y hP hy).mono (fun _ q => q) fun b o xs m hb e d => ?_
        have hbI : b ≠ I := fun q => by
          obtain ⟨vs, hoi⟩ := hoi
          rw [q, hI1] at e; cases e; rw [hoi] at d; cases d
        have hbD : b ≠ D := fun q => by rw [q, hD0] at e; cases e
        have hbC : b ≠ C := lt_ne (by have := lt_sz e; omega)
        exact kIA b o hbI (hk b o hbI hbD hbC e)
      obtain ⟨m, hm⟩ := actA.ns
      refine wpAny_assign_Name (wpAny_storeName_local (lookup_relabel_local S.var) hm (fun hB hnB hsB => ?_) (by simp [compEnvC, relabel, S.kind]))
      have actB : Act (compEnvC scope cl C env) (D :: own) ((x, .fz (g y)) :: τ) hB := actA.setL (lookup_relabel_local S.var) hm hnB hsB rv
      have kB : ∀ b o, b ≠ C → hA.get? b = some o → hB.get? b = some o := fun b o hb e => hsB.extBut b o hb e
      have accB : hB.PlainList D ws.toArray := accA.at fun o e => kB _ o hDC e
      have hCseq : ∀ o xs m, hA.get? C = some o → o.data ≠ Data.seq xs m := fun o xs m' e d => by
        obtain ⟨o', es, ep, ho, hd, _⟩ := hm
        rw [show (compEnvC scope cl C env).locals = C from rfl, e] at ho; cases ho
        rw [hd] at d; cases d
      have wsB : RdL (· ∉ D :: own) hB ws (((as.take i).filter p).map f) := wsA.mono (fun _ q => q) fun b o xs m _ e d => kB b o (fun q => hCseq o xs m (q ▸ e) d) e
      have SB : Sx (i + 1) hB := W.frame _ _ _ hSA fun b hb o e => kB b o (hfpD b hb).2 e
      have keepB : ∀ b o, b ≠ I → b ≠ D → b ≠ C → h1.get? b = some o → hB.get? b = some o := fun b o h1' h2 h3 e => kB b o h3 (kIA b o h1' (hk b o h1' h2 h3 e))
      have tB : ∀ hX : Heap, (∀ b o, b ≠ I → b ≠ D → b ≠ C → h1.get? b = some o → hX.get? b = some o) → c.B.StaysIn hX := fun hX hq b o e => by
        have e1 := t b o e
        have := lt_sz e1
        exact hq b o (lt_ne (by omega)) (lt_ne (by omega)) (lt_ne (by omega)) (k1 b o e1)
      refine tests y hym C (D :: own) A _ _ _ rm (tB _ keepB) actB fun s₄ k₄ => ?_
      obtain ⟨h₄, tk₄, rfl, kk₄⟩ := k₄
      have act4 := actB.keeps kk₄
      have keep4 : ∀ b o, b ≠ I → b ≠ D → b ≠ C → h1.get? b = some o → h₄.get? b = some o := fun b o h1' h2 h3 e => kk₄ b o (keepB b o h1' h2 h3 e)
      have htake := take_succ_filter p as i y hy
      cases hpy : p y with
      | false =>
        simp only [Bool.false_eq_true, if_false]
        refine ⟨as.length + 1 - (i + 1), by omega, h₄, tk₄, ws, i + 1, rfl, W.frame _ _ _ SB fun b _ o e => kk₄ b o e, accB.at fun o e => kk₄ _ o e, act4.sub fun z u e => ?_, ?_, hlt, rfl, keep4⟩
        · rw [List.lookup_cons]
          have : z ≠ x := fun q => by rw [q, S.new] at e; cases e
          rw [beq_eq_false_iff_ne.mpr this]; exact e
        · rw [htake, hpy]; simpa using wsB.keeps kk₄
      | true =>
        simp only [if_true]
        refine elts y hym hpy C (D :: own) A _ _ _ rm (tB _ keep4) act4 fun v₅ s₅ k₅ r₅ => ?_
        obtain ⟨h₅, tk₅, rfl, kk₅⟩ := k₅
        have act5 := act4.keeps kk₅
        have acc5 : h₅.PlainList D ws.toArray := (accB.at fun o e => kk₄ _ o e).at fun o e => kk₅ _ o e
        have ws5 := (wsB.keeps kk₄).keeps kk₅
        refine wpAny_list_append_plain acc5 (fun h₆ hl₆ hs₆ => ?_) (by rw [List.size_toArray, sizeLine_eq]; omega)
        have kD : KSeq (· ∉ D :: own) h₅ h₆ := fun b o xs m hb e d => (hs₆.2 b fun q => hb (q ▸ List.mem_cons_self)).trans e
        refine ⟨as.length + 1 - (i + 1), by omega, h₆, tk₅, ws ++ [v₅], i + 1, rfl, ?_, by simpa using hl₆, ?_, ?_, hlt, rfl, fun b o h1' h2 h3 e => (hs₆.2 b h2).trans (kk₅ b o (keep4 b o h1' h2 h3 e))⟩
        · exact W.frame _ _ _ SB fun b hb o e => (hs₆.2 b (hfpD b hb).1).trans (kk₅ b o (kk₄ b o e))
        · refine Act.sub (σ := (x, .fz (g y)) :: τ) (act5.ownElse List.mem_cons_self (ws := ws ++ [v₅]) (by simpa using hl₆) hs₆ (hwτ x (g y)) fun z b ds e => ?_) fun z u e => ?_
          · rcases lookup_put e with ⟨_, q⟩ | ⟨_, q⟩
            · cases q
            · exact howτ z b ds q
          · rw [List.lookup_cons]
            have : z ≠ x := fun q => by rw [q, S.new] at e; cases e
            rw [beq_eq_false_iff_ne.mpr this]; exact e
        · rw [htake, hpy]
          simp only [if_true, List.map_append, List.map_cons, List.map_nil]
          exact (ws5.append (.one r₅)).mono (fun _ q => q) kD
    · have hin : i = as.length := by omega
      subst hin
      refine W.done _ _ _ (by rw [hlenM]; exact hSi) fun hA tkA hkA => ?_
      have kIA : ∀ b o, b ≠ I → H.get? b = some o → hA.get? b = some o := fun b o hb e => hkA b o (by simpa using hb) e
      obtain ⟨m, hm⟩ := (actH.sideG (hIseq H _ hSi) hCI hclI kIA).ns
      refine hRR D C hA tkA m ws (fresh1 D (by omega)) (fresh1 C (by omega)) hDC hDown hm (haccH.at fun o e => kIA _ o hDI e) ?_ fun b o e => ?_
      · have := hws.mono (fun _ q => q) (h' := hA) fun b o xs m _ e d => kIA b o (fun q => hIseq H _ hSi o xs m (q ▸ e) d) e
        rwa [List.take_length] at this
      · have hb := lt_sz e
        exact kIA b o (lt_ne (by omega)) (hk b o (lt_ne (by omega)) (lt_ne (by omega)) (lt_ne (by omega)) (k1 b o e))
  exact codeAny_compStart_list (loop _ rfl) (W.self 0 _ _ _ (W.frame _ _ _ hS0 fun b _ o e => old b o e) (loop _ rfl))
theorem PE.listcomp {α : Type} {elt iter : Expr} {x : Str} {px pos : Pos} {ifs : List Expr} {scope : Scope} {cl : List (Str × Addr)} {τ : Sg} (S : Seen env scope cl x σ τ) (as : List α) (g : α → D) (p : α → Bool) (f : α → D) {F : Addr → Prop}
    (src : Src c n env own F σ iter (as.map g)) (hz : as.length ≤ 1000000)
    (tests : ∀ y ∈ as, ∀ C own', PTs c n (compEnvC scope cl C env) own' ((x, .fz (g y)) :: τ) ifs (p y))
    (elts : ∀ y ∈ as, p y = true → ∀ C own', PE c n (compEnvC scope cl C env) own' ((x, .fz (g y)) :: τ) elt (f y))
    (hs : ∀ x, foldedSetIterable iter env x = pure x := by intro _; rfl) : PE c n env own σ (.ListComp elt [⟨.Name x px, iter, ifs, 0⟩] scope pos) (.list ((as.filter p).map f)) := by
  intro A s Q E rm t a h
  rw [eval_ListComp]
  refine wpAny_comprehension_free (use := none) rfl hs S.clos S.kind S.locs (src A s _ E rm t a fun v s₁ k₁ it => it.iter rm.handled fun oi hoi wk => ?_)
  refine comp_core (RR := fun acc C => compPost c.M A E none Q acc C) S as g p f rm (stays_keeps t k₁) (a.keeps (Keeps.keep k₁)) hoi wk hz tests elts ?_
  intro D C h' tk m' ws hD hC hDC hDo hn hl hr hk
  refine ⟨m', hn, fun h'' hs'' => ?_⟩
  have kC : ∀ b o, b ≠ C → h'.get? b = some o → h''.get? b = some o := fun b o hb e => hs''.extBut b o hb e
  refine h (.ref D) _ (Keeps.trans k₁ ⟨h'', tk, rfl, fun b o e => kC b o (by rintro rfl; rw [hC] at e; cases e) (hk b o e)⟩) ?_
  refine .list hDo (hl.isList.extBut hs''.extBut hDC) (hr.mono (fun b q m => q (List.mem_cons_of_mem _ m)) fun b o xs m _ e d => kC b o (fun q => ?_) e)
  obtain ⟨o', es, ep, ho, hd, _⟩ := hn
  rw [q, ho] at e; cases e; rw [hd] at d; cases d
end
end Mine
namespace Mine
abbrev Sg.v (σ : Sg) (x : Str) : Option SV := List.lookup x σ
theorem zip_back {α β : Type} : ∀ l : List (α × β), (l.map (·.1)).zip (l.map (·.2)) = l
  | [] => rfl
  | (a, b) :: l => by simp [zip_back l]
theorem Cl.df {c : Cx} {f : Addr} {fd : FuncData} {body : List Stmt} (F : FnAt c f fd body) (names : List Str) (bs : List D) {ds : List D} {kds : List (Str × D)} {r : D} {m : Nat}
    (hbind : ∀ (own : List Addr) (h : Heap) (vs : List Value) (kvs : List (Str × Value)), RdIL own h vs ds → KwI own h kvs kds → ∃ bl, peek c.K ⟨c.prog, c.w.params⟩ (bindArgs fd ⟨vs, kvs⟩) = some bl ∧ bl.map (·.1) = names ∧ RdIL own h (bl.map (·.2)) bs)
    (hlen : names.length = bs.length) (hnd : names.Nodup) (hk : kindsOk fd names = true)
    (hb : ∀ own s L, PS c m s [] (envC fd f L) own [] (sgW names bs) body (RetQ own s r)) : Cl c (m + 1) (.ref f) ds kds r := by
  refine Cl.fn F (fun own h vs kvs r r' => ?_) hlen hnd hk hb
  obtain ⟨bl, e, h1, h2⟩ := hbind own h vs kvs r r'
  exact ⟨bl.map (·.2), by rw [e, ← h1, zip_back], h2⟩
theorem ClS.df {c : Cx} {f : Addr} {fd : FuncData} {body : List Stmt} (F : FnAt c f fd body) (names : List Str) (bs : List D) {ds : List D} {r : D} {m : Nat}
    (hbind : ∀ (own : List Addr) (h : Heap) (vs : List Value), RdL (· ∉ own) h vs ds → ∃ bl, peek c.K ⟨c.prog, c.w.params⟩ (bindArgs fd ⟨vs, []⟩) = some bl ∧ bl.map (·.1) = names ∧ RdL (· ∉ own) h (bl.map (·.2)) bs)
    (hlen : names.length = bs.length) (hnd : names.Nodup) (hk : kindsOk fd names = true)
    (hb : ∀ own s L, PS c m s [] (envC fd f L) own [] (sgF names bs) body (RetQ own s r)) : ClS c (m + 1) (.ref f) ds r := by
  refine ClS.fn F (fun own h vs r => ?_) hlen hnd hk hb
  obtain ⟨bl, e, h1, h2⟩ := hbind own h vs r
  exact ⟨bl.map (·.2), by rw [e, ← h1, zip_back], h2⟩
theorem PS.nilW {c : Cx} {n : Nat} {s₀ : Shared} {Mut : List Addr} {env : Env} {own mu : List Addr} {σ : Sg} {J : Nat → Sg → Prop} {k : Nat} (k' : Nat) (hk : k' < k) (h : J k' σ) :
    PS c n s₀ Mut env own mu σ [] (fun f s' => f = .next ∧ ∃ k' σ'', k' < k ∧ J k' σ'' ∧ St c s₀ Mut env own mu σ'' s') := PS.nil fun _ st => ⟨rfl, k', σ, hk, h, st⟩
theorem PS.nilF {c : Cx} {n : Nat} {s₀ : Shared} {Mut : List Addr} {env : Env} {own mu : List Addr} {σ : Sg} {J : Sg → Prop} (h : J σ) :
    PS c n s₀ Mut env own mu σ [] (fun f s' => f = .next ∧ ∃ σ'', J σ'' ∧ St c s₀ Mut env own mu σ'' s') := PS.nil fun _ st => ⟨rfl, σ, h, st⟩
theorem dLists_get {as : List (List Int)} {i : Nat} (h : i < as.length) : (dLists as)[i]? = some (.list (dInts (as.getD i []))) := by
  unfold dLists; rw [List.getElem?_map, List.getD_eq_getElem?_getD, List.getElem?_eq_getElem h]; rfl
end Mine
namespace Mine
theorem bInts_eq (b : Array UInt8) : KBw.bInts b = b.toList.map fun c => (c.toNat : Int) := rfl
/-- the bytes of ints -/
def toB (ks : List Int) : List UInt8 := ks.map fun k => k.toNat.toUInt8
theorem bInts_toB {b : Array UInt8} {ks : List Int} (h : KBw.bInts b = ks) : b.toList = toB ks := by
  subst h
  rw [bInts_eq, toB, List.map_map]
  conv => lhs; rw [← List.map_id b.toList]
  refine List.map_congr_left fun c _ => ?_
  simp
-- hex
def hexCps (ks : List Int) : List Nat := ks.flatMap fun k => [Builtin.Bytes.hexDigit (k.toNat / 16), Builtin.Bytes.hexDigit (k.toNat % 16)]
theorem hex_fold (l : List UInt8) : ∀ (k : Nat) (acc : Array Nat), (l.zipIdx k).foldl (fun (out : Array Nat) (x : UInt8 × Nat) => (out.push (Builtin.Bytes.hexDigit (x.1.toNat / 16))).push (Builtin.Bytes.hexDigit (x.1.toNat % 16))) acc =
    acc ++ (l.flatMap fun c => [Builtin.Bytes.hexDigit (c.toNat / 16), Builtin.Bytes.hexDigit (c.toNat % 16)]).toArray := by
  induction l with
  | nil => intro k acc; simp
  | cons c l ih =>
    intro k acc
    rw [List.zipIdx_cons, List.foldl_cons, ih, List.flatMap_cons]
    apply Array.ext'
    simp
theorem hex_tree (b : Array UInt8) (t : Tok) : Builtin.«bytes.hex» ⟨[.bytes b t], []⟩ = retStr ⟨b.toList.zipIdx.foldl (fun (out : Array Nat) (x : UInt8 × Nat) => (out.push (Builtin.Bytes.hexDigit (x.1.toNat / 16))).push (Builtin.Bytes.hexDigit (x.1.toNat % 16))) #[]⟩ := by
  rfl
theorem hexCps_of {b : Array UInt8} {ks : List Int} (h : KBw.bInts b = ks) : (b.toList.flatMap fun c => [Builtin.Bytes.hexDigit (c.toNat / 16), Builtin.Bytes.hexDigit (c.toNat % 16)]) = hexCps ks := by
  subst h
  rw [bInts_eq, hexCps, List.flatMap_map]
  rfl
section
variable {c : Cx} {n : Nat}
theorem hexCps_length (ks : List Int) : (hexCps ks).length = 2 * ks.length := by
  unfold hexCps
  induction ks with
  | nil => rfl
  | cons k ks ih => rw [List.flatMap_cons, List.length_append, ih]; simp; omega
theorem cl_hex {ks : List Int} (hz : ks.length ≤ 1000) : Cl c n (.builtin "bytes.hex") [.bytes ks] [] (.str ⟨(hexCps ks).toArray⟩) := by
  intro own A s vs kvs Q E rm t o r rk h
  obtain ⟨v, rfl, r1⟩ := r.one'
  have e := rk.nil'; subst e
  obtain ⟨b, u, rfl, q⟩ := r1.bytes
  refine call_gives FB.slot_bytes_hex (typeIs_bytes _ _ _) FB.entry_bytes_hex (FB.args_bytes_hex_1 _) (m := .str ⟨(hexCps ks).toArray⟩) ?_ ⟨?_, h _ _ (Keeps.tok s _) (.str _ _)⟩
  · rw [hex_tree, hex_fold, hexCps_of q]
    have : (#[] : Array Nat) ++ (hexCps ks).toArray = (hexCps ks).toArray := by simp
    rw [this]
    exact gives_retStr _
  · show (hexCps ks).toArray.size ≤ sizeLine
    rw [List.size_toArray, hexCps_length, sizeLine_eq]; omega
end
-- encode
open Builtin._codecs in
theorem encodeRoad_ascii (id : String) (self : Value) (x : Str) (errors : Option Str) : encodeRoad id self x (Str.ofString "ascii") errors = (do mkBytes (← encodeNarrow id asciiCodec errors self x)) := by
  first | rfl | (unfold encodeRoad; rfl)
theorem loop_once {σ : Type} (init s1 : σ) (body : Nat → σ → Sem (ForInStep σ)) (n : Nat) (h0 : body 0 init = pure (.yield s1)) (h1 : ∀ k, body k s1 = pure (.done s1)) : (forIn (List.range' 0 (n + 1)) init body : Sem σ) = pure s1 := by
  rw [List.range'_succ, List.forIn_cons, h0, pure_bind]
  cases n with
  | zero => rfl
  | succ n => rw [List.range'_succ]; dsimp only; rw [List.forIn_cons, h1, pure_bind]
theorem fold_bytes : ∀ (l : List Nat) (acc : Array UInt8), l.foldl (fun acc y => acc ++ ([y.toUInt8] : List UInt8).toArray) acc = acc ++ (l.map fun k => k.toUInt8).toArray
  | [], acc => by simp
  | x :: l, acc => by rw [List.foldl_cons, fold_bytes l]; simp
open Builtin._codecs in
theorem narrow_ascii (id : String) (self : Value) (x : Str) (errors : Option Str) (hx : ∀ k ∈ x.cps.toList, k < 128) (hz : x.cps.size ≤ sizeLine) : encodeNarrow id asciiCodec errors self x = pure (x.cps.toList.map fun k => k.toUInt8).toArray := by
  unfold encodeNarrow
  dsimp only
  rw [Std.Legacy.Range.forIn_eq_forIn_range']
  rcases hn : x.cps.toList with _ | ⟨a, l⟩
  · have hs : ([0 : x.length] : Std.Legacy.Range).size = 0 := by
      have h0 : x.length = 0 := by show x.cps.size = 0; rw [← Array.length_toList, hn]; rfl
      simp [h0, Std.Legacy.Range.size]
    rw [hs]; rfl
  · have hs : ([0 : x.length] : Std.Legacy.Range).size = l.length + 1 := by
      have h0 : x.length = l.length + 1 := by show x.cps.size = _; rw [← Array.length_toList, hn]; rfl
      simp [h0, Std.Legacy.Range.size]
    have e0 : x.cps[0]? = some a := by rw [← Array.getElem?_toList, hn]; rfl
    have ea : a < 128 := hx a (by rw [hn]; simp)
    have en : x.cps[x.cps.size]? = none := by simp
    have ee : x.cps.extract 0 x.cps.size = x.cps := by simp
    have eb : x.cps.findIdx? (fun k => decide (k ≥ 128)) = none := by
      rw [Array.findIdx?_eq_none_iff]
      intro k hk
      have := hx k (by simpa using hk)
      simp; omega
    have ef : x.cps.foldl (fun acc y => acc ++ (asciiCodec.bytesOf y).toArray) #[] = ((a :: l).map fun k => k.toUInt8).toArray := by
      rw [← Array.foldl_toList, hn]
      exact (fold_bytes (a :: l) #[]).trans (by simp)
    rw [hs, loop_once (s1 := (x.cps.size, ((a :: l).map fun k => k.toUInt8).toArray, {}))]
    · rfl
    · dsimp only
      rw [if_neg (by simp), e0]
      dsimp only
      rw [if_pos (by simp [asciiCodec, ea]), ee, show x.cps.findIdx? asciiCodec.bad = none from eb, Option.getD_none, ee, ef, Nat.zero_add]
    · intro k
      dsimp only
      rw [if_neg (by rw [List.size_toArray, List.length_map, ← hn, Array.length_toList]; omega), en]
theorem codec_ascii (id f which : String) (u : Tok) : Builtin.Str.codecArg id f which (some (.str (Str.ofString "ascii") u)) = pure (some (Str.ofString "ascii")) := by
  unfold Builtin.Str.codecArg
  have h1 : (Str.ofString "ascii").cps.any (fun x => decide (x ≥ 128)) = false := by decide +kernel
  have h2 : (Str.ofString "ascii").cps.contains 0 = false := by decide +kernel
  show (do
    let n ← Builtin.Str.strArg id f which (.str (Str.ofString "ascii") u)
    _) = _
  have h3 : Builtin.Str.strArg id f which (.str (Str.ofString "ascii") u) = pure (Str.ofString "ascii") := by rfl
  rw [h3, pure_bind]
  simp only [h1, h2]
  rfl
open Builtin._codecs in
theorem encode_ascii_tree (x : Str) (t u : Tok) : Builtin.«str.encode» ⟨[.str x t, .str (Str.ofString "ascii") u], []⟩ = (do ret (← encodeRoad "str.encode" (.str x t) x (Str.ofString "ascii") none)) := by
  show (do
    let e ← Builtin.Str.codecArg "str.encode" "encode" "'encoding'" (some (.str (Str.ofString "ascii") u))
    _) = _
  rw [codec_ascii, pure_bind]
  rfl
section
variable {c : Cx} {n : Nat}
theorem cl_encode {cps : List Nat} (hx : ∀ k ∈ cps, k < 128) (hz : cps.length ≤ 10000) : Cl c n (.builtin "str.encode") [.str ⟨cps.toArray⟩, .str (Str.ofString "ascii")] [] (.bytes (cps.map fun (k : Nat) => (k : Int))) := by
  intro own A s vs kvs Q E rm t o r rk h
  obtain ⟨v, w, rfl, r1, r2⟩ := r.two'
  have e := rk.nil'; subst e
  obtain ⟨u, rfl⟩ := r1.str
  obtain ⟨u', rfl⟩ := r2.str
  refine call_gives F.slot_str_encode rfl F.entry_str_encode (F.args_str_encode_2 _ _) (m := .bytes (cps.map fun k => k.toUInt8).toArray) ?_ ⟨?_, h _ _ (Keeps.tok s _) (.bytes _ _ _ ?_)⟩
  · rw [encode_ascii_tree, encodeRoad_ascii, narrow_ascii _ _ _ _ (by simpa using hx) (by show cps.toArray.size ≤ _; rw [List.size_toArray, sizeLine_eq]; omega)]
    exact .of_eq rfl
  · rw [List.size_toArray, List.length_map, sizeLine_eq]; omega
  · rw [bInts_eq, List.map_map]
    refine List.map_congr_left fun k hk => ?_
    have := hx k hk
    show ((k.toUInt8.toNat : Nat) : Int) = k
    rw [Nat.toUInt8, UInt8.toNat_ofNat']
    omega
-- upper
theorem slot_upper : Slot "bytes" "upper" "bytes.upper" :=
  .of (owner := "bytes") (n := "upper") (by rw [typeLookup_type, builtinLookup_eq_fast]; kernel_rfl) (by decide +kernel) (by decide +kernel) (by decide +kernel)
    (by first | exact .inl (by decide +kernel) | exact .inr (by decide +kernel)) (by rw [isSubtype_type]; kernel_rfl)
theorem type_upper : typeOf (.builtin "bytes.upper") = pure (.type "method_descriptor") := by show builtinType _ = _; rw [builtinType_eq_fast]; kernel_rfl
theorem entry_upper : entryFor table "bytes.upper" = some Builtin.«bytes.upper» := entryFor_of_tree (by kernel_rfl)
theorem args_upper (a : Value) : argsOk "bytes.upper" ⟨[a], []⟩ := by
  unfold argsOk; rw [signature?_of (id := "bytes.upper") (n := ['r', 'e', 'p', 'p', 'u']) (o := ['s', 'e', 't', 'y', 'b']) (by kernel_rfl) FB.owner_bytes]; kernel_rfl
def upI (k : Int) : Int := if 97 ≤ k ∧ k ≤ 122 then k - 32 else k
theorem up_eq (x : UInt8) : ((Builtin.Bytes.toUpper x).toNat : Int) = upI x.toNat := by
  have h : ∀ i : Fin 256, ((Builtin.Bytes.toUpper (UInt8.ofNat i.val)).toNat : Int) = upI (i.val : Nat) := by decide +kernel
  have := h ⟨x.toNat, x.toNat_lt⟩
  simpa using this
theorem upTree (b : Array UInt8) (t : Tok) : Builtin.«bytes.upper» ⟨[.bytes b t], []⟩ = (do ret (← mkBytes (b.toList.map Builtin.Bytes.toUpper).toArray)) := by
  rfl
theorem cl_upper {ks : List Int} (hz : ks.length ≤ 10000) : Cl c n (.builtin "bytes.upper") [.bytes ks] [] (.bytes (ks.map upI)) := by
  intro own A s vs kvs Q E rm t o r rk h
  obtain ⟨v, rfl, r1⟩ := r.one'
  have e := rk.nil'; subst e
  obtain ⟨b, u, rfl, q⟩ := r1.bytes
  have hl : b.toList.length = ks.length := by rw [← q, bInts_eq, List.length_map]
  refine call_gives slot_upper (typeIs_bytes _ _ _) entry_upper (args_upper _) (m := .bytes (b.toList.map Builtin.Bytes.toUpper).toArray) (.of_eq (upTree b u)) ⟨?_, h _ _ (Keeps.tok s _) (.bytes _ _ _ ?_)⟩
  · rw [List.size_toArray, List.length_map, sizeLine_eq]; omega
  · rw [← q, bInts_eq, bInts_eq, List.map_map, List.map_map]
    exact List.map_congr_left fun x _ => up_eq x
-- translate
theorem slot_translate : Slot "bytes" "translate" "bytes.translate" :=
  .of (owner := "bytes") (n := "translate") (by rw [typeLookup_type, builtinLookup_eq_fast]; kernel_rfl) (by decide +kernel) (by decide +kernel) (by decide +kernel)
    (by first | exact .inl (by decide +kernel) | exact .inr (by decide +kernel)) (by rw [isSubtype_type]; kernel_rfl)
theorem type_translate : typeOf (.builtin "bytes.translate") = pure (.type "method_descriptor") := by show builtinType _ = _; rw [builtinType_eq_fast]; kernel_rfl
theorem entry_translate : entryFor table "bytes.translate" = some Builtin.«bytes.translate» := entryFor_of_tree (by kernel_rfl)
theorem args_translate (a b : Value) : argsOk "bytes.translate" ⟨[a, b], []⟩ := by
  unfold argsOk; rw [signature?_of (id := "bytes.translate") (n := ['e', 't', 'a', 'l', 's', 'n', 'a', 'r', 't']) (o := ['s', 'e', 't', 'y', 'b']) (by kernel_rfl) FB.owner_bytes]; kernel_rfl
theorem transTree (b tb : Array UInt8) (t u : Tok) (h : tb.size = 256) : Builtin.«bytes.translate» ⟨[.bytes b t, .bytes tb u], []⟩ =
   (if (b.map fun c => tb.getD c.toNat c) = b then (do rule "bytes.translate.unchanged"; ret (.bytes b t)) else (do ret (← mkBytes (b.map fun c => tb.getD c.toNat c)))) := by
  have h2 : ∀ id, Builtin.Bytes.bytesLike id (.bytes tb u) = pure tb := fun _ => KBd.like_eq
  have h3 : Builtin.Bytes.payload (.bytes b t) = pure b := rfl
  have h4 : (Value.bytes tb u == Value.none) = false := rfl
  have h5 : Array.filter (fun x => true) b = b := by apply Array.ext'; simp
  unfold Builtin.«bytes.translate» Builtin.Bytes.translateM
  simp [h2, h3, h, h4, h5]
  rfl
theorem cl_translate {ks tb : List Int} (hz : ks.length ≤ 10000) (ht : tb.length = 256) : Cl c n (.builtin "bytes.translate") [.bytes ks, .bytes tb] [] (.bytes (ks.map fun k => tb.getD k.toNat 0)) := by
  intro own A s vs kvs Q E rm t o r rk h
  obtain ⟨v, w, rfl, r1, r2⟩ := r.two'
  have e := rk.nil'; subst e
  obtain ⟨b, u, rfl, q⟩ := r1.bytes
  obtain ⟨b', u', rfl, q'⟩ := r2.bytes
  have hl : b.size = ks.length := by rw [← q, bInts_eq, List.length_map, Array.length_toList]
  have hl' : b'.size = 256 := by rw [← ht, ← q', bInts_eq, List.length_map, Array.length_toList]
  have key : KBw.bInts (b.map fun c => b'.getD c.toNat c) = ks.map fun k => tb.getD k.toNat 0 := by
    rw [← q, ← q', bInts_eq, bInts_eq, bInts_eq, Array.toList_map, List.map_map, List.map_map]
    refine List.map_congr_left fun x _ => ?_
    have hx : x.toNat < b'.size := by rw [hl']; exact x.toNat_lt
    show ((b'.getD x.toNat x).toNat : Int) = (b'.toList.map _).getD (Int.toNat (x.toNat : Int)) 0
    rw [Int.toNat_natCast, List.getD_eq_getElem?_getD, List.getElem?_map, Array.getElem?_toList, Array.getElem?_eq_getElem hx]
    simp [Array.getD, hx]
  by_cases he : (b.map fun c => b'.getD c.toNat c) = b
  · refine call_gives slot_translate (typeIs_bytes _ _ _) entry_translate (args_translate _ _) (m := .val (.bytes b u)) ?_ (h _ _ (Keeps.refl s) (.bytes _ _ _ (he ▸ key)))
    rw [transTree _ _ _ _ hl', if_pos he]
    exact .rule (.of_eq rfl)
  · refine call_gives slot_translate (typeIs_bytes _ _ _) entry_translate (args_translate _ _) (m := .bytes (b.map fun c => b'.getD c.toNat c)) ?_ ⟨?_, h _ _ (Keeps.tok s _) (.bytes _ _ _ key)⟩
    · rw [transTree _ _ _ _ hl', if_neg he]
      exact .of_eq rfl
    · rw [Array.size_map, sizeLine_eq]; omega
end
end Mine
namespace Mine
/-- the table that maps + and / -/
def mkTab (x y : Int) : List Int := (List.range 256).map fun (i : Nat) => if i = 43 then x else if i = 47 then y else (i : Int)
theorem makeTree (a b : Array UInt8) (t u : Tok) (h : a.size = b.size) : Builtin.«bytes.maketrans» ⟨[.bytes a t, .bytes b u], []⟩ =
   (do ret (← mkBytes ((a.toList.zip b.toList).foldl (fun t (x : UInt8 × UInt8) => t.setIfInBounds x.1.toNat x.2) ((Array.range 256).map (·.toUInt8))))) := by
  have h2 : ∀ id, Builtin.Bytes.bytesLike id (.bytes a t) = pure a := fun _ => KBd.like_eq
  have h3 : ∀ id, Builtin.Bytes.bytesLike id (.bytes b u) = pure b := fun _ => KBd.like_eq
  have h4 : ∀ id, noKeywords id ⟨[.bytes a t, .bytes b u], []⟩ = pure () := fun _ => rfl
  have h5 : checkCount "maketrans" 2 2 2 = pure () := rfl
  unfold Builtin.«bytes.maketrans» Builtin.Bytes.maketransM
  simp [h2, h3, h, h4, h5]
theorem n43 : (43 : UInt8).toNat = 43 := rfl
theorem n47 : (47 : UInt8).toNat = 47 := rfl
theorem tab_ints (x y : UInt8) : KBw.bInts ((([(43 : UInt8), 47]).zip [x, y]).foldl (fun t (p : UInt8 × UInt8) => t.setIfInBounds p.1.toNat p.2) ((Array.range 256).map (·.toUInt8))) = mkTab x.toNat y.toNat := by
  rw [List.zip_cons_cons, List.zip_cons_cons, List.zip_nil_left, List.foldl_cons, List.foldl_cons, List.foldl_nil, n43, n47]
  rw [bInts_eq, mkTab]
  apply List.ext_getElem
  · simp
  · intro i h1 h2
    have hi : i < 256 := by simpa using h2
    simp only [List.getElem_map, Array.toList_setIfInBounds, List.getElem_set, Array.toList_map, Array.toList_range, List.getElem_range]
    by_cases h47 : i = 47
    · subst h47; simp
    · by_cases h43 : i = 43
      · subst h43; simp
      · have a1 : ¬ 47 = i := fun e => h47 e.symm
        have a2 : ¬ 43 = i := fun e => h43 e.symm
        simp only [a1, a2, h43, h47, if_false]
        show ((i.toUInt8.toNat : Nat) : Int) = i
        rw [Nat.toUInt8, UInt8.toNat_ofNat']
        omega
theorem check_maketrans (a b : Value) : checkBuiltinCall "bytes.maketrans" ⟨[a, b], []⟩ = pure () := by
  first | kernel_rfl | rfl
theorem entry_maketrans : entryFor table "bytes.maketrans" = some Builtin.«bytes.maketrans» := entryFor_of_tree (by kernel_rfl)
theorem plain_maketrans : plainId "bytes.maketrans" = true := by decide +kernel
section
variable {c : Cx} {n : Nat}
theorem cl_maketrans {x y : Int} : Cl c n (.builtin "bytes.maketrans") [.bytes [43, 47], .bytes [x, y]] [] (.bytes (mkTab x y)) := by
  intro own A s vs kvs Q E rm t o r rk h
  obtain ⟨v, w, rfl, r1, r2⟩ := r.two'
  have e := rk.nil'; subst e
  obtain ⟨b, u, rfl, q⟩ := r1.bytes
  obtain ⟨b', u', rfl, q'⟩ := r2.bytes
  have hb : b.toList = [43, 47] := bInts_toB q
  obtain ⟨x', y', hb', hx, hy⟩ : ∃ x' y' : UInt8, b'.toList = [x', y'] ∧ (x'.toNat : Int) = x ∧ (y'.toNat : Int) = y := by
    rw [bInts_eq] at q'
    rcases hl : b'.toList with _ | ⟨x', _ | ⟨y', _ | _⟩⟩
    · rw [hl] at q'; simp at q'
    · rw [hl] at q'; simp at q'
    · rw [hl] at q'; simp at q'; exact ⟨x', y', rfl, q'.1, q'.2⟩
    · rw [hl] at q'; simp at q'
  have hsz : b.size = b'.size := by rw [← Array.length_toList, ← Array.length_toList, hb, hb']; rfl
  have key := tab_ints x' y'
  rw [hx, hy] at key
  refine wpAny_call (codeAny_call_builtin plain_maketrans entry_maketrans ?_)
  rw [check_maketrans]
  refine wpAny_pure ?_
  rw [makeTree _ _ _ _ hsz, hb, hb']
  generalize (([(43 : UInt8), 47]).zip [x', y']).foldl (fun t (p : UInt8 × UInt8) => t.setIfInBounds p.1.toNat p.2) ((Array.range 256).map (·.toUInt8)) = tb at key
  have hs : tb.size = 256 := by
    have := congrArg List.length key
    rw [bInts_eq, List.length_map, Array.length_toList] at this
    rw [this]; simp [mkTab]
  refine wpAny_bind (wpAny_mkBytes (wpAny_pure ?_) (by rw [hs, sizeLine_eq]; omega))
  exact h _ _ (Keeps.tok s _) (.bytes _ _ _ key)
end
section
variable {prog : Program} {w : World} {A : Around} {E : Value → Shared → Prop} {s : Shared} {K : Frag} {name : Str} {v : Value}
theorem getMethod_type {T : String} {pl : Sem Bool} {Q : Value × List Value → Shared → Prop} (X : K.In s.heap) (ht : typeOf (.type T) = pure (.type "type")) (hs : Manifest.isStub T = false)
    (e : findCls K (.type T) (.type "type") name = some (.val v)) (hh : handedIn v = true) (h : Q (v, []) { s with toks := s.toks + 1 }) : wpAny (model prog w) A (getMethod (.type T) name pl) Q E s := by
  have h1 : Looks (model prog w) s.heap (typeOf (.type T)) (.type "type") := Looks.of_pure ht
  have h2 : Looks (model prog w) s.heap (opaqueClassAbove (.type T)) none := Looks.of_pure (by unfold opaqueClassAbove; dsimp only; rw [hs]; rfl)
  have h3 : findIn K (.type "type") "__getattribute__" = some (some (.builtin "type.__getattribute__")) := type_tga
  unfold getMethod specialOf
  refine wpAny_bind (wpAny_bind (h1.here ((looks_findIn X h3).here ?_)))
  dsimp only
  rw [if_pos canon_tga]
  refine wpAny_bind (wpAny_mono (Q := fun v => Q (v, [])) (E := E) ?_ (fun _ _ z => wpAny_pure z) fun _ _ z => z)
  refine cls_open X h2 h1 h3 (looks_hook X (r := none) (by rfl)) (by show subIn K _ _ = _; rfl) e (wpAny_pure ?_)
  show wpAny _ _ (handedOut v) _ _ _
  rw [handedOut_of hh]
  exact wpAny_pure h
end
section
variable {c : Cx} {n : Nat} {env : Env} {own : List Addr} {σ : Sg}
/-- a static method of a type -/
theorem PE.smeth {o : Expr} {name : Str} {apos pos : Pos} {args : List Expr} {T id : String} {ds : List D} {r : D} {pl : Sem Bool} (po : PE c n env own σ o (.atom (.type T))) (ht : typeOf (.type T) = pure (.type "type")) (hs : Manifest.isStub T = false)
    (e : findCls c.K (.type T) (.type "type") name = some (.val (.builtin id))) (hh : handedIn (.builtin id) = true) (pargs : PAI c n env own σ args ds) (cl : Cl c n (.builtin id) ds [] r)
    (he : eval (.Call (.Attribute o name apos) args [] pos) env = (do
      let ov ← eval o env
      standAt apos.atName
      let (f, first) ← holding [ov] (getMethod ov name pl)
      callWith pos f first (backTo pos (starEach args env)) (backToKw pos (keywordEach [] env))) := by rfl) (hns : noStars args = true := by rfl) : PE c n env own σ (.Call (.Attribute o name apos) args [] pos) r := by
  intro A s Q E rm t a h
  refine methodCall_KW (pl := pl) (po A s _ E rm t a fun v s₁ k₁ r₁ => ?_) he
  have ev := RdI.atom (.inl r₁)
  subst ev
  have t1 := stays_keeps t k₁
  refine getMethod_type (c.tp.k.keeps t1) ht hs e hh ?_
  have k2 : Keeps s { s₁ with toks := s₁.toks + 1 } := Keeps.trans k₁ (Keeps.tok s₁ _)
  refine callWith_any (kws := []) (kds := []) (Callable.builtin id) rm (stays_keeps t k2) (a.keeps (Keeps.keep k2)) pargs PKI.nil hns fun vs kvs s' q r r' => ?_
  have k3 := Keeps.trans k2 q
  exact cl own A s' vs kvs Q E rm (stays_keeps t k3) (OwnIn.keeps a.ow (Keeps.keep k3)) r r' fun v s'' k4 r4 => h v s'' (Keeps.trans k3 k4) r4
end
end Mine
namespace Mine
/-- a def that changes its first argument, a list -/
def Fm (c : Cx) (n : Nat) (fv : Value) (ds args : List D) (kds : List (Str × D)) (es : List D) : Prop :=
  ∀ (own : List Addr) (a : Addr) (A : Around) (s : Shared) (vs us : List Value) (kvs : List (Str × Value)) (Q : Value → Shared → Prop) (E : Value → Shared → Prop), Rm n A → c.B.StaysIn s.heap → OwnIn own s.heap → a ∈ own → c.B.get? a = none →
    s.heap.PlainList a vs.toArray → RdL (· ∉ own) s.heap vs ds → RdL (· ∉ own) s.heap us args → KwI own s.heap kvs kds →
    (∀ h' tk ws, h'.PlainList a (List.toArray ws) → (∀ b o, b ≠ a → s.heap.get? b = some o → h'.get? b = some o) → RdL (· ∉ own) h' ws es → Q .none { s with heap := h', toks := tk }) → wpAny c.M A (PySem.call fv (.ref a :: us) kvs) Q E s
theorem Fm.df {c : Cx} {f : Addr} {fd : FuncData} {body : List Stmt} (F : FnAt c f fd body) (x₀ : Str) (names : List Str) (bs : List D) {ds args es : List D} {kds : List (Str × D)} {m : Nat}
    (hbind : ∀ (own : List Addr) (h : Heap) (a : Addr) (us : List Value) (kvs : List (Str × Value)), RdL (· ∉ own) h us args → KwI own h kvs kds → ∃ bl, peek c.K ⟨c.prog, c.w.params⟩ (bindArgs fd ⟨.ref a :: us, kvs⟩) = some ((x₀, .ref a) :: bl) ∧ bl.map (·.1) = names ∧ RdL (· ∉ own) h (bl.map (·.2)) bs)
    (hnd : (x₀ :: names).Nodup) (hk : kindsOk fd (x₀ :: names) = true)
    (hb : ∀ own a s L, a ∈ own → PS c m s [a] (envC fd f L) own [a] ((x₀, .ow a ds) :: sgF names bs) body (fun fl s' => fl = .next ∧ ∃ σ', σ'.lookup x₀ = some (.ow a es) ∧ St c s [a] (envC fd f L) own [a] σ' s')) : Fm c (m + 1) (.ref f) ds args kds es := by
  intro own a A s vs us kvs Q E rm t o ha hB pl r ra rk h
  obtain ⟨bl, e, h1, h2⟩ := hbind own s.heap a us kvs ra rk
  have hl1 : names.length = bl.length := by rw [← h1, List.length_map]
  have hl2 : bs.length = bl.length := by rw [← h2.length, List.length_map]
  refine enterG F (mu := [a]) (names := x₀ :: names) (bvs := .ref a :: bl.map (·.2)) (us := .ow a ds :: bs.map SV.fz) rm t o ?_ (by simp [hl1]) hnd (fun i v u e1 e2 => ?_) (fun p q b ds' es' e1 e2 => ?_) (fun b h => by rw [List.mem_singleton.mp h]; exact ha) (fun b h => by rw [List.mem_singleton.mp h]; exact hB) hk (fun L => ?_)
  · rw [e, List.zip_cons_cons, ← h1, zip_back]
  · cases i with
    | zero =>
      simp only [List.getElem?_cons_zero, Option.some.injEq] at e1 e2
      subst e1 e2
      exact ⟨rfl, ha, vs, pl, r⟩
    | succ i =>
      simp only [List.getElem?_cons_succ] at e1 e2
      rw [List.getElem?_map] at e2
      cases hd : bs[i]? with
      | none => rw [hd] at e2; cases e2
      | some d =>
        rw [hd] at e2; cases e2
        obtain ⟨d', e', q⟩ := h2.getV e1
        rw [hd] at e'; cases e'
        exact q
  · have nf : ∀ {p b ds'}, List.lookup p ((x₀ :: names).zip (.ow a ds :: bs.map SV.fz)) = some (.ow b ds') → p = x₀ := fun {p b ds'} e => by
      rw [List.zip_cons_cons] at e
      rcases lookup_put e with ⟨q, _⟩ | ⟨_, q⟩
      · exact q
      · obtain ⟨i, _, q2⟩ := zip_lookup q
        rw [List.getElem?_map] at q2
        cases hd : bs[i]? with
        | none => rw [hd] at q2; cases q2
        | some d => rw [hd] at q2; cases q2
    rw [nf e1, nf e2]
  · intro A' s' E' rm' st
    refine wpAny_mono (hb own a s L ha A' s' E' rm' st) (fun fl s'' q => ?_) fun _ _ e => e
    obtain ⟨rfl, σ', hx, st'⟩ := q
    refine ⟨.none, .inr ⟨rfl, rfl⟩, ?_⟩
    obtain ⟨v, _, rfl, _, ws, pl', r'⟩ := st'.act.names x₀ _ hx
    obtain ⟨h', tk, e⟩ := st'.same
    subst e
    exact h h' tk ws pl' (fun b o hb e => st'.keep b o (by simpa using hb) e) r'
section
variable {c : Cx} {n : Nat} {s₀ : Shared} {Mut : List Addr} {env : Env} {own mu : List Addr} {σ : Sg} {Q : Flow → Shared → Prop}
/-- the statement f(x, ...) -/
theorem PS.callM {f x : Str} {fp xp pos epos : Pos} {args : List Expr} {kws : List Keyword} {rest : List Stmt} {fv : Addr} {a : Addr} {ds ds' es : List D} {kds : List (Str × D)} (pf : PE c n env own σ (.Name f fp) (.atom (.ref fv))) (hc : Callable c (.ref fv)) (ex : σ.lookup x = some (.ow a ds)) (hm : a ∈ mu) (hw : noWk σ)
    (pa : PAE c n env own σ args ds') (pk : PKI c n env own σ kws kds) (fm : Fm c n (.ref fv) ds ds' kds es) (q : PS c n s₀ Mut env own mu ((x, .ow a es) :: σ) rest Q)
    (hns : noStars args = true := by rfl) (hi : interactive env = false := by rfl) (hd : (x == ("__debug__" : Str)) = false := by decide) :
    PS c n s₀ Mut env own mu σ (.Expr (.Call (.Name f fp) (.Name x xp :: args) kws pos) epos :: rest) Q := by
  intro A s E rm y
  refine wpAny_execs_cons (wpAny_Expr (wpAny_Call_Name_kw (pf A s _ E rm y.top y.act fun v s₁ k₁ r₁ => ?_)) hi)
  have e := RdI.atom (.inl r₁)
  subst e
  have y1 := y.keeps k₁
  have hkw := kw_each (pos := pos) (env := env) pk.names
  obtain ⟨kk1, kk2, kk3⟩ := kw_some hkw
  have hns' : noStars (.Name x xp :: args) = true := by rw [noStars, hns]; rfl
  obtain ⟨o, fd, ho, hfd⟩ : ∃ o fd, c.K.lookup fv = some o ∧ o.data = Data.func fd := by
    cases hc with
    | fn ho hfd => exact ⟨_, _, ho, hfd⟩
  refine callWith_function_kw (o := o) (fd := fd) (evalArgs_any (noStars_any hns') kk1 ?_)
  rw [starEach_cons rfl, backTo_cons]
  refine Calls.spliced_cons ?_
  obtain ⟨v, l, rfl, ha, vs, pl, r⟩ := y1.act.names x _ ex
  refine wpAny_Name (loads_any y1.act.fn l ?_) hd
  refine pa A s₁ pos _ E rm y1.top y1.act fun us s₂ k₂ r₂ => ?_
  have y2 := y1.keeps k₂
  refine pk.vals A s₂ pos _ E rm y2.top y2.act fun ks s₃ k₃ r₃ => ?_
  have y3 := y2.keeps k₃
  rw [kk3]
  have hlen : (kds.map (·.1)).length = ks.length := by rw [r₃.length]; simp
  have z := zip_maps hlen
  refine ⟨⟨y3.top _ _ (c.tp.k _ _ ho), hfd⟩, ?_⟩
  have pl3 := (pl.at fun o q => Keeps.keep k₂ _ o q).at fun o q => Keeps.keep k₃ _ o q
  show wpAny c.M A (PySem.call (.ref fv) (.ref a :: us) _) _ E s₃
  refine fm own a A s₃ vs us _ _ E rm y3.top y3.act.ow ha (y3.chgB a (.inr (.inr hm))) pl3 ((r.keeps (Keeps.keep k₂)).keeps (Keeps.keep k₃)) (r₂.keeps (Keeps.keep k₃)) ⟨z.1, by rw [z.2]; exact r₃⟩ fun h' tk ws hl' hs' rw' => ?_
  show wpAny c.M A (execs rest env) Q E _
  exact q A _ E rm (y3.ownSetK hw ex hm hl' hs' rw' tk)
end
end Mine
namespace Mine
def noWkB (σ : Sg) : Bool := σ.all fun p => match p.2 with | .wk _ => false | _ => true
theorem noWk_of {σ : Sg} (h : noWkB σ = true) : noWk σ := fun x d e => by
  have := List.all_eq_true.mp h _ (mem_of_lookup e)
  simp at this
theorem noWk.fz {σ : Sg} {x : Str} {d : D} (h : noWk σ) : noWk ((x, .fz d) :: σ) := fun y e q => by
  rcases lookup_put q with ⟨_, q⟩ | ⟨_, q⟩
  · cases q
  · exact h y e q
theorem noWk.ow {σ : Sg} {x : Str} {a : Addr} {d : List D} (h : noWk σ) : noWk ((x, .ow a d) :: σ) := fun y e q => by
  rcases lookup_put q with ⟨_, q⟩ | ⟨_, q⟩
  · cases q
  · exact h y e q
theorem dLists_ins {as : List (List Int)} {x : List Int} {k : Nat} : (dLists as).take k ++ .list (dInts x) :: (dLists as).drop k = dLists (as.take k ++ x :: as.drop k) := by
  simp [dLists, List.map_append, List.map_take, List.map_drop]
theorem small_of {x y k : Int} {m : Nat} (hx : x.natAbs ≤ 1000000) (hy : y.natAbs ≤ 1000000) (hk : k.natAbs ≤ 1000000) (hm : Builtin.Range.rangeSize x y k = (m : Int)) (hm' : m ≤ 1000000) : Builtin.Range.small x y k = true := by
  unfold Builtin.Range.small
  rw [hm]
  simp only [Builtin.Range.rangeFitsLong, Bool.and_eq_true, Bool.or_eq_true, decide_eq_true_eq, beq_iff_eq]
  refine ⟨⟨⟨⟨by omega, by omega⟩, by omega⟩, by omega⟩, .inr ?_⟩
  split <;> simp only [Bool.and_eq_true, decide_eq_true_eq] <;> omega
section
variable {c : Cx} {n : Nat} {env : Env} {own : List Addr} {σ : Sg}
theorem Src.range3 {F : Addr → Prop} {f : Str} {fp pos : Pos} {e₁ e₂ e₃ : Expr} {x y k : Int} {m : Nat} (pf : PE c n env own σ (.Name f fp) (.atom (.type "range"))) (p₁ : PI c n env own σ e₁ (.int x)) (p₂ : PI c n env own σ e₂ (.int y)) (p₃ : PI c n env own σ e₃ (.int k))
    (hk : k ≠ 0) (hx : x.natAbs ≤ 1000000) (hy : y.natAbs ≤ 1000000) (hk' : k.natAbs ≤ 1000000) (hm : Builtin.Range.rangeSize x y k = (m : Int)) (hm' : m ≤ 1000000) (hns : noStars [e₁, e₂, e₃] = true := by rfl) :
    Src c n env own F σ (.Call (.Name f fp) [e₁, e₂, e₃] [] pos) (dInts ((List.range m).map fun i : Nat => x + (i : Int) * k)) := by
  intro A s Q E rm t a h
  refine wpAny_Call_Name_kw (pf A s _ E rm t a fun v s₁ k₁ r₁ => ?_)
  have ev := RdI.atom (.inl r₁)
  subst ev
  have hs := hns
  simp only [noStars, Bool.and_eq_true] at hs
  refine callWith_any (kws := []) (kds := []) (.type "range") rm (stays_keeps t k₁) (a.keeps (Keeps.keep k₁)) (.cons p₁ (.cons p₂ (.cons p₃ .nil hs.2.2.1) hs.2.1) hs.1) PKI.nil hns fun vs kvs s' q r r' => ?_
  obtain ⟨v, w, z, rfl, r1, r2, r3⟩ := r.three'
  have e := r'.nil'; subst e
  obtain ⟨u, rfl⟩ := r1.int
  obtain ⟨u', rfl⟩ := r2.int
  obtain ⟨u'', rfl⟩ := r3.int
  refine call_range_3 hk (h _ _ (Keeps.trans (Keeps.trans k₁ q) ⟨_, _, rfl, fun b o e => Heap.get?_push_of_some _ e⟩) (.inr (.inr ⟨_, x, y, k, _, _, _, m, rfl, IsRange.new _ _ _ _ _ _ _, ?_, hm, rfl⟩))) (.inl (PyProof.noPylong_small (by omega)))
  · exact small_of hx hy hk' hm hm'
end
end Mine
namespace Mine
/-- the standard alphabet -/
def alpha : List Int := (List.range 26).map (fun (i : Nat) => (65 + i : Int)) ++ (List.range 26).map (fun (i : Nat) => (97 + i : Int)) ++ (List.range 10).map (fun (i : Nat) => (48 + i : Int)) ++ [43, 47]
def sgn (i : Int) : Int := alpha.getD i.toNat 0
def drain (lc : Int) (lb : Nat) (out : List Int) : List Int × Nat :=
  if 6 ≤ lb then drain lc (lb - 6) (out ++ [sgn (lc / 2 ^ (lb - 6) % 64)]) else (out, lb)
termination_by lb
structure S64 where
  out : List Int
  lb : Nat
  lc : Int
def step64 (s : S64) (b : Int) : S64 := ⟨(drain ((s.lc * 256 + b) % 65536) (s.lb + 8) s.out).1, (drain ((s.lc * 256 + b) % 65536) (s.lb + 8) s.out).2, (s.lc * 256 + b) % 65536⟩
def fin64 (s : S64) : List Int := if s.lb = 2 then s.out ++ [sgn (s.lc % 4 * 16), 61, 61] else if s.lb = 4 then s.out ++ [sgn (s.lc % 16 * 4), 61] else s.out
def enc64 (ks : List Int) : List Int := fin64 (ks.foldl step64 ⟨[], 0, 0⟩)
/-- the plain writing -/
def b64 : List Int → List Int
  | a :: b :: c :: r => sgn (a / 4) :: sgn (a % 4 * 16 + b / 16) :: sgn (b % 16 * 4 + c / 64) :: sgn (c % 64) :: b64 r
  | [a, b] => [sgn (a / 4), sgn (a % 4 * 16 + b / 16), sgn (b % 16 * 4), 61]
  | [a] => [sgn (a / 4), sgn (a % 4 * 16), 61, 61]
  | [] => []
theorem drain8 (lc : Int) (out : List Int) : drain lc 8 out = (out ++ [sgn (lc / 4 % 64)], 2) := by
  rw [drain, if_pos (by decide), drain, if_neg (by decide)]; rfl
theorem drain10 (lc : Int) (out : List Int) : drain lc 10 out = (out ++ [sgn (lc / 16 % 64)], 4) := by
  rw [drain, if_pos (by decide), drain, if_neg (by decide)]; rfl
theorem drain12 (lc : Int) (out : List Int) : drain lc 12 out = (out ++ [sgn (lc / 64 % 64)] ++ [sgn (lc % 64)], 0) := by
  rw [drain, if_pos (by decide), drain, if_pos (by decide), drain, if_neg (by decide)]
  simp
theorem step0 (out : List Int) (lc b : Int) : step64 ⟨out, 0, lc⟩ b = ⟨out ++ [sgn ((lc * 256 + b) % 65536 / 4 % 64)], 2, (lc * 256 + b) % 65536⟩ := by
  unfold step64; simp only [Nat.zero_add]; rw [drain8]
theorem step2 (out : List Int) (lc b : Int) : step64 ⟨out, 2, lc⟩ b = ⟨out ++ [sgn ((lc * 256 + b) % 65536 / 16 % 64)], 4, (lc * 256 + b) % 65536⟩ := by
  unfold step64; show S64.mk (drain _ 10 _).1 (drain _ 10 _).2 _ = _; rw [drain10]
theorem step4 (out : List Int) (lc b : Int) : step64 ⟨out, 4, lc⟩ b = ⟨out ++ [sgn ((lc * 256 + b) % 65536 / 64 % 64)] ++ [sgn ((lc * 256 + b) % 65536 % 64)], 0, (lc * 256 + b) % 65536⟩ := by
  unfold step64; show S64.mk (drain _ 12 _).1 (drain _ 12 _).2 _ = _; rw [drain12]
def Oct (ks : List Int) : Prop := ∀ k ∈ ks, 0 ≤ k ∧ k < 256
theorem dvB {b k m : Int} (hk : 0 < k) (h : 0 ≤ b ∧ b < m * k) : 0 ≤ b / k ∧ b / k < m := ⟨Int.ediv_nonneg h.1 (Int.le_of_lt hk), Int.ediv_lt_of_lt_mul hk h.2⟩
theorem by1 {r b : Int} (hb : 0 ≤ b ∧ b < 256) : (r * 256 + b) % 65536 = r % 256 * 256 + b := by omega
theorem by2 {u a : Int} (ha : 0 ≤ a ∧ a < 256) : (u * 256 + a) % 256 = a := by
  rw [Int.add_comm, Int.add_mul_emod_self_right]; exact Int.emod_eq_of_lt ha.1 ha.2
theorem by3 {u a : Int} (ha : 0 ≤ a ∧ a < 256) : (u * 256 + a) / 4 % 64 = a / 4 := by
  have h := dvB (m := 64) (show (0 : Int) < 4 by decide) ha
  rw [Int.add_comm, show u * 256 = u * 64 * 4 by rw [Int.mul_assoc]; rfl, Int.add_mul_ediv_right _ _ (show (4 : Int) ≠ 0 by decide), Int.add_mul_emod_self_right]
  exact Int.emod_eq_of_lt h.1 h.2
theorem by4 (u a : Int) : (u * 256 + a) % 4 = a % 4 := by
  rw [Int.add_comm, show u * 256 = u * 64 * 4 by rw [Int.mul_assoc]; rfl, Int.add_mul_emod_self_right]
theorem mk5 {s r q : Int} (h0 : 0 ≤ r) (h1 : r < 4) (h2 : 0 ≤ q ∧ q < 16) : (q + (4 * s + r) * 16) % 64 = r * 16 + q := by
  rw [show q + (4 * s + r) * 16 = r * 16 + q + s * 64 by omega, Int.add_mul_emod_self_right]
  exact Int.emod_eq_of_lt (by omega) (by omega)
theorem mk7 {s r q : Int} (h0 : 0 ≤ r) (h1 : r < 16) (h2 : 0 ≤ q ∧ q < 4) : (q + (16 * s + r) * 4) % 64 = r * 4 + q := by
  rw [show q + (16 * s + r) * 4 = r * 4 + q + s * 64 by omega, Int.add_mul_emod_self_right]
  exact Int.emod_eq_of_lt (by omega) (by omega)
theorem by5 {a b : Int} (hb : 0 ≤ b ∧ b < 256) : (a * 256 + b) / 16 % 64 = a % 4 * 16 + b / 16 := by
  have h := mk5 (s := a / 4) (Int.emod_nonneg a (show (4 : Int) ≠ 0 by decide)) (Int.emod_lt_of_pos a (show (0 : Int) < 4 by decide)) (dvB (m := 16) (show (0 : Int) < 16 by decide) hb)
  rw [Int.mul_ediv_add_emod] at h
  rw [Int.add_comm, show a * 256 = a * 16 * 16 by rw [Int.mul_assoc]; rfl, Int.add_mul_ediv_right _ _ (show (16 : Int) ≠ 0 by decide), h]
theorem by6 (a b : Int) : (a * 256 + b) % 16 = b % 16 := by
  rw [Int.add_comm, show a * 256 = a * 16 * 16 by rw [Int.mul_assoc]; rfl, Int.add_mul_emod_self_right]
theorem by7 {b c : Int} (hc : 0 ≤ c ∧ c < 256) : (b * 256 + c) / 64 % 64 = b % 16 * 4 + c / 64 := by
  have h := mk7 (s := b / 16) (Int.emod_nonneg b (show (16 : Int) ≠ 0 by decide)) (Int.emod_lt_of_pos b (show (0 : Int) < 16 by decide)) (dvB (m := 4) (show (0 : Int) < 64 by decide) hc)
  rw [Int.mul_ediv_add_emod] at h
  rw [Int.add_comm, show b * 256 = b * 4 * 64 by rw [Int.mul_assoc]; rfl, Int.add_mul_ediv_right _ _ (show (64 : Int) ≠ 0 by decide), h]
theorem by8 (b c : Int) : (b * 256 + c) % 64 = c % 64 := by
  rw [Int.add_comm, show b * 256 = b * 4 * 64 by rw [Int.mul_assoc]; rfl, Int.add_mul_emod_self_right]
theorem b64_run : ∀ (ks : List Int) (out : List Int) (lc : Int), Oct ks → fin64 (ks.foldl step64 ⟨out, 0, lc⟩) = out ++ b64 ks
  | [], out, lc, _ => (List.append_nil out).symm
  | [a], out, lc, h => by
    have ha := h a (by simp)
    rw [List.foldl_cons, List.foldl_nil, step0, by1 ha, by3 ha]
    show out ++ [sgn (a / 4)] ++ [sgn ((lc % 256 * 256 + a) % 4 * 16), 61, 61] = _
    rw [by4, List.append_assoc]; rfl
  | [a, b], out, lc, h => by
    have ha := h a (by simp)
    have hb := h b (by simp)
    rw [List.foldl_cons, List.foldl_cons, List.foldl_nil, step0, by1 ha, by3 ha, step2, by1 hb, by2 ha, by5 hb]
    show out ++ [sgn (a / 4)] ++ [sgn (a % 4 * 16 + b / 16)] ++ [sgn ((a * 256 + b) % 16 * 4), 61] = _
    rw [by6, List.append_assoc, List.append_assoc]; rfl
  | a :: b :: c :: r, out, lc, h => by
    have ha := h a (by simp)
    have hb := h b (by simp)
    have hc := h c (by simp)
    rw [List.foldl_cons, List.foldl_cons, List.foldl_cons, step0, by1 ha, by3 ha, step2, by1 hb, by2 ha, by5 hb, step4, by1 hc, by2 hb, by7 hc, by8, b64_run r _ _ fun k hk => h k (by simp [hk]), List.append_assoc, List.append_assoc, List.append_assoc, List.append_assoc]
    rfl
theorem enc64_eq {ks : List Int} (h : Oct ks) : enc64 ks = b64 ks := by
  unfold enc64; rw [b64_run ks [] 0 h]; rfl
theorem or_shift {x b : Int} (hx : 0 ≤ x) (h0 : 0 ≤ b) (h1 : b < 256) : Builtin.bitOr (x * 2 ^ 8) b = x * 256 + b := by
  rw [bitOr_and, bitAnd_pp (by omega) h0]
  have : (x * 2 ^ 8).toNat &&& b.toNat = 0 := by
    have e : (x * 2 ^ 8).toNat = x.toNat * 2 ^ 8 := by omega
    rw [e]
    apply Nat.eq_of_testBit_eq
    intro i
    rw [Nat.testBit_and, Nat.zero_testBit, Nat.testBit_mul_two_pow]
    by_cases hi : 8 ≤ i
    · rw [Nat.testBit_lt_two_pow (x := b.toNat) (i := i) (Nat.lt_of_lt_of_le (by omega : b.toNat < 2 ^ 8) (Nat.pow_le_pow_right (by decide) hi))]
      simp
    · simp [hi]
  rw [this]
  omega
theorem alpha_len : alpha.length = 64 := by decide
theorem sgn_oct (i : Int) : 0 ≤ sgn i ∧ sgn i < 256 := by
  have h : ∀ j : Nat, 0 ≤ alpha.getD j 0 ∧ alpha.getD j 0 < 256 := by
    intro j
    by_cases hj : j < 64
    · have : ∀ k : Fin 64, 0 ≤ alpha.getD k.val 0 ∧ alpha.getD k.val 0 < 256 := by decide
      exact this ⟨j, hj⟩
    · rw [List.getD_eq_getElem?_getD, List.getElem?_eq_none (by rw [alpha_len]; omega)]; decide
  exact h i.toNat
theorem Oct.snoc {ks : List Int} {k : Int} (h : Oct ks) (hk : 0 ≤ k ∧ k < 256) : Oct (ks ++ [k]) := by
  intro x hx
  rcases List.mem_append.mp hx with hx | hx
  · exact h x hx
  · rw [List.mem_singleton.mp hx]; exact hk
end Mine
namespace Mine
section
variable {c : Cx} {n : Nat}
theorem op_isnot_plain {a b : Value} (hp : plainIs a b = true) : Op2 c n (compareOp .IsNot) (.atom a) (.atom b) (.bool (!(a == b))) := by
  intro own A s v₁ v₂ Q E rm t o r₁ r₂ h
  have e := r₁.atom
  have e' := r₂.atom
  subst e e'
  exact wpAny_isNot_plain hp (h _ _ (Keeps.refl s) (.bool _))
end
def hexU (n : Int) : Int := if n < 10 then 48 + n else 55 + n
/-- the plain base 16 writing -/
def b16 (ks : List Int) : List Int := ks.flatMap fun k => [hexU (k / 16), hexU (k % 16)]
theorem hexDigit_up {k : Nat} (h : k < 16) : Builtin.Bytes.hexDigit k < 128 ∧ upI (Builtin.Bytes.hexDigit k : Nat) = hexU k := by
  have : ∀ i : Fin 16, Builtin.Bytes.hexDigit i.val < 128 ∧ upI (Builtin.Bytes.hexDigit i.val : Nat) = hexU (i.val : Nat) := by decide
  exact this ⟨k, h⟩
theorem hexCps_lt {ks : List Int} (h : Oct ks) : ∀ k ∈ hexCps ks, k < 128 := by
  intro k hk
  unfold hexCps at hk
  obtain ⟨x, hx, hk⟩ := List.mem_flatMap.mp hk
  have := h x hx
  simp only [List.mem_cons, List.not_mem_nil, or_false] at hk
  rcases hk with rfl | rfl
  · exact (hexDigit_up (by omega)).1
  · exact (hexDigit_up (by omega)).1
theorem hexCps_up : ∀ {ks : List Int}, Oct ks → ((hexCps ks).map fun (k : Nat) => (k : Int)).map upI = b16 ks
  | [], _ => rfl
  | k :: ks, h => by
    have hk := h k (by simp)
    have ih := hexCps_up (ks := ks) fun x hx => h x (by simp [hx])
    unfold hexCps b16 at ih ⊢
    rw [List.flatMap_cons, List.flatMap_cons, List.map_append, List.map_append, ih]
    have e1 := (hexDigit_up (k := k.toNat / 16) (by omega)).2
    have e2 := (hexDigit_up (k := k.toNat % 16) (by omega)).2
    simp only [List.map_cons, List.map_nil, e1, e2]
    congr 1
    congr 1
    · congr 1; omega
    · congr 2; omega
/-- + and / turned -/
def tr (x y k : Int) : Int := if k = 43 then x else if k = 47 then y else k
theorem tab_tr {x y k : Int} (h : 0 ≤ k ∧ k < 256) : (mkTab x y).getD k.toNat 0 = tr x y k := by
  unfold mkTab tr
  rw [List.getD_eq_getElem?_getD, List.getElem?_map, List.getElem?_range (by omega)]
  simp only [Option.map_some, Option.getD_some]
  have e : ((k.toNat : Nat) : Int) = k := by omega
  by_cases h1 : k = 43
  · simp [h1]
  · by_cases h2 : k = 47
    · simp [h2]
    · have a1 : ¬ k.toNat = 43 := by omega
      have a2 : ¬ k.toNat = 47 := by omega
      simp [h1, h2, a1, a2, e]
theorem map_tab {x y : Int} {ks : List Int} (h : Oct ks) : ks.map (fun k => (mkTab x y).getD k.toNat 0) = ks.map (tr x y) :=
  List.map_congr_left fun k hk => tab_tr (h k hk)
theorem b64_oct : ∀ ks : List Int, Oct (b64 ks)
  | [] => by intro k hk; simp [b64] at hk
  | [a] => by
    intro k hk
    simp only [b64, List.mem_cons, List.not_mem_nil, or_false] at hk
    rcases hk with rfl | rfl | rfl | rfl
    · exact sgn_oct _
    · exact sgn_oct _
    · decide
    · decide
  | [a, b] => by
    intro k hk
    simp only [b64, List.mem_cons, List.not_mem_nil, or_false] at hk
    rcases hk with rfl | rfl | rfl | rfl
    · exact sgn_oct _
    · exact sgn_oct _
    · exact sgn_oct _
    · decide
  | a :: b :: c :: r => by
    intro k hk
    simp only [b64, List.mem_cons] at hk
    rcases hk with rfl | rfl | rfl | rfl | hk
    · exact sgn_oct _
    · exact sgn_oct _
    · exact sgn_oct _
    · exact sgn_oct _
    · exact b64_oct r k hk
theorem b64_len : ∀ ks : List Int, (b64 ks).length ≤ 2 * ks.length + 4
  | [] => by simp [b64]
  | [a] => by simp [b64]
  | [a, b] => by simp [b64]
  | a :: b :: c :: r => by
    have := b64_len r
    simp only [b64, List.length_cons]; omega
/-- the two signs of a writing -/
def alt : Nat → Int × Int
  | 0 => (43, 47)
  | 1 => (45, 95)
  | 2 => (126, 33)
  | 3 => (58, 64)
  | _ => (96, 35)
def wr (which : Nat) (ks : List Int) : List Int := (b64 ks).map (tr (alt which).1 (alt which).2)
theorem tr_id (k : Int) : tr 43 47 k = k := by unfold tr; split <;> (try split) <;> omega
theorem wr0 (ks : List Int) : wr 0 ks = b64 ks := by
  show (b64 ks).map (tr 43 47) = _
  rw [show tr 43 47 = id from funext fun k => tr_id k, List.map_id]
def bis (go : Nat → Bool) (lo hi : Nat) : Nat :=
  if _h : lo < hi then (if go ((lo + hi) / 2) then bis go ((lo + hi) / 2 + 1) hi else bis go lo ((lo + hi) / 2)) else lo
termination_by hi - lo
decreasing_by all_goals omega
theorem mid_of {lo hi : Nat} (h : lo < hi) : lo ≤ (lo + hi) / 2 ∧ (lo + hi) / 2 < hi ∧ ((lo : Int) + hi).fdiv 2 = ((lo + hi) / 2 : Nat) := by
  refine ⟨by omega, by omega, ?_⟩
  rw [Int.fdiv_eq_ediv_of_nonneg _ (by decide)]; omega
theorem mid_r {lo hi : Nat} (h : lo < hi) : hi - ((lo + hi) / 2 + 1) < hi - lo := by omega
theorem mid_l {lo hi : Nat} (h : lo < hi) : (lo + hi) / 2 - lo < hi - lo := by omega
end Mine
namespace Mine
/-- what a block reads of the frame -/
inductive SeenT (cl : List (Str × Addr)) (σ : Sg) : Sg → Prop
  | nil : SeenT cl σ []
  | cons {τ : Sg} {x : Str} {d : D} : σ.lookup x = some (.fz d) → (cl.lookup x).isSome = true → τ.lookup x = none → SeenT cl σ τ → SeenT cl σ ((x, .fz d) :: τ)
theorem SeenT.sub {cl : List (Str × Addr)} {σ τ : Sg} (h : SeenT cl σ τ) : ∀ p ∈ τ, (cl.lookup p.1).isSome = true ∧ τ.lookup p.1 = some p.2 ∧ σ.lookup p.1 = some p.2 ∧ (∀ d, p.2 ≠ .wk d) := by
  induction h with
  | nil => intro p hp; cases hp
  | cons e1 e2 e3 h ih =>
    rename_i τ x d
    intro p hp
    rcases List.mem_cons.mp hp with rfl | hp
    · exact ⟨e2, by simp [List.lookup_cons], e1, fun d q => by cases q⟩
    · obtain ⟨h1, h2, h3, h4⟩ := ih p hp
      refine ⟨h1, ?_, h3, h4⟩
      have hne : p.1 ≠ x := fun q => by rw [q, e3] at h2; cases h2
      rw [List.lookup_cons, beq_eq_false_iff_ne.mpr hne]
      exact h2
def nodupB : List Str → Bool
  | [] => true
  | x :: xs => !xs.contains x && nodupB xs
theorem nodup_of : ∀ {l : List Str}, nodupB l = true → l.Nodup
  | [], _ => .nil
  | x :: xs, h => by
    simp only [nodupB, Bool.and_eq_true, Bool.not_eq_true'] at h
    refine List.nodup_cons.mpr ⟨fun hm => ?_, nodup_of h.2⟩
    have := List.contains_iff_mem.mpr hm
    rw [h.1] at this; cases this
def scopeB (scope : Scope) (x : Str) : Bool := scope.names.all (fun y => decide (y.2 ≠ .cell)) && scope.names.all (fun y => !decide (y.2 = .local) || decide (scope.names.lookup y.1 = some .local)) && decide (scope.names.lookup x = some .local)
def nowB (scope : Scope) (env : Env) (cl : List (Str × Addr)) : Bool := cl.all fun p => decide ((relabel scope env).names.lookup p.1 = some .cell) && (decide (env.kindOf p.1 = some .cell) || decide (env.kindOf p.1 = some .free))
theorem seen_of {env : Env} {scope : Scope} {cl : List (Str × Addr)} {x : Str} {σ τ : Sg} (clos : closureFor scope env = pure cl) (h : SeenT cl σ τ) (new : τ.lookup x = none := by rfl) (kind : scope.kind = .function := by rfl) (hs : scopeB scope x = true := by rfl)
    (nodup : nodupB (cl.map (·.1)) = true := by rfl) (old : cl.map (fun p => env.cells.lookup p.1) = cl.map (fun p => some p.2) := by rfl) (now : nowB scope env cl = true := by rfl) : Seen env scope cl x σ τ := by
  simp only [scopeB, Bool.and_eq_true, List.all_eq_true, decide_eq_true_eq, Bool.or_eq_true, Bool.not_eq_true', decide_eq_false_iff_not] at hs
  refine ⟨clos, kind, hs.1.1, fun y hy hl => (hs.1.2 y hy).resolve_left fun q => q hl, hs.2, nodup_of nodup, old, fun p hp => ?_, h.sub, new⟩
  have := List.all_eq_true.mp now p hp
  simpa only [Bool.and_eq_true, decide_eq_true_eq, Bool.or_eq_true] using this
theorem small63 {k m : Nat} (h : k < m) (hz : m ≤ 1000001) : (k : Int) < 2 ^ 62 := by omega
theorem it_listN {c : Cx} {n : Nat} {ds : List D} {k : Nat} {d : D} (hz : ds.length ≤ 1000000) (e : ds[k]? = some d) : OpIt c n (.list ds) (.int (k : Nat)) d := by
  have hk := small63 (List.getElem?_eq_some_iff.mp e).1 (Nat.le_trans hz (by decide))
  exact it_list (Int.natCast_nonneg k) (Int.lt_trans hk (by decide)) (by rw [Int.toNat_natCast]; exact e)
theorem cl_lenN {c : Cx} {n : Nat} {ds : List D} (hz : ds.length ≤ 1000000) : Cl c n (.builtin "len") [.list ds] [] (.int ds.length) := cl_len_list (small63 (Nat.lt_succ_self _) (Nat.le_trans (Nat.succ_le_succ hz) (by decide)))
/-- the first argument may be one of the own lists, the rest not -/
def Cl1 (c : Cx) (n : Nat) (fv : Value) (d : D) (ds : List D) (r : D) : Prop :=
  ∀ (own : List Addr) (A : Around) (s : Shared) (v : Value) (vs : List Value) (Q : Value → Shared → Prop) (E : Value → Shared → Prop), Rm n A → c.B.StaysIn s.heap → OwnIn own s.heap →
    RdI own s.heap v d → RdL (· ∉ own) s.heap vs ds → (∀ v s', Keeps s s' → Rd (· ∉ own) s'.heap v r → Q v s') → wpAny c.M A (PySem.call fv (v :: vs) []) Q E s
theorem Cl1.le {c : Cx} {n m : Nat} {fv : Value} {d : D} {ds : List D} {r : D} (h : Cl1 c n fv d ds r) (hn : n ≤ m) : Cl1 c m fv d ds r :=
  fun own A s v vs Q E rm => h own A s v vs Q E (rm.le hn)
theorem Cl1.df {c : Cx} {f : Addr} {fd : FuncData} {body : List Stmt} (F : FnAt c f fd body) (x₀ : Str) (names : List Str) (bs : List D) {d : D} {ds : List D} {r : D} {m : Nat}
    (hbind : ∀ (own : List Addr) (h : Heap) (v : Value) (vs : List Value), RdL (· ∉ own) h vs ds → ∃ bl, peek c.K ⟨c.prog, c.w.params⟩ (bindArgs fd ⟨v :: vs, []⟩) = some ((x₀, v) :: bl) ∧ bl.map (·.1) = names ∧ RdL (· ∉ own) h (bl.map (·.2)) bs)
    (hnd : (x₀ :: names).Nodup) (hk : kindsOk fd (x₀ :: names) = true)
    (hb : ∀ own s L, PS c m s [] (envC fd f L) own [] ((x₀, svOf d) :: sgF names bs) body (RetQ own s r)) : Cl1 c (m + 1) (.ref f) d ds r := by
  intro own A s v vs Q E rm t o r₀ r₁ h
  obtain ⟨bl, e, h1, h2⟩ := hbind own s.heap v vs r₁
  have hl1 : names.length = bl.length := by rw [← h1, List.length_map]
  refine enter F (names := x₀ :: names) (bvs := v :: bl.map (·.2)) (us := svOf d :: bs.map SV.fz) rm t o ?_ (by simp [hl1]) hnd (fun i w u e1 e2 => ?_) (fun u hu a es e => ?_) hk (fun L => ?_)
  · rw [e, List.zip_cons_cons, ← h1, zip_back]
  · cases i with
    | zero =>
      simp only [List.getElem?_cons_zero, Option.some.injEq] at e1 e2
      subst e1 e2
      exact svOf_ok r₀
    | succ i =>
      simp only [List.getElem?_cons_succ] at e1 e2
      rw [List.getElem?_map] at e2
      cases hd : bs[i]? with
      | none => rw [hd] at e2; cases e2
      | some d =>
        rw [hd] at e2; cases e2
        obtain ⟨d', e', q⟩ := h2.getV e1
        rw [hd] at e'; cases e'
        exact q
  · rcases List.mem_cons.mp hu with rfl | hu
    · cases d <;> cases e
    · obtain ⟨d, _, rfl⟩ := List.mem_map.mp hu
      cases e
  · intro A' s' E' rm' st
    refine wpAny_mono (hb own s L A' s' E' rm' st) (fun fl s'' q => ?_) fun _ _ e => e
    obtain ⟨v, hv, hr, hk⟩ := q
    exact ⟨v, hv, h v s'' hk hr⟩
section
variable {c : Cx} {n : Nat} {env : Env} {own : List Addr} {σ : Sg}
theorem PE.call1 {f : Str} {fp pos : Pos} {e : Expr} {args : List Expr} {fv : Value} {d : D} {ds : List D} {r : D} (pf : PE c n env own σ (.Name f fp) (.atom fv)) (hc : Callable c fv) (p : PI c n env own σ e d) (pa : PAE c n env own σ args ds) (cl : Cl1 c n fv d ds r)
    (hs : notStar e = true := by rfl) (hns : noStars args = true := by rfl) : PE c n env own σ (.Call (.Name f fp) (e :: args) [] pos) r := by
  intro A s Q E rm t a h
  refine wpAny_Call_Name_kw (pf A s _ E rm t a fun v s₁ k₁ r₁ => ?_)
  have ev := RdI.atom (.inl r₁)
  subst ev
  have hns' : noStars (e :: args) = true := by rw [noStars, hs, hns]; rfl
  have ev : ∀ {R : Args → Shared → Prop}, (∀ v vs s', Keeps s₁ s' → RdI own s'.heap v d → RdL (· ∉ own) s'.heap vs ds → R ⟨v :: vs, []⟩ s') → wpAny c.M A (evalArgs v true (backTo pos (starEach (e :: args) env)) (backToKw pos (keywordEach [] env))) R E s₁ := by
    intro R hR
    refine evalArgs_any (noStars_any hns') rfl ?_
    rw [starEach_cons hs, backTo_cons]
    refine Calls.spliced_cons (p A s₁ _ E rm (stays_keeps t k₁) (a.keeps (Keeps.keep k₁)) fun v s₂ q₁ r₂ => ?_)
    have k2 := Keeps.trans k₁ q₁
    refine pa A s₂ pos _ E rm (stays_keeps t k2) (a.keeps (Keeps.keep k2)) fun vs s₃ q₂ r₃ => wpAny_evalAll_nil ?_
    exact hR v vs s₃ (Keeps.trans q₁ q₂) (r₂.keeps (Keeps.keep q₂)) r₃
  have fin : ∀ u vs s', Keeps s₁ s' → RdI own s'.heap u d → RdL (· ∉ own) s'.heap vs ds → wpAny c.M A (PySem.call v ([] ++ (u :: vs)) []) Q E s' := fun u vs s' q r r' => by
    have k2 := Keeps.trans k₁ q
    exact cl own A s' u vs Q E rm (stays_keeps t k2) (OwnIn.keeps a.ow (Keeps.keep k2)) r r' fun v s'' k3 r3 => h v s'' (Keeps.trans k2 k3) r3
  cases hc with
  | builtin id => exact callWith_other (fun a e => by cases e) (by rw [noStars_any hns']; rfl) (ev fin)
  | type T => exact callWith_other (fun a e => by cases e) (by rw [noStars_any hns']; rfl) (ev fin)
  | fn ho hd =>
    refine callWith_function_kw (ev fun u vs s' q r r' => ⟨⟨?_, hd⟩, fin u vs s' q r r'⟩)
    exact Keeps.keep (Keeps.trans k₁ q) _ _ (t _ _ (c.tp.k _ _ ho))
end
end Mine
namespace Mine
/-- the next number -/
def nxt (size : Nat) (last x : Int) : Int := Builtin.bitXor last (x.fdiv 9 % 2 ^ (size * (x.fmod 9).toNat))
def numsStep (size : Nat) (acc : List Int) (x : Int) : List Int := acc ++ [nxt size (acc.getLastD 0) x]
def nums (size : Nat) (draws : List Int) : List Int := ([2359304, 299, 9220] ++ draws).foldl (numsStep size) [16510910 % 256 ^ size]
def octs (n : Int) (size : Nat) : List Int := (List.range size).map fun (i : Nat) => n / 256 ^ (size - 1 - i) % 256
def figs (n : Nat) : Nat := if n = 0 then 0 else figs (n / 2) + 1
termination_by n
decreasing_by omega
def shd : List Int → List Int → Nat
  | a :: as, b :: bs => if a = b then shd as bs + 1 else 0
  | _, _ => 0
theorem shd_nil (b : List Int) : shd [] b = 0 := by cases b <;> rfl
theorem shd_step : ∀ {as bs : List Int} {i : Nat}, as.take i = bs.take i → i < as.length → i < bs.length → as.getD i 0 = bs.getD i 0 → as.take (i + 1) = bs.take (i + 1)
  | a :: as, b :: bs, 0, _, _, _, h => by simpa using h
  | a :: as, b :: bs, i + 1, h, h1, h2, h3 => by
    simp only [List.take_succ_cons, List.cons.injEq] at h ⊢
    exact ⟨h.1, shd_step h.2 (by simpa using h1) (by simpa using h2) (by simpa using h3)⟩
theorem shd_stop : ∀ {as bs : List Int} {i : Nat}, as.take i = bs.take i → i < as.length → i < bs.length → as.getD i 0 ≠ bs.getD i 0 → shd as bs = i
  | a :: as, b :: bs, 0, _, _, _, h => by
    have : ¬ a = b := by simpa using h
    simp [shd, this]
  | a :: as, b :: bs, i + 1, h, h1, h2, h3 => by
    simp only [List.take_succ_cons, List.cons.injEq] at h
    rw [shd, if_pos h.1, shd_stop h.2 (by simpa using h1) (by simpa using h2) (by simpa using h3)]
theorem shd_end : ∀ {as bs : List Int}, as = bs.take as.length → shd as bs = as.length
  | [], bs, _ => shd_nil bs
  | a :: as, [], h => by simp at h
  | a :: as, b :: bs, h => by
    simp only [List.length_cons, List.take_succ_cons, List.cons.injEq] at h
    rw [shd, if_pos h.1, shd_end h.2, List.length_cons]
def maxL (l : List Nat) : Nat := l.foldr max 0
theorem maxL_mem : ∀ l : List Nat, maxL l ∈ 0 :: l
  | [] => by simp [maxL]
  | a :: l => by
    have := maxL_mem l
    show max a (maxL l) ∈ 0 :: a :: l
    rcases Nat.le_total a (maxL l) with h | h
    · rw [Nat.max_eq_right h]
      rcases List.mem_cons.mp this with q | q
      · rw [q]; simp
      · simp [q]
    · rw [Nat.max_eq_left h]; simp
theorem maxL_le : ∀ (l : List Nat), ∀ a ∈ l, a ≤ maxL l
  | b :: l, a, h => by
    show a ≤ max b (maxL l)
    rcases List.mem_cons.mp h with rfl | h
    · omega
    · have := maxL_le l a h; omega
/-- the two neighbours of a place -/
def nearW {α : Type} (as : List α) (place : Nat) : List α := (as.drop (place - 1)).take (place + 1 - (place - 1))
def nearV (as : List (List Int)) (key : List Int) (place : Nat) : Nat := maxL ((nearW as place).map fun l => shd l key)
theorem cut_near {as : List (List Int)} {place : Nat} (h : place ≤ as.length) : cutD (dLists as) (some (max 0 ((place : Int) - 1))) (some ((place : Int) + 1)) = dLists (nearW as place) := by
  unfold cutD nearW dLists
  have e1 : clipAt (as.map fun ns => D.list (dInts ns)).length (max 0 ((place : Int) - 1)) = place - 1 := by
    unfold clipAt; simp only [List.length_map]; split <;> omega
  have e2 : clipAt (as.map fun ns => D.list (dInts ns)).length ((place : Int) + 1) = min (place + 1) as.length := by
    unfold clipAt; simp only [List.length_map]; split <;> omega
  simp only [Option.elim_some, e1, e2]
  rw [← List.map_drop, ← List.map_take]
  congr 1
  by_cases hp : place + 1 ≤ as.length
  · rw [Nat.min_eq_left hp]
  · have hq : place = as.length := by omega
    subst hq
    rw [Nat.min_eq_right (by omega)]
    apply List.ext_getElem?
    intro i
    rw [List.getElem?_take, List.getElem?_take]
    by_cases h1 : i < as.length - (as.length - 1)
    · rw [if_pos h1, if_pos (by omega)]
    · rw [if_neg h1]
      split
      · rw [List.getElem?_eq_none (by rw [List.length_drop]; omega)]
      · rfl
theorem filter_tt {α : Type} (l : List α) : l.filter (fun _ => true) = l := List.filter_eq_self.mpr fun _ _ => rfl
theorem dInts_of {l : List Int} {i : Nat} {d : D} (h : (dInts l)[i]? = some d) : ∃ k, l[i]? = some k ∧ d = .int k := by
  unfold dInts at h
  rw [List.getElem?_map] at h
  cases hk : l[i]? with
  | none => rw [hk] at h; cases h
  | some k => rw [hk] at h; cases h; exact ⟨k, rfl, rfl⟩
end Mine
namespace Mine
/-- a is not behind b -/
def leI (a b : List Int) : Prop := ltI b a = false
theorem ltI_cons {x y : Int} {a b : List Int} : ltI (x :: a) (y :: b) = true ↔ x < y ∨ (x = y ∧ ltI a b = true) := by
  rw [ltI]
  by_cases h : x = y
  · subst h; simp
  · simp [h]
theorem leI_cons {x y : Int} {a b : List Int} : leI (x :: a) (y :: b) ↔ x < y ∨ (x = y ∧ leI a b) := by
  unfold leI
  rw [ltI]
  by_cases h : y = x
  · subst h; simp
  · have h' : ¬ x = y := fun e => h e.symm
    simp [h, h']; omega
theorem leI_trans : ∀ {a b c : List Int}, leI a b → leI b c → leI a c
  | [], _, c, _, _ => by unfold leI; cases c <;> rfl
  | _ :: _, [], _, h, _ => by cases h
  | _ :: _, _ :: _, [], _, h => by cases h
  | x :: a, y :: b, z :: c, h1, h2 => by
    rw [leI_cons] at h1 h2 ⊢
    rcases h1 with h1 | ⟨h1, h1'⟩ <;> rcases h2 with h2 | ⟨h2, h2'⟩
    · left; omega
    · left; omega
    · left; omega
    · right; exact ⟨by omega, leI_trans h1' h2'⟩
theorem lt_le_trans : ∀ {a b c : List Int}, leI a b → ltI b c = true → ltI a c = true
  | [], [], _, _, h => h
  | [], _ :: _, [], _, h => by cases h
  | [], _ :: _, _ :: _, _, _ => rfl
  | _ :: _, [], _, h, _ => by cases h
  | _ :: _, _ :: _, [], _, h => by cases h
  | x :: a, y :: b, z :: c, h1, h2 => by
    rw [leI_cons] at h1
    rw [ltI_cons] at h2 ⊢
    rcases h1 with h1 | ⟨h1, h1'⟩ <;> rcases h2 with h2 | ⟨h2, h2'⟩
    · left; omega
    · left; omega
    · left; omega
    · right; exact ⟨by omega, lt_le_trans h1' h2'⟩
theorem ltI_le : ∀ {a b : List Int}, ltI a b = true → leI a b
  | [], [], h => by cases h
  | [], _ :: _, _ => rfl
  | _ :: _, [], h => by cases h
  | x :: a, y :: b, h => by
    rw [ltI_cons] at h
    rw [leI_cons]
    rcases h with h | ⟨h, h'⟩
    · exact .inl h
    · exact .inr ⟨h, ltI_le h'⟩
theorem shd_comm : ∀ a b : List Int, shd a b = shd b a
  | [], b => by cases b <;> rfl
  | _ :: _, [] => rfl
  | x :: a, y :: b => by
    rw [shd, shd]
    by_cases h : x = y
    · subst h; simp [shd_comm a b]
    · have h' : ¬ y = x := fun e => h e.symm
      simp [h, h']
theorem shd_up : ∀ {a b c : List Int}, leI a b → leI b c → shd a c ≤ shd b c
  | [], _, c, _, _ => by rw [shd_nil]; omega
  | _ :: _, _, [], _, _ => by simp [shd]
  | _ :: _, [], _ :: _, h, _ => by cases h
  | x :: a, y :: b, z :: c, h1, h2 => by
    rw [leI_cons] at h1 h2
    rw [shd, shd]
    by_cases h : x = z
    · subst h
      rcases h1 with h1 | ⟨h1, h1'⟩
      · rcases h2 with h2 | ⟨h2, h2'⟩ <;> omega
      · subst h1
        rcases h2 with h2 | ⟨h2, h2'⟩
        · omega
        · simp only [if_true]
          have := shd_up h1' h2'
          omega
    · rw [if_neg h]; omega
theorem shd_down : ∀ {a b c : List Int}, leI a b → leI b c → shd c a ≤ shd b a
  | [], b, c, _, _ => by rw [shd_comm, shd_nil]; omega
  | _ :: _, _, [], h1, h2 => by simp [shd]
  | _ :: _, [], _ :: _, h, _ => by cases h
  | x :: a, y :: b, z :: c, h1, h2 => by
    rw [leI_cons] at h1 h2
    rw [shd, shd]
    by_cases h : z = x
    · subst h
      rcases h1 with h1 | ⟨h1, h1'⟩
      · rcases h2 with h2 | ⟨h2, h2'⟩ <;> omega
      · subst h1
        rcases h2 with h2 | ⟨h2, h2'⟩
        · omega
        · simp only [if_true]
          have := shd_down h1' h2'
          omega
    · rw [if_neg h]; omega
/-- the search -/
theorem bis_at {go : Nat → Bool} {k : Nat} : ∀ (d lo hi : Nat), hi - lo = d → lo ≤ k → k ≤ hi → (∀ i, lo ≤ i → i < k → go i = true) → (∀ i, k ≤ i → i < hi → go i = false) → bis go lo hi = k := by
  intro d
  induction d using Nat.strongRecOn with
  | ind d ih =>
    intro lo hi hd h1 h2 ht hf
    rw [bis]
    by_cases hlt : lo < hi
    · rw [dif_pos hlt]
      by_cases hk : (lo + hi) / 2 < k
      · rw [if_pos (ht _ (by omega) hk)]
        exact ih (hi - ((lo + hi) / 2 + 1)) (by omega) _ _ rfl (by omega) h2 (fun i a b => ht i (by omega) b) hf
      · rw [if_neg (by rw [hf _ (by omega) (by omega)]; decide)]
        exact ih ((lo + hi) / 2 - lo) (by omega) _ _ rfl h1 (by omega) ht (fun i a b => hf i a (by omega))
    · rw [dif_neg hlt]; omega
theorem count_part {q : List Int → Bool} : ∀ {S : List (List Int)}, S.Pairwise (fun a b => q b = true → q a = true) → (∀ a ∈ S.take (S.countP q), q a = true) ∧ (∀ a ∈ S.drop (S.countP q), q a = false)
  | [], _ => ⟨by simp, by simp⟩
  | s :: S, h => by
    rw [List.pairwise_cons] at h
    have ih := count_part h.2
    cases hs : q s with
    | true =>
      rw [List.countP_cons_of_pos hs]
      refine ⟨fun a ha => ?_, fun a ha => ?_⟩
      · rw [List.take_succ_cons] at ha
        rcases List.mem_cons.mp ha with rfl | ha
        · exact hs
        · exact ih.1 a ha
      · rw [List.drop_succ_cons] at ha
        exact ih.2 a ha
    | false =>
      have hall : ∀ a ∈ S, q a = false := fun a ha => by
        cases e : q a with
        | false => rfl
        | true => have := h.1 a ha e; rw [hs] at this; cases this
      have h0 : (s :: S).countP q = 0 := by
        rw [List.countP_eq_zero]
        intro a ha
        rcases List.mem_cons.mp ha with rfl | ha
        · simp [hs]
        · simp [hall a ha]
      rw [h0]
      refine ⟨by simp, fun a ha => ?_⟩
      rcases List.mem_cons.mp ha with rfl | ha
      · exact hs
      · exact hall a ha
theorem bis_count {q : List Int → Bool} {S : List (List Int)} (h : S.Pairwise (fun a b => q b = true → q a = true)) : bis (fun i => q (S.getD i [])) 0 S.length = S.countP q := by
  have hp := count_part h
  have hl : S.countP q ≤ S.length := List.countP_le_length
  refine bis_at _ 0 S.length rfl (Nat.zero_le _) hl (fun i _ hi => ?_) (fun i hi hn => ?_)
  · refine hp.1 _ ?_
    have hlt : i < S.length := by omega
    rw [List.getD_eq_getElem?_getD, List.getElem?_eq_getElem hlt]
    exact List.mem_take_iff_getElem.mpr ⟨i, by omega, rfl⟩
  · refine hp.2 _ ?_
    rw [List.getD_eq_getElem?_getD, List.getElem?_eq_getElem hn]
    refine List.mem_drop_iff_getElem.mpr ⟨i - S.countP q, by omega, ?_⟩
    simp only [Option.getD_some]
    congr 1; omega
abbrev Srt (S : List (List Int)) : Prop := S.Pairwise leI
theorem Srt.lt {S : List (List Int)} (h : Srt S) (x : List Int) : S.Pairwise (fun a b => ltI b x = true → ltI a x = true) := h.imp fun hab hb => lt_le_trans hab hb
theorem Srt.le {S : List (List Int)} (h : Srt S) (x : List Int) : S.Pairwise (fun a b => (!ltI x b) = true → (!ltI x a) = true) := h.imp fun {a b} hab hb => by
  have hb' : leI b x := by unfold leI; simpa using hb
  have := leI_trans hab hb'
  unfold leI at this
  simp [this]
theorem bisL_count {S : List (List Int)} (h : Srt S) (x : List Int) : bis (fun i => ltI (S.getD i []) x) 0 S.length = S.countP (fun s => ltI s x) := bis_count (q := fun s => ltI s x) (h.lt x)
theorem bisR_count {S : List (List Int)} (h : Srt S) (x : List Int) : bis (fun i => !ltI x (S.getD i [])) 0 S.length = S.countP (fun s => !ltI x s) := bis_count (q := fun s => !ltI x s) (h.le x)
theorem srt_ins {S : List (List Int)} {x : List Int} {k : Nat} (h : Srt S) (h1 : ∀ a ∈ S.take k, leI a x) (h2 : ∀ a ∈ S.drop k, leI x a) : Srt (S.take k ++ x :: S.drop k) := by
  refine List.pairwise_append.mpr ⟨h.sublist (List.take_sublist k S), List.pairwise_cons.mpr ⟨h2, h.sublist (List.drop_sublist k S)⟩, fun a ha b hb => ?_⟩
  rcases List.mem_cons.mp hb with rfl | hb
  · exact h1 a ha
  · exact leI_trans (h1 a ha) (h2 b hb)
theorem perm_ins {α : Type} {S E : List α} {x : α} (k : Nat) (h : S.Perm E) : (S.take k ++ x :: S.drop k).Perm (E ++ [x]) := by
  have h1 : (S.take k ++ x :: S.drop k).Perm (x :: (S.take k ++ S.drop k)) := List.perm_middle
  rw [List.take_append_drop] at h1
  exact h1.trans ((List.Perm.cons x h).trans (List.perm_append_comm (l₁ := [x]) (l₂ := E)))
/-- the neighbours tell the most -/
theorem near_all {S : List (List Int)} {key : List Int} {k : Nat} (h : Srt S) (hk : k ≤ S.length) (h1 : ∀ a ∈ S.take k, leI a key) (h2 : ∀ a ∈ S.drop k, leI key a) : nearV S key k = maxL (S.map fun l => shd l key) := by
  have sub : ∀ l ∈ nearW S k, l ∈ S := fun l h => List.mem_of_mem_drop (List.mem_of_mem_take h)
  apply Nat.le_antisymm
  · have := maxL_mem ((nearW S k).map fun l => shd l key)
    rcases List.mem_cons.mp this with q | q
    · unfold nearV; rw [q]; omega
    · obtain ⟨l, hl, e⟩ := List.mem_map.mp q
      unfold nearV
      rw [← e]
      exact maxL_le _ _ (List.mem_map.mpr ⟨l, sub l hl, rfl⟩)
  · have := maxL_mem (S.map fun l => shd l key)
    rcases List.mem_cons.mp this with q | q
    · rw [q]; omega
    · obtain ⟨l, hl, e⟩ := List.mem_map.mp q
      rw [← e]
      obtain ⟨i, hi, rfl⟩ := List.getElem_of_mem hl
      have hsrt := List.pairwise_iff_getElem.mp h
      have key' : ∀ j (hj : j < S.length), k - 1 ≤ j → j < k + 1 → shd S[i] key ≤ shd S[j] key → shd S[i] key ≤ nearV S key k := by
        intro j hj a b hle
        refine Nat.le_trans hle (maxL_le _ _ (List.mem_map.mpr ⟨S[j], ?_, rfl⟩))
        unfold nearW
        refine List.mem_take_iff_getElem.mpr ⟨j - (k - 1), by rw [List.length_drop]; omega, ?_⟩
        rw [List.getElem_drop]
        congr 1; omega
      by_cases hik : i < k
      · have hb : leI S[k - 1] key := h1 _ (List.mem_take_iff_getElem.mpr ⟨k - 1, by omega, rfl⟩)
        refine key' (k - 1) (by omega) (by omega) (by omega) ?_
        by_cases he : i = k - 1
        · subst he; exact Nat.le_refl _
        · exact shd_up (hsrt i (k - 1) hi (by omega) (by omega)) hb
      · have hb : leI key S[k] := h2 _ (List.mem_drop_iff_getElem.mpr ⟨0, by omega, by simp⟩)
        refine key' k (by omega) (by omega) (by omega) ?_
        by_cases he : i = k
        · subst he; exact Nat.le_refl _
        · exact shd_down hb (hsrt k i (by omega) hi (by omega))
/-- the stretch of a head -/
theorem lt_head : ∀ {h s : List Int}, h.length ≤ s.length → (∀ k ∈ s, k < 256) → ltI s (h ++ [256]) = (ltI s h || decide (s.take h.length = h))
  | [], [], _, _ => rfl
  | [], y :: s, _, ho => by
    have := ho y (by simp)
    have h1 : ltI (y :: s) [256] = true := ltI_cons.mpr (.inl this)
    show ltI (y :: s) [256] = _
    rw [h1]; rfl
  | z :: h, [], hl, _ => by simp at hl
  | z :: h, y :: s, hl, ho => by
    rw [List.cons_append, ltI, ltI]
    by_cases e : y = z
    · subst e
      simp only [if_true, List.length_cons, List.take_succ_cons, List.cons.injEq, true_and]
      exact lt_head (by simpa using hl) fun k hk => ho k (by simp [hk])
    · simp [e]
theorem lt_not_head : ∀ {h s : List Int}, s.take h.length = h → ltI s h = false
  | [], [], _ => rfl
  | [], _ :: _, _ => rfl
  | z :: h, [], e => by simp at e
  | z :: h, y :: s, e => by
    simp only [List.length_cons, List.take_succ_cons, List.cons.injEq] at e
    rw [ltI, if_pos e.1]
    exact lt_not_head e.2
theorem count_head {h : List Int} : ∀ {S : List (List Int)}, (∀ s ∈ S, h.length ≤ s.length ∧ ∀ k ∈ s, k < 256) → S.countP (fun s => ltI s (h ++ [256])) = S.countP (fun s => ltI s h) + S.countP (fun s => decide (s.take h.length = h))
  | [], _ => rfl
  | s :: S, hs => by
    have ih := count_head (h := h) (S := S) fun x hx => hs x (by simp [hx])
    have hh := hs s (by simp)
    have e := lt_head hh.1 hh.2
    rw [List.countP_cons, List.countP_cons, List.countP_cons, ih, e]
    by_cases hp : s.take h.length = h
    · rw [lt_not_head hp]; simp [hp]; omega
    · simp [hp]; omega
end Mine
namespace Mine
theorem figs_le : ∀ (x f : Nat), figs x ≤ f ↔ x < 2 ^ f := by
  intro x
  induction x using Nat.strongRecOn with
  | ind x ih =>
    intro f
    rw [figs]
    by_cases h : x = 0
    · subst h; simp [Nat.pow_pos]
    · rw [if_neg h]
      cases f with
      | zero => simp; omega
      | succ f =>
        have := ih (x / 2) (by omega) f
        rw [Nat.pow_succ]
        constructor
        · intro q
          have := this.mp (by omega)
          omega
        · intro q
          have := this.mpr (by omega)
          omega
theorem figs_mono {x y : Nat} (h : x ≤ y) : figs x ≤ figs y := (figs_le x _).mpr (Nat.lt_of_le_of_lt h ((figs_le y _).mp (Nat.le_refl _)))
theorem figs_pos {x : Nat} (h : x ≠ 0) : 1 ≤ figs x := by rw [figs, if_neg h]; omega
theorem shd_le : ∀ a b : List Int, shd a b ≤ a.length
  | [], b => by rw [shd_nil]; simp
  | _ :: _, [] => by simp [shd]
  | x :: a, y :: b => by
    rw [shd]
    have := shd_le a b
    split <;> simp <;> omega
theorem shd_ge : ∀ {a b : List Int} {j : Nat}, a.length = b.length → j ≤ a.length → (j ≤ shd a b ↔ a.take j = b.take j)
  | _, _, 0, _, _ => by simp
  | [], _, j + 1, _, h => by simp at h
  | _ :: _, [], j + 1, h, _ => by simp at h
  | x :: a, y :: b, j + 1, h1, h2 => by
    rw [shd, List.take_succ_cons, List.take_succ_cons, List.cons.injEq]
    have ih := shd_ge (a := a) (b := b) (j := j) (by simpa using h1) (by simpa using h2)
    by_cases h : x = y
    · rw [if_pos h, ← ih]; simp [h]
    · rw [if_neg h]; simp [h]
/-- a writing of numbers of T bits in p signs of b bits -/
structure Code (p T b : Nat) (code : Nat → List Int) : Prop where
  len : ∀ n, n < 2 ^ T → (code n).length = p
  oct : ∀ n, n < 2 ^ T → Oct (code n)
  pre : ∀ m n, m < 2 ^ T → n < 2 ^ T → ∀ j, j ≤ p → ((code m).take j = (code n).take j ↔ m ^^^ n < 2 ^ (T - b * j))
  hb : 0 < b
  h1 : T ≤ b * p
def val (p T b x : Nat) : Nat := if x = 0 then p else (T - figs x) / b
section
variable {p T b : Nat} {code : Nat → List Int}
theorem val_le (C : Code p T b code) {x : Nat} : val p T b x ≤ p := by
  unfold val
  split
  · omega
  · refine Nat.div_le_of_le_mul ?_
    have := C.h1
    omega
theorem val_anti (C : Code p T b code) {x y : Nat} (h : x ≤ y) : val p T b y ≤ val p T b x := by
  by_cases hx : x = 0
  · rw [val, val, if_pos hx]
    have := val_le C (x := y)
    unfold val at this
    exact this
  · have hy : y ≠ 0 := by omega
    rw [val, val, if_neg hx, if_neg hy]
    have := figs_mono h
    exact Nat.div_le_div_right (by omega)
theorem shd_code (C : Code p T b code) {m n : Nat} (hm : m < 2 ^ T) (hn : n < 2 ^ T) : shd (code m) (code n) = val p T b (m ^^^ n) := by
  have hl : (code m).length = (code n).length := by rw [C.len m hm, C.len n hn]
  have key : ∀ j, j ≤ p → (j ≤ shd (code m) (code n) ↔ m ^^^ n < 2 ^ (T - b * j)) := fun j hj => by
    rw [shd_ge hl (by rw [C.len m hm]; exact hj), C.pre m n hm hn j hj]
  have hle : shd (code m) (code n) ≤ p := by have := shd_le (code m) (code n); rwa [C.len m hm] at this
  have hxT : m ^^^ n < 2 ^ T := Nat.xor_lt_two_pow hm hn
  unfold val
  by_cases hx : m ^^^ n = 0
  · rw [if_pos hx]
    have := (key p (Nat.le_refl _)).mpr (by rw [hx]; exact Nat.pow_pos (by decide))
    omega
  · rw [if_neg hx]
    have hf1 := figs_pos hx
    have hfT := (figs_le _ _).mpr hxT
    have key2 : ∀ j, j ≤ p → (j ≤ shd (code m) (code n) ↔ j ≤ (T - figs (m ^^^ n)) / b) := fun j hj => by
      rw [key j hj, ← figs_le, Nat.le_div_iff_mul_le C.hb, Nat.mul_comm j b]
      omega
    have hv : (T - figs (m ^^^ n)) / b ≤ p := Nat.div_le_of_le_mul (by have := C.h1; omega)
    have a1 := (key2 _ hv).mpr (Nat.le_refl _)
    have a2 := (key2 _ hle).mp (Nat.le_refl _)
    omega
theorem best (C : Code p T b code) {E : List Nat} {S : List (List Int)} {n least : Nat} (hE : ∀ m ∈ E, m < 2 ^ T) (hn : n < 2 ^ T) (hp : S.Perm (E.map code)) (h1 : ∃ m ∈ E, m ^^^ n = least) (h2 : ∀ m ∈ E, least ≤ m ^^^ n) :
    maxL (S.map fun l => shd l (code n)) = val p T b least := by
  apply Nat.le_antisymm
  · have := maxL_mem (S.map fun l => shd l (code n))
    rcases List.mem_cons.mp this with q | q
    · rw [q]; omega
    · obtain ⟨l, hl, e⟩ := List.mem_map.mp q
      rw [← e]
      obtain ⟨m, hm, rfl⟩ := List.mem_map.mp (hp.mem_iff.mp hl)
      rw [shd_code C (hE m hm) hn]
      exact val_anti C (h2 m hm)
  · obtain ⟨m, hm, e⟩ := h1
    rw [← e, ← shd_code C (hE m hm) hn]
    exact maxL_le _ _ (List.mem_map.mpr ⟨code m, hp.mem_iff.mpr (List.mem_map.mpr ⟨m, hm, rfl⟩), rfl⟩)
theorem span_count (C : Code p T b code) {E : List Nat} {S : List (List Int)} {n j : Nat} (hE : ∀ m ∈ E, m < 2 ^ T) (hn : n < 2 ^ T) (hs : Srt S) (hp : S.Perm (E.map code)) (hj : j ≤ p) :
    ((bis (fun i => ltI (S.getD i []) ((code n).take j ++ [256])) 0 S.length : Nat) : Int) - (bis (fun i => ltI (S.getD i []) ((code n).take j)) 0 S.length : Nat) = (E.countP (fun m => decide (m ^^^ n < 2 ^ (T - b * j))) : Nat) := by
  have hlen : ((code n).take j).length = j := by rw [List.length_take, C.len n hn]; omega
  rw [bisL_count hs, bisL_count hs, count_head fun s h => ?_]
  · have : S.countP (fun s => decide (s.take ((code n).take j).length = (code n).take j)) = E.countP (fun m => decide (m ^^^ n < 2 ^ (T - b * j))) := by
      rw [hp.countP_eq, List.countP_map]
      apply List.countP_congr
      intro m hm
      have := C.pre m n (hE m hm) hn j hj
      show decide ((code m).take ((code n).take j).length = (code n).take j) = true ↔ _
      rw [hlen]
      simpa using this
    rw [this]
    omega
  · obtain ⟨m, hm, rfl⟩ := List.mem_map.mp (hp.mem_iff.mp h)
    rw [hlen, C.len m (hE m hm)]
    exact ⟨hj, fun k hk => (C.oct m (hE m hm) k hk).2⟩
/-- what near tells, by the right and by the left search -/
theorem near_right (C : Code p T b code) {E : List Nat} {S : List (List Int)} {n least : Nat} (hE : ∀ m ∈ E, m < 2 ^ T) (hn : n < 2 ^ T) (hs : Srt S) (hp : S.Perm (E.map code)) (h1 : ∃ m ∈ E, m ^^^ n = least) (h2 : ∀ m ∈ E, least ≤ m ^^^ n) :
    nearV S (code n) (bis (fun i => !ltI (code n) (S.getD i [])) 0 S.length) = val p T b least := by
  rw [bisR_count hs]
  have hc := count_part (hs.le (code n))
  rw [near_all hs List.countP_le_length (fun a ha => ?_) (fun a ha => ?_), best C hE hn hp h1 h2]
  · have := hc.1 a ha; unfold leI; simpa using this
  · have := hc.2 a ha
    exact ltI_le (by simpa using this)
theorem near_left (C : Code p T b code) {E : List Nat} {S : List (List Int)} {n least : Nat} (hE : ∀ m ∈ E, m < 2 ^ T) (hn : n < 2 ^ T) (hs : Srt S) (hp : S.Perm (E.map code)) (h1 : ∃ m ∈ E, m ^^^ n = least) (h2 : ∀ m ∈ E, least ≤ m ^^^ n) :
    nearV S (code n) (bis (fun i => ltI (S.getD i []) (code n)) 0 S.length) = val p T b least := by
  rw [bisL_count hs]
  have hc := count_part (hs.lt (code n))
  rw [near_all hs List.countP_le_length (fun a ha => ltI_le (hc.1 a ha)) (fun a ha => hc.2 a ha), best C hE hn hp h1 h2]
end
theorem bisR_le {S : List (List Int)} (h : Srt S) (x : List Int) : bis (fun i => !ltI x (S.getD i [])) 0 S.length ≤ S.length := by rw [bisR_count h]; exact List.countP_le_length
theorem bisL_le {S : List (List Int)} (h : Srt S) (x : List Int) : bis (fun i => ltI (S.getD i []) x) 0 S.length ≤ S.length := by rw [bisL_count h]; exact List.countP_le_length
theorem insR_srt {S : List (List Int)} (h : Srt S) (x : List Int) : Srt (S.take (bis (fun i => !ltI x (S.getD i [])) 0 S.length) ++ x :: S.drop (bis (fun i => !ltI x (S.getD i [])) 0 S.length)) := by
  rw [bisR_count h]
  have hc := count_part (h.le x)
  exact srt_ins h (fun a ha => by have := hc.1 a ha; unfold leI; simpa using this) (fun a ha => ltI_le (by have := hc.2 a ha; simpa using this))
theorem insL_srt {S : List (List Int)} (h : Srt S) (x : List Int) : Srt (S.take (bis (fun i => ltI (S.getD i []) x) 0 S.length) ++ x :: S.drop (bis (fun i => ltI (S.getD i []) x) 0 S.length)) := by
  rw [bisL_count h]
  have hc := count_part (h.lt x)
  exact srt_ins h (fun a ha => ltI_le (hc.1 a ha)) (fun a ha => hc.2 a ha)
theorem least_ex (n : Nat) : ∀ {E : List Nat}, E ≠ [] → ∃ least, (∃ m ∈ E, m ^^^ n = least) ∧ ∀ m ∈ E, least ≤ m ^^^ n
  | [], h => absurd rfl h
  | [a], _ => ⟨a ^^^ n, ⟨a, by simp, rfl⟩, by simp⟩
  | a :: b :: E, _ => by
    obtain ⟨l, ⟨m, hm, e⟩, h⟩ := least_ex n (E := b :: E) (by simp)
    by_cases q : l ≤ a ^^^ n
    · refine ⟨l, ⟨m, by simp only [List.mem_cons] at hm ⊢; exact .inr hm, e⟩, fun x hx => ?_⟩
      rcases List.mem_cons.mp hx with rfl | hx
      · exact q
      · exact h x hx
    · refine ⟨a ^^^ n, ⟨a, by simp, rfl⟩, fun x hx => ?_⟩
      rcases List.mem_cons.mp hx with rfl | hx
      · exact Nat.le_refl _
      · have := h x hx; omega
end Mine
namespace Mine
/-- figures of a number -/
def digs (B : Nat) : Nat → Nat → List Nat
  | 0, _ => []
  | k + 1, N => N / B ^ k % B :: digs B k N
theorem digs_len (B : Nat) : ∀ k N, (digs B k N).length = k
  | 0, _ => rfl
  | k + 1, N => by rw [digs, List.length_cons, digs_len]
theorem digs_lt {B : Nat} (hB : 0 < B) : ∀ k N, ∀ d ∈ digs B k N, d < B
  | 0, _, d, h => by simp [digs] at h
  | k + 1, N, d, h => by
    rw [digs] at h
    rcases List.mem_cons.mp h with rfl | h
    · exact Nat.mod_lt _ hB
    · exact digs_lt hB k N d h
theorem split_eq {P a b r s : Nat} (hr : r < P) (hs : s < P) : r + P * a = s + P * b ↔ r = s ∧ a = b := by
  constructor
  · intro h
    have h1 : (r + P * a) % P = (s + P * b) % P := by rw [h]
    rw [Nat.add_mul_mod_self_left, Nat.add_mul_mod_self_left, Nat.mod_eq_of_lt hr, Nat.mod_eq_of_lt hs] at h1
    subst h1
    refine ⟨rfl, ?_⟩
    have : P * a = P * b := by omega
    exact Nat.eq_of_mul_eq_mul_left (by omega) this
  · rintro ⟨rfl, rfl⟩; rfl
theorem digs_take {B : Nat} (hB : 0 < B) : ∀ (k j N M : Nat), j ≤ k → ((digs B k N).take j = (digs B k M).take j ↔ N / B ^ (k - j) % B ^ j = M / B ^ (k - j) % B ^ j)
  | k, 0, N, M, _ => by simp [Nat.mod_one]
  | 0, j + 1, N, M, h => by omega
  | k + 1, j + 1, N, M, h => by
    rw [digs, digs, List.take_succ_cons, List.take_succ_cons, List.cons.injEq, digs_take hB k j N M (by omega), show k + 1 - (j + 1) = k - j by omega, Nat.mod_pow_succ, Nat.mod_pow_succ, split_eq (Nat.mod_lt _ (Nat.pow_pos hB)) (Nat.mod_lt _ (Nat.pow_pos hB)), Nat.div_div_eq_div_mul, Nat.div_div_eq_div_mul, ← Nat.pow_add, show k - j + j = k by omega]
    constructor
    · rintro ⟨a, b⟩; exact ⟨b, a⟩
    · rintro ⟨a, b⟩; exact ⟨b, a⟩
theorem xor_lt {m n e : Nat} : m / 2 ^ e = n / 2 ^ e ↔ m ^^^ n < 2 ^ e := by
  have h : (m ^^^ n) / 2 ^ e = m / 2 ^ e ^^^ n / 2 ^ e := Nat.xor_div_two_pow
  constructor
  · intro q
    rw [q, Nat.xor_self] at h
    exact (Nat.div_eq_zero_iff_lt (Nat.pow_pos (by decide))).mp h
  · intro q
    rw [Nat.div_eq_of_lt q] at h
    have := congrArg (· ^^^ n / 2 ^ e) h
    simp only [Nat.xor_assoc, Nat.xor_self, Nat.xor_zero, Nat.zero_xor] at this
    exact this.symm
theorem map_inj {φ : Nat → Int} {B : Nat} (hφ : ∀ a b, a < B → b < B → φ a = φ b → a = b) : ∀ {l l' : List Nat}, (∀ a ∈ l, a < B) → (∀ a ∈ l', a < B) → (l.map φ = l'.map φ ↔ l = l')
  | [], [], _, _ => by simp
  | [], _ :: _, _, _ => by simp
  | _ :: _, [], _, _ => by simp
  | a :: l, b :: l', h, h' => by
    have ih := map_inj hφ (l := l) (l' := l') (fun x hx => h x (by simp [hx])) (fun x hx => h' x (by simp [hx]))
    rw [List.map_cons, List.map_cons, List.cons.injEq, List.cons.injEq, ih]
    constructor
    · rintro ⟨p, q⟩; exact ⟨hφ a b (h a (by simp)) (h' b (by simp)) p, q⟩
    · rintro ⟨rfl, q⟩; exact ⟨rfl, q⟩
/-- signs of b bits, the last ones filled up -/
theorem code_of {p T b pad : Nat} {φ : Nat → Int} {code : Nat → List Int} (hb : 0 < b) (hT : T + pad = b * p) (hpad : pad < b) (hφ : ∀ x y, x < 2 ^ b → y < 2 ^ b → φ x = φ y → x = y) (ho : ∀ x, x < 2 ^ b → 0 ≤ φ x ∧ φ x < 256)
    (hc : ∀ n, n < 2 ^ T → code n = (digs (2 ^ b) p (n * 2 ^ pad)).map φ) : Code p T b code := by
  have hB : 0 < 2 ^ b := Nat.pow_pos (by decide)
  have hlt := digs_lt (B := 2 ^ b) hB
  refine ⟨fun n hn => by rw [hc n hn, List.length_map, digs_len], fun n hn k hk => ?_, fun m n hm hn j hj => ?_, hb, by omega⟩
  · rw [hc n hn] at hk
    obtain ⟨d, hd, rfl⟩ := List.mem_map.mp hk
    exact ho d (hlt _ _ d hd)
  · rw [hc m hm, hc n hn, ← List.map_take, ← List.map_take, map_inj hφ (fun a ha => hlt _ _ a (List.mem_of_mem_take ha)) (fun a ha => hlt _ _ a (List.mem_of_mem_take ha)), digs_take hB p j _ _ hj]
    have small : ∀ x, x < 2 ^ T → x * 2 ^ pad / (2 ^ b) ^ (p - j) < (2 ^ b) ^ j := fun x hx => by
      rw [Nat.div_lt_iff_lt_mul (Nat.pow_pos hB), ← Nat.pow_add, show j + (p - j) = p by omega, ← Nat.pow_mul, ← hT, Nat.pow_add]
      exact Nat.mul_lt_mul_of_pos_right hx (Nat.pow_pos (by decide))
    rw [Nat.mod_eq_of_lt (small m hm), Nat.mod_eq_of_lt (small n hn), ← Nat.pow_mul]
    have hbp : b * p = b * (p - j) + b * j := by rw [← Nat.mul_add, show p - j + j = p by omega]
    by_cases hjp : j = p
    · subst hjp
      rw [Nat.sub_self, Nat.mul_zero, Nat.pow_zero, Nat.div_one, Nat.div_one, show T - b * j = 0 by omega, ← xor_lt, Nat.pow_zero, Nat.div_one, Nat.div_one]
      constructor
      · intro h; exact Nat.eq_of_mul_eq_mul_right (Nat.pow_pos (by decide)) h
      · rintro rfl; rfl
    · have hge : b ≤ b * (p - j) := Nat.le_mul_of_pos_right b (by omega)
      have e : 2 ^ (b * (p - j)) = 2 ^ pad * 2 ^ (T - b * j) := by rw [← Nat.pow_add]; congr 1; omega
      rw [e, ← Nat.div_div_eq_div_mul, ← Nat.div_div_eq_div_mul, Nat.mul_div_cancel _ (Nat.pow_pos (by decide)), Nat.mul_div_cancel _ (Nat.pow_pos (by decide)), xor_lt]
/-- the sign of a six, by the writing -/
def phi (which : Nat) (d : Nat) : Int := tr (alt which).1 (alt which).2 (sgn d)
/-- the six of a sign -/
def inv6 (which : Nat) (k : Int) : Int := if k = (alt which).1 then 62 else if k = (alt which).2 then 63 else if k < 58 then k + 4 else if k < 91 then k - 65 else k - 71
theorem phi_ok : ∀ which, which < 5 → (∀ x y, x < 64 → y < 64 → phi which x = phi which y → x = y) ∧ (∀ x, x < 64 → 0 ≤ phi which x ∧ phi which x < 256) := by
  have h : ∀ w : Fin 5, ∀ x : Fin 64, inv6 w.val (phi w.val x.val) = (x.val : Nat) ∧ 0 ≤ phi w.val x.val ∧ phi w.val x.val < 256 := by decide +kernel
  intro which hw
  refine ⟨fun x y hx hy e => ?_, fun x hx => (h ⟨which, hw⟩ ⟨x, hx⟩).2⟩
  have h1 : inv6 which (phi which x) = (x : Nat) := (h ⟨which, hw⟩ ⟨x, hx⟩).1
  have h2 : inv6 which (phi which y) = (y : Nat) := (h ⟨which, hw⟩ ⟨y, hy⟩).1
  rw [e, h2] at h1
  exact (Int.ofNat_inj.mp h1).symm
theorem hexU_ok : (∀ x y : Nat, x < 16 → y < 16 → hexU x = hexU y → x = y) ∧ (∀ x : Nat, x < 16 → 0 ≤ hexU x ∧ hexU x < 256) := by
  have h : (∀ x y : Fin 16, hexU (x.val : Nat) = hexU (y.val : Nat) → x = y) ∧ (∀ x : Fin 16, 0 ≤ hexU (x.val : Nat) ∧ hexU (x.val : Nat) < 256) := by decide +kernel
  exact ⟨fun x y hx hy e => congrArg Fin.val (h.1 ⟨x, hx⟩ ⟨y, hy⟩ e), fun x hx => h.2 ⟨x, hx⟩⟩
def places (size : Nat) : Nat := (4 * size + 2) / 3
def code6 (which size n : Nat) : List Int := (wr which (octs n size)).take (places size)
def code4 (size n : Nat) : List Int := b16 (octs n size)
theorem tr61 {x y : Int} : tr x y 61 = 61 := by unfold tr; simp
theorem wr_form {which size n : Nat} (h1 : 1 ≤ size) (h3 : size ≤ 3) (hn : n < 2 ^ (8 * size)) :
    wr which (octs n size) = (digs 64 (places size) (n * 2 ^ (6 * places size - 8 * size))).map (phi which) ++ List.replicate (places size * 3 - 4 * size) 61 := by
  have : size = 1 ∨ size = 2 ∨ size = 3 := by omega
  rcases this with rfl | rfl | rfl
  · have e : octs n 1 = [((n : Nat) : Int)] := by
      unfold octs; simp [List.range_succ]; omega
    have e2 : digs 64 (places 1) (n * 2 ^ (6 * places 1 - 8 * 1)) = [n / 4, n % 4 * 16] := by
      show [n * 16 / 64 % 64, n * 16 / 1 % 64] = _
      rw [show n * 16 / 64 % 64 = n / 4 by omega, show n * 16 / 1 % 64 = n % 4 * 16 by omega]
    unfold wr
    rw [e, e2]
    simp only [b64, List.map_cons, List.map_nil, tr61, phi]
    rfl
  · have e : octs n 2 = [((n / 256 : Nat) : Int), ((n % 256 : Nat) : Int)] := by
      unfold octs; simp [List.range_succ]; omega
    have e2 : digs 64 (places 2) (n * 2 ^ (6 * places 2 - 8 * 2)) = [n / 256 / 4, n / 256 % 4 * 16 + n % 256 / 16, n % 256 % 16 * 4] := by
      show [n * 4 / 4096 % 64, n * 4 / 64 % 64, n * 4 / 1 % 64] = _
      rw [show n * 4 / 4096 % 64 = n / 256 / 4 by omega, show n * 4 / 64 % 64 = n / 256 % 4 * 16 + n % 256 / 16 by omega, show n * 4 / 1 % 64 = n % 256 % 16 * 4 by omega]
    unfold wr
    rw [e, e2]
    simp only [b64, List.map_cons, List.map_nil, tr61, phi]
    rfl
  · have e : octs n 3 = [((n / 65536 : Nat) : Int), ((n / 256 % 256 : Nat) : Int), ((n % 256 : Nat) : Int)] := by
      unfold octs; simp [List.range_succ]; omega
    have e2 : digs 64 (places 3) (n * 2 ^ (6 * places 3 - 8 * 3)) = [n / 65536 / 4, n / 65536 % 4 * 16 + n / 256 % 256 / 16, n / 256 % 256 % 16 * 4 + n % 256 / 64, n % 256 % 64] := by
      show [n * 1 / 262144 % 64, n * 1 / 4096 % 64, n * 1 / 64 % 64, n * 1 / 1 % 64] = _
      rw [show n * 1 / 262144 % 64 = n / 65536 / 4 by omega, show n * 1 / 4096 % 64 = n / 65536 % 4 * 16 + n / 256 % 256 / 16 by omega, show n * 1 / 64 % 64 = n / 256 % 256 % 16 * 4 + n % 256 / 64 by omega, show n * 1 / 1 % 64 = n % 256 % 64 by omega]
    unfold wr
    rw [e, e2]
    simp only [b64, List.map_cons, List.map_nil, tr61, phi]
    rfl
theorem size_places {size : Nat} (h1 : 1 ≤ size) (h3 : size ≤ 3) : 8 * size + (6 * places size - 8 * size) = 6 * places size ∧ 6 * places size - 8 * size < 6 := by
  unfold places; omega
theorem code6_form {which size n : Nat} (h1 : 1 ≤ size) (h3 : size ≤ 3) (hn : n < 2 ^ (8 * size)) : code6 which size n = (digs 64 (places size) (n * 2 ^ (6 * places size - 8 * size))).map (phi which) := by
  unfold code6
  rw [wr_form h1 h3 hn, List.take_left' (by rw [List.length_map, digs_len])]
theorem code6_tail {which size n : Nat} (h1 : 1 ≤ size) (h3 : size ≤ 3) (hn : n < 2 ^ (8 * size)) : (wr which (octs n size)).drop (places size) = List.replicate (places size * 3 - 4 * size) 61 := by
  rw [wr_form h1 h3 hn, List.drop_left' (by rw [List.length_map, digs_len])]
theorem code6_ok {which size : Nat} (h1 : 1 ≤ size) (h3 : size ≤ 3) (hw : which < 5) : Code (places size) (8 * size) 6 (code6 which size) := by
  have hs := size_places h1 h3
  exact code_of (pad := 6 * places size - 8 * size) (φ := phi which) (by decide) hs.1 hs.2 (phi_ok which hw).1 (phi_ok which hw).2 fun n hn => code6_form h1 h3 hn
theorem octs_succ (n s : Nat) : octs n (s + 1) = ((n / 256 ^ s % 256 : Nat) : Int) :: octs n s := by
  unfold octs
  rw [List.range_succ_eq_map, List.map_cons, List.map_map]
  refine congr (congrArg List.cons ?_) (List.map_congr_left fun i hi => ?_)
  · push_cast; rfl
  · show (n : Int) / 256 ^ (s - (i + 1)) % 256 = _
    rw [Nat.sub_sub, Nat.add_comm 1 i]
theorem hex_two (m : Nat) : ((m % 256 : Nat) : Int) / 16 = ((m / 16 % 16 : Nat) : Int) ∧ ((m % 256 : Nat) : Int) % 16 = ((m % 16 : Nat) : Int) := by omega
theorem b16_digs (n : Nat) : ∀ s, b16 (octs n s) = (digs 16 (2 * s) n).map (fun d : Nat => hexU d)
  | 0 => rfl
  | s + 1 => by
    have h := hex_two (n / 256 ^ s)
    have e : (256 : Nat) ^ s = 16 ^ (2 * s) := by rw [Nat.pow_mul]
    rw [octs_succ, show 2 * (s + 1) = 2 * s + 1 + 1 by omega, digs, digs, List.map_cons, List.map_cons, ← b16_digs n s, Nat.pow_succ, ← Nat.div_div_eq_div_mul, ← e]
    show hexU _ :: hexU _ :: b16 (octs n s) = _
    rw [h.1, h.2]
theorem code4_form {size n : Nat} : code4 size n = (digs 16 (2 * size) (n * 2 ^ 0)).map (fun d : Nat => hexU d) := by
  rw [Nat.pow_zero, Nat.mul_one]; exact b16_digs n size
theorem code4_ok {size : Nat} (h1 : 1 ≤ size) (h3 : size ≤ 3) : Code (2 * size) (8 * size) 4 (code4 size) :=
  code_of (pad := 0) (φ := fun d : Nat => hexU d) (by decide) (by omega) (by decide) hexU_ok.1 hexU_ok.2 fun n _ => code4_form
/-- the numbers -/
theorem bit_sum {x y a b : Nat} (m1 : x % 2 = 1 ↔ ¬ (a % 2 = 1 ↔ b % 2 = 1)) (m2 : y % 2 = 1 ↔ a % 2 = 1 ∧ b % 2 = 1) : x % 2 + 2 * (y % 2) = a % 2 + b % 2 := by
  rcases Nat.mod_two_eq_zero_or_one a with ha | ha <;> rcases Nat.mod_two_eq_zero_or_one b with hb | hb <;> rcases Nat.mod_two_eq_zero_or_one x with hx | hx <;> rcases Nat.mod_two_eq_zero_or_one y with hy | hy <;> simp_all
theorem xor_and : ∀ (a b : Nat), (a ^^^ b) + 2 * (a &&& b) = a + b := by
  intro a
  induction a using Nat.strongRecOn with
  | ind a ih =>
    intro b
    by_cases h : a = 0
    · subst h; simp
    · have i := ih (a / 2) (Nat.div_lt_self (Nat.pos_of_ne_zero h) (by decide)) (b / 2)
      have s := bit_sum (Nat.xor_mod_two_eq_one (a := a) (b := b)) (Nat.and_mod_two_eq_one (a := a) (b := b))
      rw [← Nat.xor_div_two, ← Nat.and_div_two] at i
      generalize a ^^^ b = x at i s ⊢
      generalize a &&& b = y at i s ⊢
      have d := fun n : Nat => Nat.div_add_mod n 2
      have d1 := d x
      have d2 := d y
      have d3 := d a
      have d4 := d b
      generalize x / 2 = x' at *
      generalize y / 2 = y' at *
      generalize a / 2 = a' at *
      generalize b / 2 = b' at *
      omega
theorem bitXor_nat (a b : Nat) : Builtin.bitXor (a : Int) (b : Int) = ((a ^^^ b : Nat) : Int) := by
  rw [bitXor_and, bitAnd_pp (by omega) (by omega)]
  have := xor_and a b
  simp only [Int.toNat_natCast]
  omega
def nxtN (size last : Nat) (x : Int) : Nat := last ^^^ (x.fdiv 9 % 2 ^ (size * (x.fmod 9).toNat)).toNat
def numsNStep (size : Nat) (acc : List Nat) (x : Int) : List Nat := acc ++ [nxtN size (acc.getLastD 0) x]
def numsN (size : Nat) (draws : List Int) : List Nat := ([2359304, 299, 9220] ++ draws).foldl (numsNStep size) [16510910 % 256 ^ size]
theorem nums_fold (size : Nat) (hs : size ≤ 3) : ∀ (xs : List Int) (acc : List Nat), acc ≠ [] → (∀ n ∈ acc, n < 2 ^ (8 * size)) → xs.foldl (numsStep size) (acc.map fun (n : Nat) => (n : Int)) = (xs.foldl (numsNStep size) acc).map (fun (n : Nat) => (n : Int)) ∧ ∀ n ∈ xs.foldl (numsNStep size) acc, n < 2 ^ (8 * size)
  | [], acc, _, h => ⟨rfl, h⟩
  | x :: xs, acc, hne, h => by
    have hpos : (0 : Int) < 2 ^ (size * (x.fmod 9).toNat) := Int.pow_pos (by decide)
    have hm0 : 0 ≤ x.fdiv 9 % 2 ^ (size * (x.fmod 9).toNat) := Int.emod_nonneg _ (by omega)
    have hm1 := Int.emod_lt_of_pos (x.fdiv 9) hpos
    have hl : acc.getLastD 0 < 2 ^ (8 * size) := by
      cases acc with
      | nil => exact absurd rfl hne
      | cons y ys => rw [List.getLastD_cons]; exact h _ (by
          rw [List.getLastD_eq_getLast?]
          cases hy : ys.getLast? with
          | none => simp
          | some z => exact List.mem_cons_of_mem _ (List.mem_of_getLast? hy))
    have hlm : (acc.map fun (n : Nat) => (n : Int)).getLastD 0 = ((acc.getLastD 0 : Nat) : Int) := by
      cases acc with
      | nil => rfl
      | cons y ys =>
        rw [List.map_cons, List.getLastD_cons, List.getLastD_cons, List.getLastD_eq_getLast?, List.getLastD_eq_getLast?, List.getLast?_map]
        cases ys.getLast? <;> rfl
    have hnx : nxt size ((acc.getLastD 0 : Nat) : Int) x = ((nxtN size (acc.getLastD 0) x : Nat) : Int) := by
      unfold nxt nxtN
      obtain ⟨r, hr⟩ : ∃ r : Nat, x.fdiv 9 % 2 ^ (size * (x.fmod 9).toNat) = r := ⟨_, (Int.toNat_of_nonneg hm0).symm⟩
      rw [hr, bitXor_nat, Int.toNat_natCast]
    have hb : nxtN size (acc.getLastD 0) x < 2 ^ (8 * size) := by
      unfold nxtN
      refine Nat.xor_lt_two_pow hl ?_
      have h9 : (x.fmod 9).toNat ≤ 8 := by have := Int.fmod_lt_of_pos x (show (0 : Int) < 9 by decide); omega
      have hle : (2 : Nat) ^ (size * (x.fmod 9).toNat) ≤ 2 ^ (8 * size) := Nat.pow_le_pow_right (by decide) (by rw [Nat.mul_comm 8 size]; exact Nat.mul_le_mul_left _ h9)
      have : (x.fdiv 9 % 2 ^ (size * (x.fmod 9).toNat)).toNat < 2 ^ (size * (x.fmod 9).toNat) := by
        have e : ((2 ^ (size * (x.fmod 9).toNat) : Nat) : Int) = (2 : Int) ^ (size * (x.fmod 9).toNat) := by push_cast; rfl
        omega
      omega
    rw [List.foldl_cons, List.foldl_cons, numsStep, hlm, hnx]
    have := nums_fold size hs xs (numsNStep size acc x) (by simp [numsNStep]) (fun n hn => by
      rcases List.mem_append.mp hn with hn | hn
      · exact h n hn
      · rw [List.mem_singleton.mp hn]; exact hb)
    simpa [numsNStep] using this
theorem nums_nat {size : Nat} (hs : size ≤ 3) (draws : List Int) : nums size draws = (numsN size draws).map (fun (n : Nat) => (n : Int)) ∧ ∀ n ∈ numsN size draws, n < 2 ^ (8 * size) := by
  have := nums_fold size hs ([2359304, 299, 9220] ++ draws) [16510910 % 256 ^ size] (by simp) (fun n hn => by
    rw [List.mem_singleton.mp hn, Nat.pow_mul]
    exact Nat.mod_lt _ (Nat.pow_pos (by decide)))
  unfold nums numsN
  simpa using this
theorem nums_len (size : Nat) : ∀ (xs : List Int) (acc : List Nat), (xs.foldl (numsNStep size) acc).length = acc.length + xs.length
  | [], acc => rfl
  | x :: xs, acc => by rw [List.foldl_cons, nums_len size xs]; simp [numsNStep]; omega
end Mine
namespace Mine
section
variable {c : Cx} {n : Nat} {s₀ : Shared} {Mut : List Addr} {env : Env} {own mu : List Addr} {σ : Sg} {Q : Flow → Shared → Prop}
theorem PS.seq (J : Sg → Prop) {ss ts : List Stmt} (p : PS c n s₀ Mut env own mu σ ss (fun f s' => f = .next ∧ ∃ σ'', J σ'' ∧ St c s₀ Mut env own mu σ'' s')) (q : ∀ σ'', J σ'' → PS c n s₀ Mut env own mu σ'' ts Q) : PS c n s₀ Mut env own mu σ (ss ++ ts) Q := by
  intro A s E rm y
  rw [execs_append]
  refine wpAny_bind (wpAny_mono (p A s E rm y) (fun f s' h => ?_) fun _ _ e => e)
  obtain ⟨rfl, σ'', hJ, y'⟩ := h
  exact q σ'' hJ A s' E rm y'
/-- an if without else, with what both ways give -/
theorem PS.iteJ (J : Sg → Prop) {test : Expr} {body rest : List Stmt} {pos : Pos} {b : Bool} (p : PT c n env own σ test b) (q₁ : b = true → PS c n s₀ Mut env own mu σ body (fun f s' => f = .next ∧ ∃ σ'', J σ'' ∧ St c s₀ Mut env own mu σ'' s')) (q₂ : b = false → J σ)
    (q : ∀ σ'', J σ'' → PS c n s₀ Mut env own mu σ'' rest Q) : PS c n s₀ Mut env own mu σ (.If test body [] pos :: rest) Q :=
  PS.ite p (fun h => PS.seq J (q₁ h) q) (fun h => q σ (q₂ h))
end
theorem clip_nat (len k : Nat) : clipAt len (k : Int) = min k len := by unfold clipAt; split <;> omega
theorem take_min {α : Type} (l : List α) (k : Nat) : l.take (min k l.length) = l.take k := by
  by_cases h : k ≤ l.length
  · rw [Nat.min_eq_left h]
  · rw [Nat.min_eq_right (by omega), List.take_length, List.take_of_length_le (by omega)]
theorem drop_min {α : Type} (l : List α) (k : Nat) : l.drop (min k l.length) = l.drop k := by
  by_cases h : k ≤ l.length
  · rw [Nat.min_eq_left h]
  · rw [Nat.min_eq_right (by omega), List.drop_length, List.drop_of_length_le (by omega)]
theorem cut_take (l : List Int) (k : Nat) : cutD (dInts l) none (some (k : Int)) = dInts (l.take k) := by
  unfold cutD
  simp only [Option.elim_none, Option.elim_some, List.drop_zero, Nat.sub_zero, clip_nat, take_min]
  unfold dInts; rw [List.map_take]
theorem cut_drop (l : List Int) (k : Nat) : cutD (dInts l) (some (k : Int)) none = dInts (l.drop k) := by
  unfold cutD
  simp only [Option.elim_none, Option.elim_some, clip_nat, drop_min]
  rw [List.take_of_length_le (by rw [List.length_drop]; omega)]
  unfold dInts; rw [List.map_drop]
theorem octs_oct (m : Int) (size : Nat) : Oct (octs m size) := by
  intro k hk
  unfold octs at hk
  obtain ⟨j, _, rfl⟩ := List.mem_map.mp hk
  omega
theorem octs_len (m : Int) (size : Nat) : (octs m size).length = size := by unfold octs; simp
theorem rep_ints (k : Nat) (x : Int) : (List.replicate k [D.int x]).flatten = dInts (List.replicate k x) := by
  unfold dInts
  induction k with
  | zero => rfl
  | succ k ih => rw [List.replicate_succ, List.flatten_cons, ih, List.replicate_succ]; rfl
theorem neg_mod3 {size : Nat} (h1 : 1 ≤ size) (h3 : size ≤ 3) : ((-(size : Int)).fmod 3).toNat = places size * 3 - 4 * size ∧ 0 ≤ (-(size : Int)).fmod 3 ∧ (-(size : Int)).fmod 3 < 3 := by
  have : size = 1 ∨ size = 2 ∨ size = 3 := by omega
  rcases this with rfl | rfl | rfl <;> decide
theorem Fm.le {c : Cx} {n m : Nat} {fv : Value} {ds args es : List D} {kds : List (Str × D)} (h : Fm c n fv ds args kds es) (hn : n ≤ m) : Fm c m fv ds args kds es :=
  fun own a A s vs us kvs Q E rm => h own a A s vs us kvs Q E (rm.le hn)
theorem PE.lc {c : Cx} {n : Nat} {env : Env} {own : List Addr} {σ : Sg} {α : Type} {elt iter : Expr} {x : Str} {px pos : Pos} {ifs : List Expr} {scope : Scope} {cl : List (Str × Addr)} {τ : Sg} {d : D} {F : Addr → Prop} (S : Seen env scope cl x σ τ) (as : List α) (g : α → D) (p : α → Bool) (f : α → D)
    (src : Src c n env own F σ iter (as.map g)) (hz : as.length ≤ 1000000)
    (tests : ∀ y ∈ as, ∀ C own', PTs c n (compEnvC scope cl C env) own' ((x, .fz (g y)) :: τ) ifs (p y))
    (elts : ∀ y ∈ as, p y = true → ∀ C own', PE c n (compEnvC scope cl C env) own' ((x, .fz (g y)) :: τ) elt (f y))
    (he : d = .list ((as.filter p).map f) := by rfl)
    (hs : ∀ x, foldedSetIterable iter env x = pure x := by intro _; rfl) : PE c n env own σ (.ListComp elt [⟨.Name x px, iter, ifs, 0⟩] scope pos) d := by
  rw [he]
  exact PE.listcomp S as g p f src hz tests elts hs
end Mine
namespace Mine
set_option maxHeartbeats 8000000 in
open_top hd for PySem.Challenge.rw_mq0227_02
end Mine
namespace Mine
noncomputable abbrev KF (P : Params) : Frag := hd.heap_39 P
def fnD (K : Frag) (a : Addr) : Option FuncData := match K.lookup a with
  | some ⟨_, _, .func fd, _⟩ => some fd
  | _ => none
theorem lookup_fn {K : Frag} {a : Addr} {fd : FuncData} (h : fnD K a = some fd) : ∃ o, K.lookup a = some o ∧ o.data = .func fd := by
  unfold fnD at h
  split at h
  · rename_i e; cases h; exact ⟨_, e, rfl⟩
  · cases h
theorem fnAt {c : Cx} {a : Addr} {fd : FuncData} (hK : c.K = KF c.w.params) (h : fnD (KF c.w.params) a = some fd) {body : List Stmt} (hb : fd.body = .stmts body) (hc : codeIn (KF c.w.params) fd.code fd.qualname = true) (h1 : fd.closure = []) (h2 : fd.globals = mainGlobals) (h3 : fd.builtins = builtinsNs)
    (h4 : fd.scope.kind = .function) (h5 : fd.scope.isGenerator = false) (h6 : fd.scope.isCoroutine = false) (h7 : ((cellsFrom 0 fd.scope.names []).map (·.1)).Nodup) : FnAt c a fd body := by
  refine ⟨?_, hb, by rw [hK]; exact hc, h1, h2, h3, h4, h5, h6, h7⟩
  rw [hK]; exact lookup_fn h
section
variable {c : Cx} {n : Nat} {env : Env} {own : List Addr} {σ : Sg} (hK : c.K = KF c.w.params)
include hK
theorem PE.gl {x : Str} {pos : Pos} {v : Value} (hk : env.kindOf x = some .globalImplicit) (e : nsIn (KF c.w.params) mainGlobals x = some (some v)) (hd : (x == ("__debug__" : Str)) = false := by decide) : PE c n env own σ (.Name x pos) (.atom v) := PE.glob hk (by rw [hK]; exact e) hd
theorem PE.gb {x : Str} {pos : Pos} {b : Array UInt8} {tk : Tok} {ks : List Int} (hk : env.kindOf x = some .globalImplicit) (e : nsIn (KF c.w.params) mainGlobals x = some (some (.bytes b tk))) (hb : KBw.bInts b = ks) (hd : (x == ("__debug__" : Str)) = false := by decide) : PE c n env own σ (.Name x pos) (.bytes ks) := PE.globBytes hk (by rw [hK]; exact e) hb hd
theorem PE.bi {x : Str} {pos : Pos} {v : Value} (hk : env.kindOf x = some .globalImplicit) (e : nsIn (KF c.w.params) mainGlobals x = some none) (hv : bootBuiltins x = some v) (hn : x ≠ "__name__" := by decide) (hd : (x == ("__debug__" : Str)) = false := by decide) : PE c n env own σ (.Name x pos) (.atom v) := PE.builtin hk (by rw [hK]; exact e) hv hn hd
theorem Callable.fk {f : Addr} {o : Obj} {fd : FuncData} (h : (KF c.w.params).lookup f = some o) (hd : o.data = .func fd) : Callable c (.ref f) := .fn (by rw [hK]; exact h) hd
end
end Mine
namespace Mine
section
variable {c : Cx} (hK : c.K = KF c.w.params)
include hK
theorem cl_bl {as : List (List Int)} {x : List Int} {ds : List D} (hz : as.length ≤ 1000) (hds : ds = [.list (dLists as), .list (dInts x)] ∨ ds = [.list (dLists as), .list (dInts x), .int 0, .none]) : Cl c 2 (.ref 57) ds [] (.int (bis (fun i => ltI (as.getD i []) x) 0 as.length)) := by
  refine Cl.df (fnAt hK rfl rfl ?_ rfl rfl rfl rfl rfl rfl ?_) ["a", "x", "lo", "hi", "key"] [.list (dLists as), .list (dInts x), .int 0, .none, .none] ?_ rfl ?_ ?_ ?_
  · with_unfolding_all rfl
  · decide
  · intro own h vs kvs r r'
    obtain rfl := r'.nil'
    rcases hds with rfl | rfl
    · obtain ⟨v, w, rfl, r1, r2⟩ := r.two'
      refine ⟨?bl, ?h1, ?h2, ?h3⟩
      case h1 => rw [hK]; rfl
      case h2 => rfl
      case h3 => exact .cons r1 (.cons r2 (.cons (.inl (.int 0 _)) (.cons (.inl .none) (.cons (.inl .none) .nil))))
    · obtain ⟨v, w, y, z, rfl, r1, r2, r3, r4⟩ := r.four'
      refine ⟨?bl', ?h1', ?h2', ?h3'⟩
      case h1' => rw [hK]; rfl
      case h2' => rfl
      case h3' => exact .cons r1 (.cons r2 (.cons r3 (.cons r4 (.cons (.inl .none) .nil))))
  · decide
  · decide
  · intro own s L
    refine PS.ite (b := false) (PT.cmp (PI.name rfl) PE.cInt.toPI op_lt_int) (fun h => by cases h) fun _ => ?_
    refine PS.ite (b := true) (PT.cmp (PI.name rfl) PE.cNone.toPI op_is_none) (fun _ => ?_) (fun h => by cases h)
    refine PS.assign (.inl rfl) (PE.call (PE.bi hK rfl rfl rfl) (.builtin _) (.cons (PI.name rfl) .nil) .nil (cl_lenN (by rw [show (dLists as).length = as.length from List.length_map ..]; omega))) ?_
    refine PS.ite (b := true) (PT.cmp (PI.name rfl) PE.cNone.toPI op_is_none) (fun _ => ?_) (fun h => by cases h)
    refine PS.whil (m := as.length) (fun k σ => ∃ lo hi : Nat, σ.v "a" = some (.wk (.list (dLists as))) ∧ σ.v "x" = some (.wk (.list (dInts x))) ∧ σ.v "lo" = some (.fz (.int lo)) ∧ σ.v "hi" = some (.fz (.int hi)) ∧
      lo ≤ hi ∧ hi ≤ as.length ∧ k = hi - lo ∧ bis (fun i => ltI (as.getD i []) x) lo hi = bis (fun i => ltI (as.getD i []) x) 0 as.length) ⟨0, as.length, rfl, rfl, rfl, by simp [sgW, dLists], Nat.zero_le _, Nat.le_refl _, rfl, rfl⟩ ?_
    rintro k σ ⟨lo, hi, ea, ex, elo, ehi, h1, h2, rfl, e⟩
    refine ⟨_, PT.cmp (PI.name elo) (PI.name ehi) op_lt_int, fun hb => ?_, fun hb => ?_⟩
    · have hlt : lo < hi := by simpa using hb
      refine PS.assign (.inl rfl) (PE.bin (PE.bin (PI.name elo) (PI.name ehi) op_add_int).toPI PE.cInt.toPI (op_div_int (by decide) (by decide))) ?_
      obtain ⟨m1, m2, em⟩ := mid_of hlt
      have hm : (lo + hi) / 2 < as.length := Nat.lt_of_lt_of_le m2 h2
      rw [em]
      refine PS.ite (PT.cmp (PE.toPI (PE.sub (PI.name ea) (PI.name rfl) (it_listN (k := (lo + hi) / 2) (d := .list (dInts (as.getD ((lo + hi) / 2) []))) (by rw [show (dLists as).length = as.length from List.length_map ..]; omega) ?_))) (PI.name ex) op_lt_ints) (fun hb2 => ?_) (fun hb2 => ?_)
      · exact dLists_get hm
      · refine PS.assign (.inl rfl) (PE.bin (PI.name rfl) PE.cInt.toPI op_add_int) (PS.nilW (hi - ((lo + hi) / 2 + 1)) (mid_r hlt) ⟨(lo + hi) / 2 + 1, hi, ea, ex, rfl, ehi, m2, h2, rfl, ?_⟩)
        rw [← e, bis.eq_1 _ lo hi, dif_pos hlt, if_pos hb2]
      · refine PS.assign (.inl rfl) (PE.name rfl) (PS.nilW ((lo + hi) / 2 - lo) (mid_l hlt) ⟨lo, (lo + hi) / 2, ea, ex, elo, rfl, m1, Nat.le_of_lt hm, rfl, ?_⟩)
        rw [← e, bis.eq_1 _ lo hi, dif_pos hlt, if_neg (by simpa using hb2)]
    · have hlt : ¬ lo < hi := by simpa using hb
      refine PS.retE (PE.conv (PE.name elo) ?_) (fun _ h => h)
      rw [← e, bis, dif_neg hlt]
theorem cl_br {as : List (List Int)} {x : List Int} {ds : List D} (hz : as.length ≤ 1000) (hds : ds = [.list (dLists as), .list (dInts x)] ∨ ds = [.list (dLists as), .list (dInts x), .int 0, .none]) : Cl c 2 (.ref 39) ds [] (.int (bis (fun i => !ltI x (as.getD i [])) 0 as.length)) := by
  refine Cl.df (fnAt hK rfl rfl ?_ rfl rfl rfl rfl rfl rfl ?_) ["a", "x", "lo", "hi", "key"] [.list (dLists as), .list (dInts x), .int 0, .none, .none] ?_ rfl ?_ ?_ ?_
  · with_unfolding_all rfl
  · decide
  · intro own h vs kvs r r'
    obtain rfl := r'.nil'
    rcases hds with rfl | rfl
    · obtain ⟨v, w, rfl, r1, r2⟩ := r.two'
      refine ⟨?bl, ?h1, ?h2, ?h3⟩
      case h1 => rw [hK]; rfl
      case h2 => rfl
      case h3 => exact .cons r1 (.cons r2 (.cons (.inl (.int 0 _)) (.cons (.inl .none) (.cons (.inl .none) .nil))))
    · obtain ⟨v, w, y, z, rfl, r1, r2, r3, r4⟩ := r.four'
      refine ⟨?bl', ?h1', ?h2', ?h3'⟩
      case h1' => rw [hK]; rfl
      case h2' => rfl
      case h3' => exact .cons r1 (.cons r2 (.cons r3 (.cons r4 (.cons (.inl .none) .nil))))
  · decide
  · decide
  · intro own s L
    refine PS.ite (b := false) (PT.cmp (PI.name rfl) PE.cInt.toPI op_lt_int) (fun h => by cases h) fun _ => ?_
    refine PS.ite (b := true) (PT.cmp (PI.name rfl) PE.cNone.toPI op_is_none) (fun _ => ?_) (fun h => by cases h)
    refine PS.assign (.inl rfl) (PE.call (PE.bi hK rfl rfl rfl) (.builtin _) (.cons (PI.name rfl) .nil) .nil (cl_lenN (by rw [show (dLists as).length = as.length from List.length_map ..]; omega))) ?_
    refine PS.ite (b := true) (PT.cmp (PI.name rfl) PE.cNone.toPI op_is_none) (fun _ => ?_) (fun h => by cases h)
    refine PS.whil (m := as.length) (fun k σ => ∃ lo hi : Nat, σ.v "a" = some (.wk (.list (dLists as))) ∧ σ.v "x" = some (.wk (.list (dInts x))) ∧ σ.v "lo" = some (.fz (.int lo)) ∧ σ.v "hi" = some (.fz (.int hi)) ∧
      lo ≤ hi ∧ hi ≤ as.length ∧ k = hi - lo ∧ bis (fun i => !ltI x (as.getD i [])) lo hi = bis (fun i => !ltI x (as.getD i [])) 0 as.length) ⟨0, as.length, rfl, rfl, rfl, by simp [sgW, dLists], Nat.zero_le _, Nat.le_refl _, rfl, rfl⟩ ?_
    rintro k σ ⟨lo, hi, ea, ex, elo, ehi, h1, h2, rfl, e⟩
    refine ⟨_, PT.cmp (PI.name elo) (PI.name ehi) op_lt_int, fun hb => ?_, fun hb => ?_⟩
    · have hlt : lo < hi := by simpa using hb
      refine PS.assign (.inl rfl) (PE.bin (PE.bin (PI.name elo) (PI.name ehi) op_add_int).toPI PE.cInt.toPI (op_div_int (by decide) (by decide))) ?_
      obtain ⟨m1, m2, em⟩ := mid_of hlt
      have hm : (lo + hi) / 2 < as.length := Nat.lt_of_lt_of_le m2 h2
      rw [em]
      refine PS.ite (PT.cmp (PI.name ex) (PE.toPI (PE.sub (PI.name ea) (PI.name rfl) (it_listN (k := (lo + hi) / 2) (d := .list (dInts (as.getD ((lo + hi) / 2) []))) (by rw [show (dLists as).length = as.length from List.length_map ..]; omega) ?_))) op_lt_ints) (fun hb2 => ?_) (fun hb2 => ?_)
      · exact dLists_get hm
      · refine PS.assign (.inl rfl) (PE.name rfl) (PS.nilW ((lo + hi) / 2 - lo) (mid_l hlt) ⟨lo, (lo + hi) / 2, ea, ex, elo, rfl, m1, Nat.le_of_lt hm, rfl, ?_⟩)
        rw [← e, bis.eq_1 _ lo hi, dif_pos hlt, if_neg (by simpa using hb2)]
      · refine PS.assign (.inl rfl) (PE.bin (PI.name rfl) PE.cInt.toPI op_add_int) (PS.nilW (hi - ((lo + hi) / 2 + 1)) (mid_r hlt) ⟨(lo + hi) / 2 + 1, hi, ea, ex, rfl, ehi, m2, h2, rfl, ?_⟩)
        rw [← e, bis.eq_1 _ lo hi, dif_pos hlt, if_pos (by simpa using hb2)]
    · have hlt : ¬ lo < hi := by simpa using hb
      refine PS.retE (PE.conv (PE.name elo) ?_) (fun _ h => h)
      rw [← e, bis, dif_neg hlt]
theorem cl_il {as : List (List Int)} {x : List Int} (hz : as.length ≤ 1000) (hb : bis (fun i => ltI (as.getD i []) x) 0 as.length ≤ as.length) :
    Fm c 3 (.ref 48) (dLists as) [.list (dInts x)] [] (dLists (as.take (bis (fun i => ltI (as.getD i []) x) 0 as.length) ++ x :: as.drop (bis (fun i => ltI (as.getD i []) x) 0 as.length))) := by
  refine Fm.df (fnAt hK rfl rfl ?_ rfl rfl rfl rfl rfl rfl ?_) "a" ["x", "lo", "hi", "key"] [.list (dInts x), .int 0, .none, .none] ?_ ?_ ?_ ?_
  · with_unfolding_all rfl
  · decide
  · intro own h a us kvs r r'
    obtain rfl := r'.nil'
    cases r with
    | cons r1 r2 =>
      cases r2
      refine ⟨?bl, ?h1, ?h2, ?h3⟩
      case h1 => rw [hK]; rfl
      case h2 => rfl
      case h3 => exact .cons r1 (.cons (.int 0 _) (.cons .none (.cons .none .nil)))
  · decide
  · decide
  · intro own a s L ha
    refine PS.ite (b := true) (PT.cmp (PI.name rfl) PE.cNone.toPI op_is_none) (fun _ => ?_) (fun h => by cases h)
    refine PS.assign (.inl rfl) (PE.call (PE.gl hK rfl rfl) (.fk hK rfl rfl) (.cons (PI.name rfl) (.cons (PI.name rfl) (.cons (PI.name rfl) (.cons (PI.name rfl) .nil)))) .nil (cl_bl hK hz (.inr rfl))) ?_
    refine PS.ownMeth rfl (List.mem_singleton.mpr rfl) (noWk_of rfl) F.slot_list_insert F.type_list_insert (.cons (PE.name rfl) (.cons (PE.name rfl) .nil)) (eff_insert (by omega) (by simpa [dLists] using hb) (by simpa [dLists] using (by omega : as.length ≤ 1000000))) (PS.nil fun s' st => ⟨rfl, _, (by show some (SV.ow a _) = some (SV.ow a _); rw [Int.toNat_natCast, dLists_ins]), st⟩)
theorem cl_ir {as : List (List Int)} {x : List Int} (hz : as.length ≤ 1000) (hb : bis (fun i => !ltI x (as.getD i [])) 0 as.length ≤ as.length) :
    Fm c 3 (.ref 30) (dLists as) [.list (dInts x)] [] (dLists (as.take (bis (fun i => !ltI x (as.getD i [])) 0 as.length) ++ x :: as.drop (bis (fun i => !ltI x (as.getD i [])) 0 as.length))) := by
  refine Fm.df (fnAt hK rfl rfl ?_ rfl rfl rfl rfl rfl rfl ?_) "a" ["x", "lo", "hi", "key"] [.list (dInts x), .int 0, .none, .none] ?_ ?_ ?_ ?_
  · with_unfolding_all rfl
  · decide
  · intro own h a us kvs r r'
    obtain rfl := r'.nil'
    cases r with
    | cons r1 r2 =>
      cases r2
      refine ⟨?bl, ?h1, ?h2, ?h3⟩
      case h1 => rw [hK]; rfl
      case h2 => rfl
      case h3 => exact .cons r1 (.cons (.int 0 _) (.cons .none (.cons .none .nil)))
  · decide
  · decide
  · intro own a s L ha
    refine PS.ite (b := true) (PT.cmp (PI.name rfl) PE.cNone.toPI op_is_none) (fun _ => ?_) (fun h => by cases h)
    refine PS.assign (.inl rfl) (PE.call (PE.gl hK rfl rfl) (.fk hK rfl rfl) (.cons (PI.name rfl) (.cons (PI.name rfl) (.cons (PI.name rfl) (.cons (PI.name rfl) .nil)))) .nil (cl_br hK hz (.inr rfl))) ?_
    refine PS.ownMeth rfl (List.mem_singleton.mpr rfl) (noWk_of rfl) F.slot_list_insert F.type_list_insert (.cons (PE.name rfl) (.cons (PE.name rfl) .nil)) (eff_insert (by omega) (by simpa [dLists] using hb) (by simpa [dLists] using (by omega : as.length ≤ 1000000))) (PS.nil fun s' st => ⟨rfl, _, (by show some (SV.ow a _) = some (SV.ow a _); rw [Int.toNat_natCast, dLists_ins]), st⟩)
end
end Mine
namespace Mine
theorem KwI.one' {own : List Addr} {h : Heap} {kvs : List (Str × Value)} {x : Str} {d : D} (r : KwI own h kvs [(x, d)]) : ∃ v, kvs = [(x, v)] ∧ RdI own h v d := by
  obtain ⟨h1, h2⟩ := r
  rcases kvs with _ | ⟨⟨y, v⟩, _ | _⟩
  · simp at h1
  · simp only [List.map_cons, List.map_nil, List.cons.injEq, and_true] at h1
    subst h1
    cases h2 with
    | cons a _ => exact ⟨v, rfl, a⟩
  · simp at h1
section
variable {c : Cx} (hK : c.K = KF c.w.params)
include hK
theorem cl_buffer {ks : List Int} : Cl c 1 (.ref 64) [.bytes ks] [] (.bytes ks) := by
  refine Cl.df (fnAt hK rfl rfl ?_ rfl rfl rfl rfl rfl rfl ?_) ["data"] [.bytes ks] ?_ rfl ?_ ?_ ?_
  · with_unfolding_all rfl
  · decide
  · intro own h vs kvs r r'
    obtain rfl := r'.nil'
    obtain ⟨v, rfl, r1⟩ := r.one'
    refine ⟨?bl, ?h1, ?h2, ?h3⟩
    case h1 => rw [hK]; rfl
    case h2 => rfl
    case h3 => exact .cons r1 .nil
  · decide
  · decide
  · intro own s L
    refine PS.assign (.inl rfl) (PE.call (PE.bi hK rfl rfl rfl) (.type _) (.cons (PI.name rfl) .nil) .nil cl_type_bytes) ?_
    refine PS.ite (b := true) (PT.cmp (PI.name rfl) (PE.toPI (PE.bi hK rfl rfl rfl)) (op_is_plain rfl)) (fun _ => ?_) (fun h => by cases h)
    exact PS.retE (PE.name rfl) (fun _ h => h)
theorem cl_truth : Cl c 1 (.ref 71) [.bool false] [] (.bool false) := by
  refine Cl.df (fnAt hK rfl rfl ?_ rfl rfl rfl rfl rfl rfl ?_) ["x"] [.bool false] ?_ rfl ?_ ?_ ?_
  · with_unfolding_all rfl
  · decide
  · intro own h vs kvs r r'
    obtain rfl := r'.nil'
    obtain ⟨v, rfl, r1⟩ := r.one'
    refine ⟨?bl, ?h1, ?h2, ?h3⟩
    case h1 => rw [hK]; rfl
    case h2 => rfl
    case h3 => exact .cons r1 .nil
  · decide
  · decide
  · intro own s L
    refine PS.assign (.inl rfl) (PE.call (PE.bi hK rfl rfl rfl) (.type _) (.cons (PI.name rfl) .nil) .nil cl_type_bool) ?_
    refine PS.ite (b := true) (PT.boolop (PAll.or (b₁ := false) (PT.cmp (PI.name rfl) PE.cNone.toPI op_is_none) fun _ => PAll.or (b₁ := true) (b₂ := false) (PT.cmp (PI.name rfl) (PE.toPI (PE.bi hK rfl rfl rfl)) (op_is_plain rfl)) (fun h => by cases h))) (fun _ => ?_) (fun h => by cases h)
    exact PS.retE (PE.ifexp (b := false) (d₁ := .none) (PT.value (PI.name rfl) tr_bool) (fun h => by cases h) (fun _ => PE.cBool)) (fun _ h => h)
theorem cl_b2a {ks : List Int} (ho : Oct ks) (hz : ks.length ≤ 1000) : Cl c 2 (.ref 79) [.bytes ks] [("newline", .bool false)] (.bytes (b64 ks)) := by
  refine Cl.df (fnAt hK rfl rfl ?_ rfl rfl rfl rfl rfl rfl ?_) ["data", "newline"] [.bytes ks, .bool false] ?_ rfl ?_ ?_ ?_
  · with_unfolding_all rfl
  · decide
  · intro own h vs kvs r r'
    obtain ⟨v, rfl, r1⟩ := r.one'
    obtain ⟨w, rfl, r2⟩ := r'.one'
    refine ⟨?bl, ?h1, ?h2, ?h3⟩
    case h1 => rw [hK]; rfl
    case h2 => rfl
    case h3 => exact .cons r1 (.cons r2 .nil)
  · decide
  · decide
  · intro own s L
    rw [← enc64_eq ho]
    refine PS.assign (.inl rfl) (PE.call (PE.gl hK rfl rfl) (.fk hK rfl rfl) (.cons (PI.name rfl) .nil) .nil (cl_buffer hK)) ?_
    refine PS.assign (.inl rfl) (PE.call (PE.gl hK rfl rfl) (.fk hK rfl rfl) (.cons (PI.name rfl) .nil) .nil (cl_truth hK)) ?_
    refine PS.newOwn (.inl rfl) .nil fun a ha => ?_
    refine PS.assign (.inl rfl) PE.cInt ?_
    refine PS.assign (.inl rfl) PE.cInt ?_
    refine PS.loop (ds := dInts ks) (Src.bytes (PE.toPI (PE.name rfl))) (.inl rfl)
      (fun i σ => ∃ st : S64, st = (ks.take i).foldl step64 ⟨[], 0, 0⟩ ∧ σ.v "out" = some (.ow a (dInts st.out)) ∧ σ.v "leftbits" = some (.fz (.int st.lb)) ∧ σ.v "leftchar" = some (.fz (.int st.lc)) ∧ σ.v "newline" = some (.fz (.bool false)) ∧
        noWk σ ∧ st.out.length ≤ 2 * i ∧ (st.lb = 0 ∨ st.lb = 2 ∨ st.lb = 4) ∧ 0 ≤ st.lc ∧ st.lc < 65536 ∧ Oct st.out) ⟨⟨[], 0, 0⟩, rfl, rfl, rfl, rfl, rfl, noWk_of rfl, by simp, .inl rfl, by simp, by simp, by simp [Oct]⟩ ?_ ?_
    · rintro s₁ i d σ hd ⟨st, est, e1, e2, e3, e4, hw, h5, h6, h7, h8, h9⟩
      obtain ⟨k, hk, rfl⟩ : ∃ k, ks[i]? = some k ∧ d = .int k := by
        unfold dInts at hd
        rw [List.getElem?_map] at hd
        cases hk : ks[i]? with
        | none => rw [hk] at hd; cases hd
        | some k => rw [hk] at hd; cases hd; exact ⟨k, rfl, rfl⟩
      have hk2 := ho k (List.mem_of_getElem? hk)
      have hil : i < ks.length := (List.getElem?_eq_some_iff.mp hk).1
      refine PS.assign (.inl rfl) (PE.conv (PE.bin (PE.toPI (PE.bin (PE.toPI (PE.bin (PI.name e3) PE.cInt.toPI (op_shl_int (by decide) (by decide) (by omega)))) (PI.name rfl) op_or_int)) PE.cInt.toPI op_and_int)
        (show _ = D.int ((st.lc * 256 + k) % 65536) from congrArg D.int ((congrArg (Builtin.bitAnd · 65535) (or_shift h7 hk2.1 hk2.2)).trans (bitAnd_m16 _)))) ?_
      refine PS.assign (.inl rfl) (PE.conv (PE.bin (PI.name e2) PE.cInt.toPI op_add_int) (show _ = D.int ((st.lb + 8 : Nat) : Int) from rfl)) ?_
      generalize hlc : (st.lc * 256 + k) % 65536 = lc
      have hlc0 : 0 ≤ lc ∧ lc < 65536 := by omega
      have hst : ∀ out lb, drain lc (st.lb + 8) st.out = (out, lb) → step64 st k = ⟨out, lb, lc⟩ := by
        intro out lb e
        unfold step64
        rw [hlc, e]
      have hlb : ∀ out lb, drain lc (st.lb + 8) st.out = (out, lb) → lb = 0 ∨ lb = 2 ∨ lb = 4 := by
        intro out lb e
        rcases h6 with q | q | q <;> rw [q] at e
        · rw [drain8] at e; cases e; simp
        · rw [drain10] at e; cases e; simp
        · rw [drain12] at e; cases e; simp
      refine PS.whil (m := st.lb + 8) (fun m σ => ∃ out : List Int, ∃ lb : Nat, m = lb ∧ σ.v "out" = some (.ow a (dInts out)) ∧ σ.v "leftbits" = some (.fz (.int lb)) ∧ σ.v "leftchar" = some (.fz (.int lc)) ∧ σ.v "newline" = some (.fz (.bool false)) ∧ noWk σ ∧
        drain lc lb out = drain lc (st.lb + 8) st.out ∧ Oct out ∧ out.length + lb / 6 ≤ 2 * i + 2) ⟨st.out, st.lb + 8, rfl, e1, rfl, rfl, e4, hw.fz.fz.fz, rfl, h9, by omega⟩ ?_
      rintro m σ ⟨out, lb, rfl, f1, f2, f3, f4, fw, f5, f6, f7⟩
      refine ⟨_, PT.cmp (PI.name f2) PE.cInt.toPI op_ge_int, fun hb => ?_, fun hb => ?_⟩
      · have hb' : 6 ≤ m := by have := of_decide_eq_true hb; omega
        have hr := sgn_oct (lc / 2 ^ (m - 6) % 64)
        refine PS.ownMeth (es := dInts (out ++ [sgn (lc / 2 ^ (m - 6) % 64)])) f1 List.mem_cons_self fw F.slot_list_append F.type_list_append
          (.cons (PE.sub (d₁ := .bytes alpha) (PE.toPI (PE.gb hK rfl rfl rfl)) (PE.toPI (PE.conv (PE.bin (PE.toPI (PE.bin (PI.name f3) (PE.toPI (PE.bin (PI.name f2) PE.cInt.toPI op_sub_int)) (op_shr_int (by omega)))) PE.cInt.toPI op_and_int)
            (show _ = D.int (lc / 2 ^ (m - 6) % 64) from ?_))) (it_bytes (by decide) (by omega) (by rw [alpha_len]; omega))) .nil) ?_ ?_
        · refine congrArg D.int ?_
          rw [bitAnd_m6, show ((m : Int) - 6).toNat = m - 6 by omega, Int.fdiv_eq_ediv_of_nonneg _ (Int.le_of_lt (Int.pow_pos (by decide)))]
        · rw [show dInts (out ++ [sgn (lc / 2 ^ (m - 6) % 64)]) = dInts out ++ [.int (sgn (lc / 2 ^ (m - 6) % 64))] by simp [dInts]]
          exact eff_append (by simp [dInts]; omega)
        · refine PS.assign (.inl rfl) (PE.conv (PE.bin (PI.name f2) PE.cInt.toPI op_sub_int) (show _ = D.int ((m - 6 : Nat) : Int) from congrArg D.int (by omega))) (PS.nilW (m - 6) (by omega) ⟨_, m - 6, rfl, rfl, rfl, f3, f4, fw.ow.fz, ?_, f6.snoc hr, ?_⟩)
          · rw [← f5, drain.eq_1 lc m, if_pos hb']
          · rw [List.length_append]; simp; omega
      · have hb' : ¬ 6 ≤ m := by have := of_decide_eq_false hb; omega
        have hd : drain lc (st.lb + 8) st.out = (out, m) := by rw [← f5, drain, if_neg hb']
        refine PS.nilF ⟨⟨out, m, lc⟩, ?_, f1, f2, f3, f4, fw, by show out.length ≤ _; omega, hlb out m hd, hlc0.1, hlc0.2, f6⟩
        rw [List.take_add_one, hk]
        show _ = (ks.take i ++ [k]).foldl step64 _
        rw [List.foldl_append, ← est, List.foldl_cons, List.foldl_nil, hst out m hd]
    · rintro σ ⟨st, est, e1, e2, e3, e4, hw, h5, h6, h7, h8, h9⟩
      rw [show (dInts ks).length = ks.length by simp [dInts], List.take_length] at est
      have hlen : st.out.length ≤ 2 * ks.length := by simpa [dInts] using h5
      have efin : enc64 ks = fin64 st := by rw [est]; rfl
      rw [efin]
      obtain ⟨out, lb, lc⟩ := st
      simp only at e1 e2 e3 h6 h7 h8 h9 hlen
      have hap : ∀ (out : List Int) (x : Int), dInts (out ++ [x]) = dInts out ++ [.int x] := fun out x => by simp [dInts]
      rcases h6 with rfl | rfl | rfl
      · refine PS.ite (b := false) (PT.cmp (PI.name e2) PE.cInt.toPI op_eq_int) (fun h => by cases h) fun _ => ?_
        refine PS.ite (b := false) (PT.cmp (PI.name e2) PE.cInt.toPI op_eq_int) (fun h => by cases h) fun _ => ?_
        refine PS.ite (b := false) (PT.value (PI.name e4) tr_bool) (fun h => by cases h) fun _ => ?_
        exact PS.retE (PE.call (PE.bi hK rfl rfl rfl) (.type _) (.cons (PI.name e1) .nil) .nil (cl_bytes h9 (by rw [sizeLine_eq]; omega))) fun b h => List.mem_cons_of_mem _ h
      · have hs := sgn_oct (lc % 4 * 16)
        refine PS.ite (b := true) (PT.cmp (PI.name e2) PE.cInt.toPI op_eq_int) (fun _ => ?_) (fun h => by cases h)
        refine PS.ownMeth (es := dInts (out ++ [sgn (lc % 4 * 16)])) e1 List.mem_cons_self hw F.slot_list_append F.type_list_append
          (.cons (PE.sub (d₁ := .bytes alpha) (PE.toPI (PE.gb hK rfl rfl rfl)) (PE.toPI (PE.conv (PE.bin (PE.toPI (PE.bin (PI.name e3) PE.cInt.toPI op_and_int)) PE.cInt.toPI (op_shl_int (by decide) (by decide) ?_))
            (show _ = D.int (lc % 4 * 16) from congrArg D.int (congrArg (· * 16) (bitAnd_m2 lc))))) (it_bytes (by decide) (by omega) (by rw [alpha_len]; omega))) .nil) (by rw [hap]; exact eff_append (by simp [dInts]; omega)) ?_
        · rw [bitAnd_m2]; omega
        refine PS.ownMeth (es := dInts (out ++ [sgn (lc % 4 * 16)] ++ [61])) rfl List.mem_cons_self hw.ow F.slot_list_append F.type_list_append (.cons PE.cInt .nil) (by rw [hap (out ++ _)]; exact eff_append (by simp [dInts]; omega)) ?_
        refine PS.ownMeth (es := dInts (out ++ [sgn (lc % 4 * 16)] ++ [61] ++ [61])) rfl List.mem_cons_self hw.ow.ow F.slot_list_append F.type_list_append (.cons PE.cInt .nil) (by rw [hap (out ++ _ ++ _)]; exact eff_append (by simp [dInts]; omega)) ?_
        refine PS.ite (b := false) (PT.value (PI.name e4) tr_bool) (fun h => by cases h) fun _ => ?_
        refine PS.retE (PE.conv (PE.call (PE.bi hK rfl rfl rfl) (.type _) (.cons (PI.name rfl) .nil) .nil (cl_bytes (((h9.snoc hs).snoc (by decide)).snoc (by decide)) (by rw [sizeLine_eq]; simp; omega))) ?_) fun b h => List.mem_cons_of_mem _ h
        simp [fin64]
      · have hs := sgn_oct (lc % 16 * 4)
        refine PS.ite (b := false) (PT.cmp (PI.name e2) PE.cInt.toPI op_eq_int) (fun h => by cases h) fun _ => ?_
        refine PS.ite (b := true) (PT.cmp (PI.name e2) PE.cInt.toPI op_eq_int) (fun _ => ?_) (fun h => by cases h)
        refine PS.ownMeth (es := dInts (out ++ [sgn (lc % 16 * 4)])) e1 List.mem_cons_self hw F.slot_list_append F.type_list_append
          (.cons (PE.sub (d₁ := .bytes alpha) (PE.toPI (PE.gb hK rfl rfl rfl)) (PE.toPI (PE.conv (PE.bin (PE.toPI (PE.bin (PI.name e3) PE.cInt.toPI op_and_int)) PE.cInt.toPI (op_shl_int (by decide) (by decide) ?_))
            (show _ = D.int (lc % 16 * 4) from congrArg D.int (congrArg (· * 4) (bitAnd_m4 lc))))) (it_bytes (by decide) (by omega) (by rw [alpha_len]; omega))) .nil) (by rw [hap]; exact eff_append (by simp [dInts]; omega)) ?_
        · rw [bitAnd_m4]; omega
        refine PS.ownMeth (es := dInts (out ++ [sgn (lc % 16 * 4)] ++ [61])) rfl List.mem_cons_self hw.ow F.slot_list_append F.type_list_append (.cons PE.cInt .nil) (by rw [hap (out ++ _)]; exact eff_append (by simp [dInts]; omega)) ?_
        refine PS.ite (b := false) (PT.value (PI.name e4) tr_bool) (fun h => by cases h) fun _ => ?_
        refine PS.retE (PE.conv (PE.call (PE.bi hK rfl rfl rfl) (.type _) (.cons (PI.name rfl) .nil) .nil (cl_bytes ((h9.snoc hs).snoc (by decide)) (by rw [sizeLine_eq]; simp; omega))) ?_) fun b h => List.mem_cons_of_mem _ h
        simp [fin64]
end
end Mine
namespace Mine
section
variable {c : Cx} (hK : c.K = KF c.w.params)
include hK
theorem cl_hexlify {ks : List Int} (ho : Oct ks) (hz : ks.length ≤ 1000) : Cl c 2 (.ref 88) [.bytes ks] [] (.bytes ((hexCps ks).map fun (k : Nat) => (k : Int))) := by
  refine Cl.df (fnAt hK rfl rfl ?_ rfl rfl rfl rfl rfl rfl ?_) ["data", "sep", "bytes_per_sep"] [.bytes ks, .atom (.ref 80), .int 1] ?_ rfl ?_ ?_ ?_
  · with_unfolding_all rfl
  · decide
  · intro own h vs kvs r r'
    obtain rfl := r'.nil'
    obtain ⟨v0, rfl, r0⟩ := r.one'
    refine ⟨?bl, ?h1, ?h2, ?h3⟩
    case h1 => rw [hK]; rfl
    case h2 => rfl
    case h3 => exact .cons r0 (.cons (.inl (.atom _)) (.cons (.inl (.int 1 _)) .nil))
  · decide
  · decide
  · intro own s L
    refine PS.assign (.inl rfl) (PE.call (PE.gl hK rfl rfl) (.fk hK rfl rfl) (.cons (PI.name rfl) .nil) .nil (cl_buffer hK)) ?_
    refine PS.ite (b := false) (PT.boolop (PAll.or (b₁ := false) (PT.cmp (PE.toPI (PE.call (PE.bi hK rfl rfl rfl) (.type _) (.cons (PI.name rfl) .nil) .nil cl_type_int)) (PE.toPI (PE.bi hK rfl rfl rfl)) (op_isnot_plain rfl)) fun _ =>
      PAll.or (b₁ := false) (PT.cmp (PI.name rfl) (PE.toPI (PE.una PE.cInt.toPI op_neg_int)) op_lt_int) fun _ => PAll.or (b₁ := false) (PT.cmp (PI.name rfl) PE.cInt.toPI op_gt_int) fun _ => PAll.orNil)) (fun h => by cases h) fun _ => ?_
    refine PS.ite (b := true) (PT.cmp (PI.name rfl) (PE.toPI (PE.gl hK rfl rfl)) op_is_self) (fun _ => ?_) (fun h => by cases h)
    exact PS.retE (PE.meth (PE.toPI (PE.meth (PE.toPI (PE.name rfl)) (.bytes ks) FB.plainAttrs_bytes FB.slot_bytes_hex FB.type_bytes_hex .nil (cl_hex hz))) (.str _) F.plainAttrs_str F.slot_str_encode F.type_str_encode (.cons PE.cStr.toPI .nil) (cl_encode (hexCps_lt ho) (by rw [hexCps_length]; omega))) (fun _ h => h)
theorem cl_b16 {ks : List Int} (ho : Oct ks) (hz : ks.length ≤ 1000) : Cl c 3 (.ref 117) [.bytes ks] [] (.bytes (b16 ks)) := by
  refine Cl.df (fnAt hK rfl rfl ?_ rfl rfl rfl rfl rfl rfl ?_) ["s"] [.bytes ks] ?_ rfl ?_ ?_ ?_
  · with_unfolding_all rfl
  · decide
  · intro own h vs kvs r r'
    obtain rfl := r'.nil'
    obtain ⟨v0, rfl, r0⟩ := r.one'
    refine ⟨?bl, ?h1, ?h2, ?h3⟩
    case h1 => rw [hK]; rfl
    case h2 => rfl
    case h3 => exact .cons r0 .nil
  · decide
  · decide
  · intro own s L
    rw [← hexCps_up ho]
    exact PS.retE (PE.meth (PE.toPI (PE.call (PE.gl hK rfl rfl) (.fk hK rfl rfl) (.cons (PI.name rfl) .nil) .nil (cl_hexlify hK ho hz))) (.bytes _) FB.plainAttrs_bytes slot_upper type_upper .nil (cl_upper (by rw [List.length_map, hexCps_length]; omega))) (fun _ h => h)
theorem cl_b64 {ks : List Int} (ho : Oct ks) (hz : ks.length ≤ 1000) : Cl c 3 (.ref 96) [.bytes ks] [] (.bytes (b64 ks)) := by
  refine Cl.df (fnAt hK rfl rfl ?_ rfl rfl rfl rfl rfl rfl ?_) ["s", "altchars"] [.bytes ks, .none] ?_ rfl ?_ ?_ ?_
  · with_unfolding_all rfl
  · decide
  · intro own h vs kvs r r'
    obtain rfl := r'.nil'
    obtain ⟨v0, rfl, r0⟩ := r.one'
    refine ⟨?bl, ?h1, ?h2, ?h3⟩
    case h1 => rw [hK]; rfl
    case h2 => rfl
    case h3 => exact .cons r0 (.cons (.inl .none) .nil)
  · decide
  · decide
  · intro own s L
    refine PS.assign (.inl rfl) (PE.call (PE.gl hK rfl rfl) (.fk hK rfl rfl) (.cons (PI.name rfl) .nil) (.cons PE.cBool.toPI .nil) (cl_b2a hK ho hz)) ?_
    refine PS.ite (b := false) (PT.cmp (PI.name rfl) PE.cNone.toPI op_isnot_none) (fun h => by cases h) fun _ => ?_
    exact PS.retE (PE.name rfl) (fun _ h => h)
theorem cl_b64alt {ks : List Int} {x y : Int} (ho : Oct ks) (hz : ks.length ≤ 1000) : Cl c 3 (.ref 96) [.bytes ks, .bytes [x, y]] [] (.bytes ((b64 ks).map (tr x y))) := by
  refine Cl.df (fnAt hK rfl rfl ?_ rfl rfl rfl rfl rfl rfl ?_) ["s", "altchars"] [.bytes ks, .bytes [x, y]] ?_ rfl ?_ ?_ ?_
  · with_unfolding_all rfl
  · decide
  · intro own h vs kvs r r'
    obtain rfl := r'.nil'
    obtain ⟨v0, v1, rfl, r0, r1⟩ := r.two'
    refine ⟨?bl, ?h1, ?h2, ?h3⟩
    case h1 => rw [hK]; rfl
    case h2 => rfl
    case h3 => exact .cons r0 (.cons r1 .nil)
  · decide
  · decide
  · intro own s L
    have hl := b64_len ks
    rw [← map_tab (b64_oct ks)]
    refine PS.assign (.inl rfl) (PE.call (PE.gl hK rfl rfl) (.fk hK rfl rfl) (.cons (PI.name rfl) .nil) (.cons PE.cBool.toPI .nil) (cl_b2a hK ho hz)) ?_
    refine PS.ite (b := true) (PT.cmp (PI.name rfl) PE.cNone.toPI op_isnot_none) (fun _ => ?_) (fun h => by cases h)
    refine PS.assert (PT.cmp (PE.toPI (PE.call (PE.bi hK rfl rfl rfl) (.builtin _) (.cons (PI.name rfl) .nil) .nil (cl_len_bytes (ks := [x, y]) (by simp)))) PE.cInt.toPI op_eq_int) ?_
    exact PS.retE (PE.meth (PE.toPI (PE.name rfl)) (.bytes _) FB.plainAttrs_bytes slot_translate type_translate (.cons (PE.toPI (PE.smeth (PE.bi hK rfl rfl rfl) rfl rfl (by rw [hK]; rfl) rfl (.cons (PE.toPI (PE.conv PE.cBytes rfl)) (.cons (PI.name rfl) .nil)) cl_maketrans)) .nil) (cl_translate (by omega) (by simp [mkTab]))) (fun _ h => h)
theorem cl_std {ks : List Int} (ho : Oct ks) (hz : ks.length ≤ 1000) : Cl c 4 (.ref 103) [.bytes ks] [] (.bytes (b64 ks)) := by
  refine Cl.df (fnAt hK rfl rfl ?_ rfl rfl rfl rfl rfl rfl ?_) ["s"] [.bytes ks] ?_ rfl ?_ ?_ ?_
  · with_unfolding_all rfl
  · decide
  · intro own h vs kvs r r'
    obtain rfl := r'.nil'
    obtain ⟨v0, rfl, r0⟩ := r.one'
    refine ⟨?bl, ?h1, ?h2, ?h3⟩
    case h1 => rw [hK]; rfl
    case h2 => rfl
    case h3 => exact .cons r0 .nil
  · decide
  · decide
  · intro own s L
    exact PS.retE (PE.call (PE.gl hK rfl rfl) (.fk hK rfl rfl) (.cons (PI.name rfl) .nil) .nil (cl_b64 hK ho hz)) (fun _ h => h)
theorem cl_url {ks : List Int} (ho : Oct ks) (hz : ks.length ≤ 1000) : Cl c 4 (.ref 110) [.bytes ks] [] (.bytes ((b64 ks).map (tr 45 95))) := by
  refine Cl.df (fnAt hK rfl rfl ?_ rfl rfl rfl rfl rfl rfl ?_) ["s"] [.bytes ks] ?_ rfl ?_ ?_ ?_
  · with_unfolding_all rfl
  · decide
  · intro own h vs kvs r r'
    obtain rfl := r'.nil'
    obtain ⟨v0, rfl, r0⟩ := r.one'
    refine ⟨?bl, ?h1, ?h2, ?h3⟩
    case h1 => rw [hK]; rfl
    case h2 => rfl
    case h3 => exact .cons r0 .nil
  · decide
  · decide
  · intro own s L
    have hl := b64_len ks
    rw [← map_tab (b64_oct ks)]
    exact PS.retE (PE.meth (PE.toPI (PE.call (PE.gl hK rfl rfl) (.fk hK rfl rfl) (.cons (PI.name rfl) .nil) .nil (cl_b64 hK ho hz))) (.bytes _) FB.plainAttrs_bytes slot_translate type_translate (.cons (PE.toPI (PE.gb hK rfl rfl (by decide +kernel : _ = mkTab 45 95))) .nil) (cl_translate (by omega) (by simp [mkTab]))) (fun _ h => h)
theorem cl_write {ks : List Int} {which : Nat} (hw : which < 5) (ho : Oct ks) (hz : ks.length ≤ 1000) : Cl c 5 (.ref 124) [.bytes ks, .int which] [] (.bytes (wr which ks)) := by
  refine Cl.df (fnAt hK rfl rfl ?_ rfl rfl rfl rfl rfl rfl ?_) ["octets", "which"] [.bytes ks, .int which] ?_ rfl ?_ ?_ ?_
  · with_unfolding_all rfl
  · decide
  · intro own h vs kvs r r'
    obtain rfl := r'.nil'
    obtain ⟨v0, v1, rfl, r0, r1⟩ := r.two'
    refine ⟨?bl, ?h1, ?h2, ?h3⟩
    case h1 => rw [hK]; rfl
    case h2 => rfl
    case h3 => exact .cons r0 (.cons r1 .nil)
  · decide
  · decide
  · intro own s L
    have five : which = 0 ∨ which = 1 ∨ which = 2 ∨ which = 3 ∨ which = 4 := by omega
    rcases five with rfl | rfl | rfl | rfl | rfl
    · refine PS.ite (b := true) (PT.cmp (PI.name rfl) PE.cInt.toPI op_eq_int) (fun _ => ?_) (fun h => by cases h)
      rw [wr0]
      exact PS.retE (PE.call (PE.gl hK rfl rfl) (.fk hK rfl rfl) (.cons (PI.name rfl) .nil) .nil (cl_std hK ho hz)) (fun _ h => h)
    · refine PS.ite (b := false) (PT.cmp (PI.name rfl) PE.cInt.toPI op_eq_int) (fun h => by cases h) fun _ => ?_
      refine PS.ite (b := true) (PT.cmp (PI.name rfl) PE.cInt.toPI op_eq_int) (fun _ => ?_) (fun h => by cases h)
      exact PS.retE (PE.call (PE.gl hK rfl rfl) (.fk hK rfl rfl) (.cons (PI.name rfl) .nil) .nil (cl_url hK ho hz)) (fun _ h => h)
    · refine PS.ite (b := false) (PT.cmp (PI.name rfl) PE.cInt.toPI op_eq_int) (fun h => by cases h) fun _ => ?_
      refine PS.ite (b := false) (PT.cmp (PI.name rfl) PE.cInt.toPI op_eq_int) (fun h => by cases h) fun _ => ?_
      refine PS.retE (PE.call (PE.gl hK rfl rfl) (.fk hK rfl rfl) (.cons (PI.name rfl) (.cons (PE.toPI (PE.sub (PE.toPI (PE.list (.cons (PE.conv PE.cBytes (show _ = D.bytes [126, 33] from rfl)) (.cons (PE.conv PE.cBytes (show _ = D.bytes [58, 64] from rfl)) (.cons (PE.conv PE.cBytes (show _ = D.bytes [96, 35] from rfl)) .nil))))) (PE.toPI (PE.bin (PI.name rfl) PE.cInt.toPI op_sub_int)) (it_list (d := .bytes [126, 33]) (by decide) (by decide) rfl))) .nil)) .nil ((cl_b64alt hK ho hz).le (by decide))) (fun _ h => h)
    · refine PS.ite (b := false) (PT.cmp (PI.name rfl) PE.cInt.toPI op_eq_int) (fun h => by cases h) fun _ => ?_
      refine PS.ite (b := false) (PT.cmp (PI.name rfl) PE.cInt.toPI op_eq_int) (fun h => by cases h) fun _ => ?_
      refine PS.retE (PE.call (PE.gl hK rfl rfl) (.fk hK rfl rfl) (.cons (PI.name rfl) (.cons (PE.toPI (PE.sub (PE.toPI (PE.list (.cons (PE.conv PE.cBytes (show _ = D.bytes [126, 33] from rfl)) (.cons (PE.conv PE.cBytes (show _ = D.bytes [58, 64] from rfl)) (.cons (PE.conv PE.cBytes (show _ = D.bytes [96, 35] from rfl)) .nil))))) (PE.toPI (PE.bin (PI.name rfl) PE.cInt.toPI op_sub_int)) (it_list (d := .bytes [58, 64]) (by decide) (by decide) rfl))) .nil)) .nil ((cl_b64alt hK ho hz).le (by decide))) (fun _ h => h)
    · refine PS.ite (b := false) (PT.cmp (PI.name rfl) PE.cInt.toPI op_eq_int) (fun h => by cases h) fun _ => ?_
      refine PS.ite (b := false) (PT.cmp (PI.name rfl) PE.cInt.toPI op_eq_int) (fun h => by cases h) fun _ => ?_
      refine PS.retE (PE.call (PE.gl hK rfl rfl) (.fk hK rfl rfl) (.cons (PI.name rfl) (.cons (PE.toPI (PE.sub (PE.toPI (PE.list (.cons (PE.conv PE.cBytes (show _ = D.bytes [126, 33] from rfl)) (.cons (PE.conv PE.cBytes (show _ = D.bytes [58, 64] from rfl)) (.cons (PE.conv PE.cBytes (show _ = D.bytes [96, 35] from rfl)) .nil))))) (PE.toPI (PE.bin (PI.name rfl) PE.cInt.toPI op_sub_int)) (it_list (d := .bytes [96, 35]) (by decide) (by decide) rfl))) .nil)) .nil ((cl_b64alt hK ho hz).le (by decide))) (fun _ h => h)
end
end Mine
namespace Mine
section
variable {c : Cx} (hK : c.K = KF c.w.params)
include hK
theorem cl_figures {m : Nat} : Cl c 1 (.ref 143) [.int m] [] (.int (figs m)) := by
  refine Cl.df (fnAt hK rfl rfl ?_ rfl rfl rfl rfl rfl rfl ?_) ["number"] [.int m] ?_ rfl ?_ ?_ ?_
  · with_unfolding_all rfl
  · decide
  · intro own h vs kvs r r'
    obtain rfl := r'.nil'
    obtain ⟨v, rfl, r1⟩ := r.one'
    refine ⟨?bl, ?h1, ?h2, ?h3⟩
    case h1 => rw [hK]; rfl
    case h2 => rfl
    case h3 => exact .cons r1 .nil
  · decide
  · decide
  · intro own s L
    refine PS.assign (.inl rfl) PE.cInt ?_
    refine PS.whil (m := m) (fun k σ => ∃ cnt : Nat, σ.v "number" = some (.fz (.int k)) ∧ σ.v "count" = some (.fz (.int cnt)) ∧ figs k + cnt = figs m) ⟨0, rfl, rfl, rfl⟩ ?_
    rintro k σ ⟨cnt, e1, e2, e3⟩
    refine ⟨_, PT.cmp (PI.name e1) PE.cInt.toPI op_gt_int, fun hb => ?_, fun hb => ?_⟩
    · have hlt : 0 < k := by have := of_decide_eq_true hb; omega
      refine PS.assign (.inl rfl) (PE.conv (PE.bin (PI.name e1) PE.cInt.toPI (op_div_int (by decide) (by decide))) (show _ = D.int ((k / 2 : Nat) : Int) from congrArg D.int (by rw [Int.fdiv_eq_ediv_of_nonneg _ (by decide)]; omega))) ?_
      refine PS.assign (.inl rfl) (PE.conv (PE.bin (PI.name e2) PE.cInt.toPI op_add_int) (show _ = D.int ((cnt + 1 : Nat) : Int) from rfl)) (PS.nilW (k / 2) (by omega) ⟨cnt + 1, rfl, rfl, ?_⟩)
      rw [← e3, figs.eq_1 k, if_neg (by omega)]; omega
    · have h0 : k = 0 := by have := of_decide_eq_false hb; omega
      subst h0
      refine PS.retE (PE.conv (PE.name e2) ?_) (fun _ h => h)
      rw [← e3, figs, if_pos rfl, Nat.zero_add]
theorem cl_shared {one other : List Int} (hl : one.length ≤ other.length) (hz : one.length ≤ 1000) : Cl c 1 (.ref 150) [.list (dInts one), .list (dInts other)] [] (.int (shd one other)) := by
  refine Cl.df (fnAt hK rfl rfl ?_ rfl rfl rfl rfl rfl rfl ?_) ["one", "other"] [.list (dInts one), .list (dInts other)] ?_ rfl ?_ ?_ ?_
  · with_unfolding_all rfl
  · decide
  · intro own h vs kvs r r'
    obtain rfl := r'.nil'
    obtain ⟨v, w, rfl, r1, r2⟩ := r.two'
    refine ⟨?bl, ?h1, ?h2, ?h3⟩
    case h1 => rw [hK]; rfl
    case h2 => rfl
    case h3 => exact .cons r1 (.cons r2 .nil)
  · decide
  · decide
  · intro own s L
    refine PS.assign (.inl rfl) PE.cInt ?_
    have hget : ∀ {l : List Int} {i : Nat}, i < l.length → (dInts l)[i]? = some (.int (l.getD i 0)) := fun {l i} h => by
      unfold dInts; rw [List.getElem?_map, List.getD_eq_getElem?_getD, List.getElem?_eq_getElem h]; rfl
    refine PS.whil (m := one.length) (fun k σ => ∃ i : Nat, σ.v "one" = some (.wk (.list (dInts one))) ∧ σ.v "other" = some (.wk (.list (dInts other))) ∧ σ.v "count" = some (.fz (.int i)) ∧ i + k = one.length ∧ one.take i = other.take i) ⟨0, rfl, rfl, rfl, by omega, by simp⟩ ?_
    rintro k σ ⟨i, e1, e2, e3, e4, e5⟩
    by_cases hlt : i < one.length
    · refine ⟨_, PT.boolop (PAll.and (b₁ := true) (PT.conv (PT.cmp (PI.name e3) (PE.toPI (PE.call (PE.builtin rfl (by rw [hK]; rfl) rfl) (.builtin _) (.cons (PI.name e1) .nil) .nil (cl_len_list (by simp [dInts]; omega)))) op_lt_int) (by simp [dInts]; omega)) fun _ => PAll.and
        (PT.cmp (PE.toPI (PE.sub (PI.name e1) (PI.name e3) (it_list (k := (i : Nat)) (d := .int (one.getD i 0)) (by omega) (by omega) (hget hlt)))) (PE.toPI (PE.sub (PI.name e2) (PI.name e3) (it_list (k := (i : Nat)) (d := .int (other.getD i 0)) (by omega) (by omega) (hget (by omega))))) op_eq_int) fun _ => PAll.andNil), fun hb => ?_, fun hb => ?_⟩
      · have hq : one.getD i 0 = other.getD i 0 := by simpa using hb
        exact PS.assign (.inl rfl) (PE.conv (PE.bin (PI.name e3) PE.cInt.toPI op_add_int) (show _ = D.int ((i + 1 : Nat) : Int) from rfl)) (PS.nilW (k - 1) (by omega) ⟨i + 1, e1, e2, rfl, by omega, shd_step e5 hlt (by omega) hq⟩)
      · have hq : one.getD i 0 ≠ other.getD i 0 := by simpa using hb
        refine PS.retE (PE.conv (PE.name e3) ?_) (fun _ h => h)
        rw [shd_stop e5 hlt (by omega) hq]
    · refine ⟨false, PT.boolop (PAll.and (b₁ := false) (b₂ := false) (PT.conv (PT.cmp (PI.name e3) (PE.toPI (PE.call (PE.builtin rfl (by rw [hK]; rfl) rfl) (.builtin _) (.cons (PI.name e1) .nil) .nil (cl_len_list (by simp [dInts]; omega)))) op_lt_int) (by simp [dInts]; omega)) (fun h => by cases h)), (fun hb => by cases hb), fun hb => ?_⟩
      have hi : i = one.length := by omega
      refine PS.retE (PE.conv (PE.name e3) ?_) (fun _ h => h)
      subst hi
      rw [shd_end (by rw [← e5, List.take_length])]
theorem cl_span {as : List (List Int)} {x : List Int} (hz : as.length ≤ 1000) (hx : x.length ≤ 1000) : Cl c 3 (.ref 162) [.list (dLists as), .list (dInts x)] [] (.int ((bis (fun i => ltI (as.getD i []) (x ++ [256])) 0 as.length : Nat) - (bis (fun i => ltI (as.getD i []) x) 0 as.length : Nat))) := by
  refine Cl.df (fnAt hK rfl rfl ?_ rfl rfl rfl rfl rfl rfl ?_) ["keys", "head"] [.list (dLists as), .list (dInts x)] ?_ rfl ?_ ?_ ?_
  · with_unfolding_all rfl
  · decide
  · intro own h vs kvs r r'
    obtain rfl := r'.nil'
    obtain ⟨v, w, rfl, r1, r2⟩ := r.two'
    refine ⟨?bl, ?h1, ?h2, ?h3⟩
    case h1 => rw [hK]; rfl
    case h2 => rfl
    case h3 => exact .cons r1 (.cons r2 .nil)
  · decide
  · decide
  · intro own s L
    exact PS.retE (PE.bin (PE.toPI (PE.call (PE.glob rfl (by rw [hK]; rfl)) (.fn (by rw [hK]; rfl) rfl) (.cons (PI.name rfl) (.cons (PE.toPI (PE.conv (PE.bin (PI.name rfl) (PE.toPI (PE.list (.cons PE.cInt .nil))) (op_add_list (by simp [dInts, sizeLine_eq]; omega))) (show _ = D.list (dInts (x ++ [256])) from congrArg D.list (by simp [dInts])))) .nil)) .nil (cl_bl hK hz (.inl rfl))))
      (PE.toPI (PE.call (PE.glob rfl (by rw [hK]; rfl)) (.fn (by rw [hK]; rfl) rfl) (.cons (PI.name rfl) (.cons (PI.name rfl) .nil)) .nil (cl_bl hK hz (.inl rfl)))) op_sub_int) (fun _ h => h)
theorem cl_near {as : List (List Int)} {key : List Int} {place : Nat} (hz : as.length ≤ 1000) (hp : place ≤ as.length) (hk : ∀ l ∈ as, l.length = key.length) (hl : key.length ≤ 1000) : Cl1 c 2 (.ref 155) (.list (dLists as)) [.list (dInts key), .int place] (.int (nearV as key place)) := by
  refine Cl1.df (fnAt hK rfl rfl ?_ rfl rfl rfl rfl rfl rfl ?_) "keys" ["key", "place"] [.list (dInts key), .int place] ?_ ?_ ?_ ?_
  · with_unfolding_all rfl
  · decide
  · intro own h v vs r
    cases r with
    | cons r1 r2 =>
      cases r2 with
      | cons r2 r3 =>
        cases r3
        refine ⟨?bl, ?h1, ?h2, ?h3⟩
        case h1 => rw [hK]; rfl
        case h2 => rfl
        case h3 => exact .cons r1 (.cons r2 .nil)
  · decide
  · decide
  · intro own s L
    have hw : (nearW as place).length ≤ as.length := by unfold nearW; rw [List.length_take, List.length_drop]; omega
    have hsub : ∀ l ∈ nearW as place, l ∈ as := fun l h => List.mem_of_mem_drop (List.mem_of_mem_take h)
    refine PS.retE (PE.call (PE.builtin rfl (by rw [hK]; rfl) rfl) (.builtin _) (.cons (PE.toPI (PE.conv (PE.bin (PE.toPI (PE.list (.cons PE.cInt .nil)))
      (PE.toPI (PE.listcomp (seen_of rfl (SeenT.cons (x := "key") (d := .list (dInts key)) rfl rfl rfl .nil)) (nearW as place) (fun l => .list (dInts l)) (fun _ => true) (fun l => .int (shd l key))
        (Src.list (PE.conv (PE.sliceL (PI.conv (PI.name rfl) rfl) (lo := some (max 0 ((place : Int) - 1))) (hi := some ((place : Int) + 1)) (PE.toPI (PE.call (PE.builtin rfl (by rw [hK]; rfl) rfl) (.builtin _) (.cons PE.cInt.toPI (.cons (PE.toPI (PE.bin (PI.name rfl) PE.cInt.toPI op_sub_int)) .nil)) .nil cl_max2)) (PE.toPI (PE.bin (PI.name rfl) PE.cInt.toPI op_add_int)) (by simp [dLists, sizeLine_eq]; omega)) (congrArg D.list (cut_near hp)))) (by omega)
        (fun _ _ C own' => PTs.nil)
        (fun l hlm _ C own' => PE.call (PE.glob rfl (by rw [hK]; rfl)) (.fn (by rw [hK]; rfl) rfl) (.cons (PI.name rfl) (.cons (PI.name rfl) .nil)) .nil (cl_shared hK (by rw [hk l (hsub l hlm)]; exact Nat.le_refl _) (by rw [hk l (hsub l hlm)]; exact hl))))) (op_add_list (Nat.le_trans (Nat.add_le_add_left (by rw [List.length_map]; exact List.length_filter_le _ _) _) (by simp [sizeLine_eq]; omega))))
      (show _ = D.list (dInts ((0 :: (nearW as place).map fun l => shd l key).map fun (x : Nat) => (x : Int))) from ?_))) .nil) .nil (cl_max (M := (nearV as key place : Nat)) ?_ ?_)) (fun _ h => h)
    · rw [filter_tt]; simp [dInts]
    · exact List.mem_map.mpr ⟨_, maxL_mem _, rfl⟩
    · intro x hx
      obtain ⟨y, hy, rfl⟩ := List.mem_map.mp hx
      rcases List.mem_cons.mp hy with rfl | hy
      · omega
      · have := maxL_le _ _ hy; exact Int.ofNat_le.mpr this
theorem cl_octets {m : Int} {size : Nat} (h1 : 1 ≤ size) (h3 : size ≤ 3) : Cl c 1 (.ref 136) [.int m, .int size] [] (.bytes (octs m size)) := by
  refine Cl.df (fnAt hK rfl rfl ?_ rfl rfl rfl rfl rfl rfl ?_) ["number", "size"] [.int m, .int size] ?_ rfl ?_ ?_ ?_
  · with_unfolding_all rfl
  · decide
  · intro own h vs kvs r r'
    obtain rfl := r'.nil'
    obtain ⟨v, w, rfl, r1, r2⟩ := r.two'
    refine ⟨?bl, ?h1, ?h2, ?h3⟩
    case h1 => rw [hK]; rfl
    case h2 => rfl
    case h3 => exact .cons r1 (.cons r2 .nil)
  · decide
  · decide
  · intro own s L
    refine PS.retE (PE.call (PE.builtin rfl (by rw [hK]; rfl) rfl) (.type _) (.cons (PE.toPI (PE.conv
      (PE.listcomp (seen_of rfl (SeenT.cons (x := "number") (d := .int m) rfl rfl rfl .nil)) ((List.range size).map fun (i : Nat) => ((size : Int) - 1) + (i : Int) * (-1)) (fun i => .int i) (fun _ => true) (fun i => .int (m / 256 ^ i.toNat % 256))
        (F := fun _ => True) (Src.range3 (PE.builtin rfl (by rw [hK]; rfl) rfl) (PE.toPI (PE.bin (PI.name rfl) PE.cInt.toPI op_sub_int)) (PE.toPI (PE.una PE.cInt.toPI op_neg_int)) (PE.toPI (PE.una PE.cInt.toPI op_neg_int)) (by decide) (by omega) (by decide) (by decide) (m := size) ?_ (by omega)) (by simp; omega)
        (fun _ _ C own' => PTs.nil) (fun i hi _ C own' => ?_)) (show _ = D.list (dInts (octs m size)) from ?_))) .nil) .nil (cl_bytes ?_ ?_)) (fun _ h => h)
    · show Builtin.Range.rangeSize ((size : Int) - 1) (-1) (-1) = _
      rw [rangeSize_downNat]; omega
    · obtain ⟨j, hj, rfl⟩ := List.mem_map.mp hi
      have hj' := List.mem_range.mp hj
      have hp : ((size : Int) - 1 + (j : Int) * -1).toNat ≤ 2 := by omega
      generalize hpl : (size : Int) - 1 + (j : Int) * -1 = pl at hp ⊢
      have h0 : 0 ≤ pl := by omega
      have hpos : (0 : Int) < 256 ^ pl.toNat := Int.pow_pos (by decide)
      have hle : (256 : Int) ^ pl.toNat ≤ 65536 := by
        have : pl.toNat = 0 ∨ pl.toNat = 1 ∨ pl.toNat = 2 := by omega
        rcases this with q | q | q <;> rw [q] <;> decide
      refine PE.conv (PE.bin (PE.toPI (PE.bin (PI.name rfl) (PE.toPI (PE.bin PE.cInt.toPI (PI.name rfl) (op_pow_int h0 ?_))) (op_div_int (by omega) (by omega)))) PE.cInt.toPI (op_mod_int (by decide))) (congrArg D.int ?_)
      · have : Builtin.Int.intBits 256 = 9 := by decide +kernel
        show (Builtin.Int.intBits 256 : Int) * pl ≤ 2 ^ 27
        rw [this]; omega
      · rw [Int.fmod_eq_emod_of_nonneg _ (by decide), Int.fdiv_eq_ediv_of_nonneg _ (by omega)]
    · rw [filter_tt, List.map_map]
      refine congrArg D.list ?_
      unfold dInts octs
      rw [List.map_map]
      refine List.map_congr_left fun j hj => ?_
      have hj' := List.mem_range.mp hj
      show D.int (m / 256 ^ ((size : Int) - 1 + (j : Int) * -1).toNat % 256) = D.int (m / 256 ^ (size - 1 - j) % 256)
      rw [show ((size : Int) - 1 + (j : Int) * -1).toNat = size - 1 - j by omega]
    · intro k hk
      unfold octs at hk
      obtain ⟨j, _, rfl⟩ := List.mem_map.mp hk
      omega
    · unfold octs; rw [sizeLine_eq]; simp; omega
theorem cl_numbers {draws : List Int} {size : Nat} (h1 : 1 ≤ size) (h3 : size ≤ 3) (hz : draws.length ≤ 100) : ClS c 1 (.ref 131) [.list (dInts draws), .int size] (.list (dInts (nums size draws))) := by
  refine ClS.df (fnAt hK rfl rfl ?_ rfl rfl rfl rfl rfl rfl ?_) ["draws", "size"] [.list (dInts draws), .int size] ?_ rfl ?_ ?_ ?_
  · with_unfolding_all rfl
  · decide
  · intro own h vs r
    cases r with
    | cons r1 r2 =>
      cases r2 with
      | cons r2 r3 =>
        cases r3
        refine ⟨?bl, ?h1, ?h2, ?h3⟩
        case h1 => rw [hK]; rfl
        case h2 => rfl
        case h3 => exact .cons r1 (.cons r2 .nil)
  · decide
  · decide
  · intro own s L
    have h256 : Builtin.Int.intBits 256 = 9 := by decide +kernel
    have h2 : Builtin.Int.intBits 2 = 2 := by decide +kernel
    have hpos : (0 : Int) < 256 ^ size := Int.pow_pos (by decide)
    refine PS.newOwn (ds := [.int (16510910 % 256 ^ size)]) (.inl rfl) (.cons (PE.conv (PE.bin PE.cInt.toPI (PE.toPI (PE.bin PE.cInt.toPI (PI.name rfl) (op_pow_int (by omega) (by show (Builtin.Int.intBits 256 : Int) * size ≤ _; rw [h256]; omega)))) (op_mod_int (by show (256 : Int) ^ size ≠ 0; omega)))
      (congrArg D.int (by show Int.fmod 16510910 (256 ^ size) = _; rw [Int.fmod_eq_emod_of_nonneg _ (by omega)]))) .nil) (hz := by simp [sizeLine_eq]) fun a ha => ?_
    refine PS.loop (ds := dInts ([2359304, 299, 9220] ++ draws)) (Src.list (PE.conv (PE.bin (PE.toPI (PE.list (.cons PE.cInt (.cons PE.cInt (.cons PE.cInt .nil))))) (PI.name rfl) (op_add_list (by simp [dInts, sizeLine_eq]; omega))) rfl)) (.inl rfl)
      (fun i σ => ∃ acc : List Int, acc = (([2359304, 299, 9220] ++ draws).take i).foldl (numsStep size) [16510910 % 256 ^ size] ∧ acc.length = i + 1 ∧ σ.v "numbers" = some (.ow a (dInts acc)) ∧ σ.v "size" = some (.fz (.int size)) ∧ noWk σ) ⟨_, rfl, rfl, rfl, rfl, noWk_of rfl⟩ ?_ ?_
    · rintro s₁ i d σ hd ⟨acc, eacc, hlen, e1, e2, hw⟩
      obtain ⟨x, hx, rfl⟩ := dInts_of hd
      have hi : i < ([2359304, 299, 9220] ++ draws).length := (List.getElem?_eq_some_iff.mp hx).1
      have hi' : i < 3 + draws.length := by rw [List.length_append] at hi; simpa using hi
      have hm0 : 0 ≤ x.fmod 9 := Int.fmod_nonneg_of_pos _ (by decide)
      have hm9 : x.fmod 9 < 9 := Int.fmod_lt_of_pos _ (by decide)
      obtain ⟨r, hr⟩ : ∃ r : Nat, x.fmod 9 = r := ⟨(x.fmod 9).toNat, by omega⟩
      have hsr : size * r ≤ 24 := Nat.le_trans (Nat.mul_le_mul h3 (show r ≤ 8 by omega)) (by decide)
      have hlast : (dInts acc).getLast? = some (.int (acc.getLastD 0)) := by
        unfold dInts
        rw [List.getLast?_map]
        cases acc with
        | nil => simp at hlen
        | cons y ys => rw [List.getLast?_cons, List.getLastD_cons, List.getLastD_eq_getLast?]; rfl
      refine PS.ownMeth (es := dInts (numsStep size acc x)) e1 List.mem_cons_self hw.fz F.slot_list_append F.type_list_append (.cons (PE.conv
        (PE.bin (PE.toPI (PE.sub (PI.conv (PI.name e1) rfl) (PE.toPI (PE.una PE.cInt.toPI op_neg_int)) (it_list_last (by simp [dInts]; omega) hlast)))
          (PE.toPI (PE.bin (PE.toPI (PE.bin (PI.name rfl) PE.cInt.toPI (op_div_int (by decide) (by decide)))) (PE.toPI (PE.bin PE.cInt.toPI (PE.toPI (PE.conv (PE.bin (PI.name e2) (PE.toPI (PE.conv (PE.bin (PI.name rfl) PE.cInt.toPI (op_mod_int (by decide))) (congrArg D.int hr))) (op_mul_int (IntMulOk.of_le (intBits_cast_le (by rw [sizeLine_eq]; omega)) (intBits_cast_le (by rw [sizeLine_eq]; omega)) (by decide)))) (show _ = D.int ((size * r : Nat) : Int) from congrArg D.int (by push_cast; rfl))))
            (op_pow_int (by omega) (by show (Builtin.Int.intBits 2 : Int) * ((size * r : Nat) : Int) ≤ _; rw [h2]; omega)))) (op_mod_int (by show (2 : Int) ^ (size * r) ≠ 0; exact Int.ne_of_gt (Int.pow_pos (by decide))))))
          op_xor_int) (show _ = D.int (nxt size (acc.getLastD 0) x) from congrArg D.int ?_)) .nil) ?_ (PS.nilF ⟨_, ?_, ?_, rfl, e2, hw.fz.ow⟩)
      · unfold nxt
        rw [hr]
        show Builtin.bitXor _ (Int.fmod (x.fdiv 9) (2 ^ (size * r))) = _
        rw [Int.fmod_eq_emod_of_nonneg _ (Int.le_of_lt (Int.pow_pos (by decide)))]
        rfl
      · rw [show dInts (numsStep size acc x) = dInts acc ++ [.int (nxt size (acc.getLastD 0) x)] by simp [dInts, numsStep]]
        exact eff_append (by simp [dInts]; omega)
      · rw [List.take_add_one, hx]
        show _ = (List.take i _ ++ [x]).foldl (numsStep size) _
        rw [List.foldl_append, ← eacc, List.foldl_cons, List.foldl_nil]
      · simp [numsStep, hlen]
    · rintro σ ⟨acc, eacc, hlen, e1, e2, hw⟩
      rw [show (dInts ([2359304, 299, 9220] ++ draws)).length = ([2359304, 299, 9220] ++ draws).length by simp [dInts], List.take_length] at eacc
      have : acc = nums size draws := eacc
      rw [← this]
      exact PS.retOwn e1 (fun b h => List.mem_cons_of_mem _ h) ha
end
end Mine
namespace Mine
/-- what the loop keeps -/
structure Kp (σ : Sg) (a1 a2 a3 : Addr) (which size : Nat) (E : List Nat) (S6 S4 : List (List Int)) : Prop where
  w : σ.v "which" = some (.fz (.int which))
  z : σ.v "size" = some (.fz (.int size))
  p : σ.v "places" = some (.fz (.int (places size)))
  x : σ.v "sixes" = some (.ow a1 (dLists S6))
  f : σ.v "fours" = some (.ow a2 (dLists S4))
  e : σ.v "earlier" = some (.ow a3 (E.map fun (m : Nat) => D.int m))
  nowk : noWk σ
/-- the lists stand in order -/
structure Std (which size : Nat) (E : List Nat) (S6 S4 : List (List Int)) : Prop where
  s6 : Srt S6
  s4 : Srt S4
  p6 : S6.Perm (E.map (code6 which size))
  p4 : S4.Perm (E.map (code4 size))
  lt : ∀ m ∈ E, m < 2 ^ (8 * size)
  few : E.length ≤ 100
section
variable {c : Cx} (hK : c.K = KF c.w.params)
include hK
theorem cl_law {script : List Int} (hz : script.length ≤ 63) : ClS c 7 (.ref 167) [.list (dInts script)] (.bool true) := by
  refine ClS.df (fnAt hK rfl rfl ?_ rfl rfl rfl rfl rfl rfl ?_) ["script"] [.list (dInts script)] ?_ rfl ?_ ?_ ?_
  · with_unfolding_all rfl
  · decide
  · intro own h vs r
    cases r with
    | cons r1 r2 =>
      cases r2
      refine ⟨?bl, ?h1, ?h2, ?h3⟩
      case h1 => rw [hK]; rfl
      case h2 => rfl
      case h3 => exact .cons r1 .nil
  · decide
  · decide
  · intro own s L
    obtain ⟨size, hsz⟩ : ∃ size : Nat, ((script.take 10).sum + 2).fmod 3 + 1 = size := ⟨(((script.take 10).sum + 2).fmod 3 + 1).toNat, by have := Int.fmod_nonneg_of_pos ((script.take 10).sum + 2) (show (0 : Int) < 3 by decide); omega⟩
    have hs1 : 1 ≤ size := by have := Int.fmod_nonneg_of_pos ((script.take 10).sum + 2) (show (0 : Int) < 3 by decide); omega
    have hs3 : size ≤ 3 := by have := Int.fmod_lt_of_pos ((script.take 10).sum + 2) (show (0 : Int) < 3 by decide); omega
    obtain ⟨which, hwh⟩ : ∃ which : Nat, ((script.take 10).sum + 1).fmod 5 = which := ⟨(((script.take 10).sum + 1).fmod 5).toNat, by have := Int.fmod_nonneg_of_pos ((script.take 10).sum + 1) (show (0 : Int) < 5 by decide); omega⟩
    have hw5 : which < 5 := by have := Int.fmod_lt_of_pos ((script.take 10).sum + 1) (show (0 : Int) < 5 by decide); omega
    refine PS.assign (.inl rfl) (PE.conv (PE.sliceL (PI.conv (PI.name rfl) rfl) (lo := none) (hi := some 10) trivial (PE.toPI PE.cInt) (by simp [dInts, sizeLine_eq]; omega)) (show _ = D.list (dInts (script.take 10)) from congrArg D.list (cut_take script 10))) ?_
    refine PS.assign (.inl rfl) (PE.call (PE.builtin rfl (by rw [hK]; rfl) rfl) (.builtin _) (.cons (PI.name rfl) .nil) .nil cl_sum) ?_
    refine PS.assign (.inr ⟨rfl, rfl⟩) (PE.conv (PE.bin (PE.toPI (PE.bin (PE.toPI (PE.bin (PI.name rfl) PE.cInt.toPI op_add_int)) PE.cInt.toPI (op_mod_int (by decide)))) PE.cInt.toPI op_add_int) (show _ = D.int (size : Int) from congrArg D.int hsz)) ?_
    refine PS.assign (.inl rfl) (PE.conv (PE.bin (PE.toPI (PE.bin (PI.name rfl) PE.cInt.toPI op_add_int)) PE.cInt.toPI (op_mod_int (by decide))) (show _ = D.int (which : Int) from congrArg D.int hwh)) ?_
    refine PS.assign (.inl rfl) (PE.conv (PE.bin (PE.toPI (PE.bin (PE.toPI (PE.bin PE.cInt.toPI (PI.name rfl) (op_mul_int ?_))) PE.cInt.toPI op_add_int)) PE.cInt.toPI (op_div_int (by decide) (by decide))) (show _ = D.int (places size : Int) from ?_)) ?_
    · exact IntMulOk.of_le (m := 64) (n := 64) (intBits_cast_le (k := 4) (by rw [sizeLine_eq]; decide)) (intBits_cast_le (by rw [sizeLine_eq]; omega)) (by decide)
    · refine congrArg D.int ?_
      rw [Int.fdiv_eq_ediv_of_nonneg _ (by decide)]
      unfold places; omega
    refine PS.newOwn (.inl rfl) .nil fun a1 ha1 => ?_
    refine PS.newOwn (.inl rfl) .nil fun a2 ha2 => ?_
    refine PS.newOwn (.inl rfl) .nil fun a3 ha3 => ?_
    have hN := nums_nat hs3 (script.take 10)
    generalize hNs : numsN size (script.take 10) = Ns at hN
    have hNl : Ns.length ≤ 14 := by rw [← hNs, numsN, nums_len]; simp; omega
    refine PS.loop (ds := Ns.map fun (m : Nat) => D.int m) (Src.list (PE.conv (PE.callS (PE.glob rfl (by rw [hK]; rfl)) (.fn (by rw [hK]; rfl) rfl) (.cons (PE.name rfl) (.cons (PE.name rfl) .nil)) ((cl_numbers hK hs1 hs3 (by simp; omega)).le (by decide))) ?_)) (.inr ⟨rfl, rfl⟩)
      (fun i σ => ∃ S6 S4, Kp σ a1 a2 a3 which size (Ns.take i) S6 S4 ∧ Std which size (Ns.take i) S6 S4) ⟨[], [], ⟨rfl, rfl, rfl, rfl, rfl, rfl, noWk_of rfl⟩, ⟨.nil, .nil, .nil, .nil, by simp, by simp⟩⟩ ?_ ?_
    · rw [hN.1]; simp [dInts]
    · rintro s₁ i d σ hd ⟨S6, S4, kp, st⟩
      obtain ⟨n, hn, rfl⟩ : ∃ n, Ns[i]? = some n ∧ d = .int (n : Nat) := by
        rw [List.getElem?_map] at hd
        cases hk : Ns[i]? with
        | none => rw [hk] at hd; cases hd
        | some n => rw [hk] at hd; cases hd; exact ⟨n, rfl, rfl⟩
      have hnT : n < 2 ^ (8 * size) := hN.2 n (List.mem_of_getElem? hn)
      have C6 := code6_ok (which := which) hs1 hs3 hw5
      have C4 := code4_ok hs1 hs3
      generalize hE : Ns.take i = E at kp st
      have hEl : E.length ≤ 14 := by rw [← hE, List.length_take]; omega
      have l6 : S6.length = E.length := by rw [st.p6.length_eq, List.length_map]
      have l4 : S4.length = E.length := by rw [st.p4.length_eq, List.length_map]
      have hoc := octs_oct n size
      have hol := octs_len n size
      have hwl : (wr which (octs n size)).length ≤ 100 := by unfold wr; rw [List.length_map]; have := b64_len (octs n size); omega
      have h4l : (code4 size n).length = 2 * size := C4.len n hnT
      have h6l : (code6 which size n).length = places size := C6.len n hnT
      have hpl : places size ≤ 4 := by unfold places; omega
      refine PS.assign (.inl rfl) (PE.call (PE.glob rfl (by rw [hK]; rfl)) (.fn (by rw [hK]; rfl) rfl) (.cons (PE.toPI (PE.call (PE.glob rfl (by rw [hK]; rfl)) (.fn (by rw [hK]; rfl) rfl) (.cons (PI.name rfl) (.cons (PI.name kp.z) .nil)) .nil ((cl_octets hK hs1 hs3).le (by decide)))) (.cons (PI.name kp.w) .nil)) .nil ((cl_write hK hw5 hoc (by omega)).le (by decide))) ?_
      refine PS.assign (.inl rfl) (PE.conv (PE.call (PE.glob rfl (by rw [hK]; rfl)) (.fn (by rw [hK]; rfl) rfl) (.cons (PE.toPI (PE.call (PE.glob rfl (by rw [hK]; rfl)) (.fn (by rw [hK]; rfl) rfl) (.cons (PI.name rfl) (.cons (PI.name kp.z) .nil)) .nil ((cl_octets hK hs1 hs3).le (by decide)))) .nil) .nil ((cl_b16 hK hoc (by omega)).le (by decide))) (show _ = D.bytes (code4 size n) from rfl)) ?_
      refine PS.ite (b := false) (PT.boolop (PAll.or (b₁ := false) (PT.not (b := true) (PT.value (PE.toPI (PE.call (PE.builtin rfl (by rw [hK]; rfl) rfl) (.builtin _) (.cons (PI.name rfl) (.cons (PE.toPI (PE.builtin rfl (by rw [hK]; rfl) rfl)) .nil)) .nil cl_isi_bytes)) tr_bool)) fun _ =>
        PAll.or (b₁ := false) (PT.not (b := true) (PT.value (PE.toPI (PE.call (PE.builtin rfl (by rw [hK]; rfl) rfl) (.builtin _) (.cons (PI.name rfl) (.cons (PE.toPI (PE.builtin rfl (by rw [hK]; rfl) rfl)) .nil)) .nil cl_isi_bytes)) tr_bool)) fun _ => PAll.orNil)) (fun h => by cases h) fun _ => ?_
      have hneg := neg_mod3 hs1 hs3
      refine PS.ite (b := false) (PT.boolop (PAll.or (b₁ := false) (PT.conv (PT.cmp
        (PE.toPI (PE.conv (PE.sliceL (lo := some (places size : Int)) (hi := none) (PE.toPI (PE.call (PE.builtin rfl (by rw [hK]; rfl) rfl) (.type _) (.cons (PI.name rfl) .nil) .nil (cl_list_bytes (by rw [sizeLine_eq]; omega)))) (PE.toPI (PE.name kp.p)) trivial (by simp [dInts, sizeLine_eq]; omega)) (congrArg D.list (cut_drop _ _))))
        (PE.toPI (PE.conv (PE.bin (PE.toPI (PE.list (.cons PE.cInt .nil))) (PE.toPI (PE.bin (PE.toPI (PE.una (PI.name kp.z) op_neg_int)) PE.cInt.toPI (op_mod_int (by decide)))) (op_mul_list (by omega) (by omega) (by simp; omega))) (congrArg D.list (rep_ints _ _))))
        op_ne_ints) ?_) fun _ => PAll.or (b₁ := false) (PT.conv (PT.cmp (PE.toPI (PE.call (PE.builtin rfl (by rw [hK]; rfl) rfl) (.builtin _) (.cons (PI.name rfl) .nil) .nil (cl_len_bytes (by omega)))) (PE.toPI (PE.bin PE.cInt.toPI (PI.name kp.z) (op_mul_int ?_))) op_ne_int) ?_) fun _ => PAll.orNil)) (fun h => by cases h) fun _ => ?_
      · rw [code6_tail hs1 hs3 hnT, hneg.1]; simp
      · exact IntMulOk.of_le (m := 64) (n := 64) (intBits_cast_le (k := 2) (by rw [sizeLine_eq]; decide)) (intBits_cast_le (by rw [sizeLine_eq]; omega)) (by decide)
      · show (((code4 size n).length : Int) != 2 * (size : Int)) = false
        rw [h4l]; simp
      refine PS.assign (.inl rfl) (PE.conv (PE.sliceL (lo := none) (hi := some (places size : Int)) (PE.toPI (PE.call (PE.builtin rfl (by rw [hK]; rfl) rfl) (.type _) (.cons (PI.name rfl) .nil) .nil (cl_list_bytes (by rw [sizeLine_eq]; omega)))) trivial (PE.toPI (PE.name kp.p)) (by simp [dInts, sizeLine_eq]; omega)) (show _ = D.list (dInts (code6 which size n)) from congrArg D.list (cut_take _ _))) ?_
      refine PS.assign (.inl rfl) (PE.call (PE.builtin rfl (by rw [hK]; rfl) rfl) (.type _) (.cons (PI.name rfl) .nil) .nil (cl_list_bytes (by rw [sizeLine_eq]; omega))) ?_
      refine PS.iteJ (fun σ => Kp σ a1 a2 a3 which size E S6 S4 ∧ σ.v "six" = some (.fz (.list (dInts (code6 which size n)))) ∧ σ.v "four" = some (.fz (.list (dInts (code4 size n)))) ∧ σ.v "number" = some (.fz (.int n)))
        (PT.cmp (PI.conv (PI.name kp.e) rfl) (PE.toPI (PE.list .nil)) op_ne_nil) (fun hb => ?_) (fun _ => ⟨⟨kp.w, kp.z, kp.p, kp.x, kp.f, kp.e, kp.nowk.fz.fz.fz.fz.fz⟩, rfl, rfl, rfl⟩) ?_
      · have hne : E ≠ [] := by rintro rfl; simp at hb
        obtain ⟨least, hl1, hl2⟩ := least_ex n hne
        have hlT : least < 2 ^ (8 * size) := by obtain ⟨m, hm, rfl⟩ := hl1; exact Nat.xor_lt_two_pow (st.lt m hm) hnT
        have hfT : figs least ≤ 8 * size := (figs_le _ _).mpr hlT
        have k6 : ∀ l ∈ S6, l.length = (code6 which size n).length := fun l hl => by
          obtain ⟨m, hm, rfl⟩ := List.mem_map.mp (st.p6.mem_iff.mp hl)
          rw [C6.len m (st.lt m hm), h6l]
        have k4 : ∀ l ∈ S4, l.length = (code4 size n).length := fun l hl => by
          obtain ⟨m, hm, rfl⟩ := List.mem_map.mp (st.p4.mem_iff.mp hl)
          rw [C4.len m (st.lt m hm), h4l]
        refine PS.assign (.inl rfl) (PE.call (PE.builtin rfl (by rw [hK]; rfl) rfl) (.builtin _) (.cons (PE.toPI (PE.conv
          (PE.listcomp (seen_of rfl (SeenT.cons (x := "number") (d := .int n) rfl rfl rfl .nil)) E (fun (m : Nat) => .int m) (fun _ => true) (fun (m : Nat) => .int ((m ^^^ n : Nat) : Int))
            (Src.listI (PI.conv (PI.name kp.e) rfl)) (by omega) (fun _ _ C own' => PTs.nil)
            (fun m hm _ C own' => PE.conv (PE.bin (PI.name rfl) (PI.name rfl) op_xor_int) (congrArg D.int (show Builtin.bitXor (n : Int) (m : Int) = _ by rw [bitXor_nat, Nat.xor_comm]))))
          (show _ = D.list (dInts (E.map fun (m : Nat) => ((m ^^^ n : Nat) : Int))) from ?_))) .nil) .nil (cl_min (M := (least : Int)) ?_ ?_)) ?_
        · rw [filter_tt]; simp [dInts]
        · obtain ⟨m, hm, e⟩ := hl1
          exact List.mem_map.mpr ⟨m, hm, by rw [e]⟩
        · intro x hx
          obtain ⟨m, hm, rfl⟩ := List.mem_map.mp hx
          exact Int.ofNat_le.mpr (hl2 m hm)
        refine PS.assign (.inl rfl) (PE.conv (PE.bin (PE.toPI (PE.bin PE.cInt.toPI (PI.name kp.z) (op_mul_int ?_))) (PE.toPI (PE.call (PE.glob rfl (by rw [hK]; rfl)) (.fn (by rw [hK]; rfl) rfl) (.cons (PI.name rfl) .nil) .nil ((cl_figures hK).le (by decide)))) op_sub_int) (show _ = D.int ((8 * size - figs least : Nat) : Int) from congrArg D.int ?_)) ?_
        · exact IntMulOk.of_le (m := 64) (n := 64) (intBits_cast_le (k := 8) (by rw [sizeLine_eq]; decide)) (intBits_cast_le (by rw [sizeLine_eq]; omega)) (by decide)
        · omega
        refine PS.assign (.inr ⟨rfl, rfl⟩) (PE.conv (PE.call1 (PE.glob rfl (by rw [hK]; rfl)) (.fn (by rw [hK]; rfl) rfl) (PI.conv (PI.name kp.x) rfl) (.cons (PE.name rfl) (.cons (PE.call (PE.glob rfl (by rw [hK]; rfl)) (.fn (by rw [hK]; rfl) rfl) (.cons (PI.name kp.x) (.cons (PI.name rfl) .nil)) .nil ((cl_br hK (by omega) (.inl rfl)).le (by decide))) .nil)) ((cl_near hK (by omega) (bisR_le st.s6 _) k6 (by omega)).le (by decide)))
          (show _ = D.int (val (places size) (8 * size) 6 least : Nat) from congrArg D.int (by rw [near_right C6 st.lt hnT st.s6 st.p6 hl1 hl2]))) ?_
        refine PS.assign (.inr ⟨rfl, rfl⟩) (PE.conv (PE.call1 (PE.glob rfl (by rw [hK]; rfl)) (.fn (by rw [hK]; rfl) rfl) (PI.conv (PI.name kp.f) rfl) (.cons (PE.name rfl) (.cons (PE.call (PE.glob rfl (by rw [hK]; rfl)) (.fn (by rw [hK]; rfl) rfl) (.cons (PI.name kp.f) (.cons (PI.name rfl) .nil)) .nil ((cl_bl hK (by omega) (.inl rfl)).le (by decide))) .nil)) ((cl_near hK (by omega) (bisL_le st.s4 _) k4 (by omega)).le (by decide)))
          (show _ = D.int (val (2 * size) (8 * size) 4 least : Nat) from congrArg D.int (by rw [near_left C4 st.lt hnT st.s4 st.p4 hl1 hl2]))) ?_
        have v6 : val (places size) (8 * size) 6 least ≤ 100 := Nat.le_trans (val_le C6) (by omega)
        have v4 : val (2 * size) (8 * size) 4 least ≤ 100 := Nat.le_trans (val_le C4) (by omega)
        have v4' : 4 * val (2 * size) (8 * size) 4 least ≤ 8 * size := by have := val_le C4 (x := least); omega
        have mul8 : IntMulOk 8 (size : Int) := IntMulOk.of_le (m := 64) (n := 64) (intBits_cast_le (k := 8) (by rw [sizeLine_eq]; decide)) (intBits_cast_le (by rw [sizeLine_eq]; omega)) (by decide)
        have mulv : ∀ (k v : Nat), k ≤ 100 → v ≤ 100 → IntMulOk (k : Int) (v : Int) := fun k v hk hv => IntMulOk.of_le (m := 64) (n := 64) (intBits_cast_le (by rw [sizeLine_eq]; omega)) (intBits_cast_le (by rw [sizeLine_eq]; omega)) (by decide)
        have h2b : Builtin.Int.intBits 2 = 2 := by decide +kernel
        refine PS.ite (b := false) (PT.boolop (PAll.or (b₁ := false) (PT.conv (PT.cmp (PI.name rfl) (PE.toPI (PE.conv (PE.ifexp (PT.cmp (PI.name rfl) PE.cInt.toPI op_eq_int) (fun _ => PE.name kp.p) (fun _ => PE.bin (PI.name rfl) PE.cInt.toPI (op_div_int (by decide) (by decide)))) (show _ = D.int (val (places size) (8 * size) 6 least : Nat) from ?_))) op_ne_int) (by simp))
          fun _ => PAll.or (b₁ := false) (PT.conv (PT.cmp (PI.name rfl) (PE.toPI (PE.conv (PE.bin (PI.name rfl) PE.cInt.toPI (op_div_int (by decide) (by decide))) (show _ = D.int (val (2 * size) (8 * size) 4 least : Nat) from congrArg D.int ?_))) op_ne_int) (by simp)) fun _ => PAll.orNil)) (fun h => by cases h) fun _ => ?_
        · unfold val
          by_cases h0 : least = 0
          · subst h0; rfl
          · have : ((least : Int) == 0) = false := by simp [h0]
            show (if ((least : Int) == 0) = true then _ else _) = _
            rw [this, if_neg h0, if_neg (by decide), Int.fdiv_eq_ediv_of_nonneg _ (by decide)]
            rfl
        · rw [Int.fdiv_eq_ediv_of_nonneg _ (by decide)]
          unfold val
          by_cases h0 : least = 0
          · subst h0; rw [if_pos rfl, figs, if_pos rfl]; omega
          · rw [if_neg h0]; rfl
        have mul6 : IntMulOk 6 ((val (places size) (8 * size) 6 least : Nat) : Int) := mulv 6 _ (by decide) v6
        have mul4 : IntMulOk 4 ((val (2 * size) (8 * size) 4 least : Nat) : Int) := mulv 4 _ (by decide) v4
        refine PS.ite (b := false) (PT.conv (PT.cmp
          (PE.toPI (PE.conv (PE.call (PE.glob rfl (by rw [hK]; rfl)) (.fn (by rw [hK]; rfl) rfl) (.cons (PI.name kp.x) (.cons (PE.toPI (PE.conv (PE.sliceL (lo := none) (hi := some (val (places size) (8 * size) 6 least : Nat)) (PE.toPI (PE.name rfl)) trivial (PE.toPI (PE.name rfl)) (by simp [dInts, sizeLine_eq]; omega)) (congrArg D.list (cut_take _ _)))) .nil)) .nil ((cl_span hK (by omega) (by rw [List.length_take]; omega)).le (by decide)))
            (show _ = D.int (E.countP (fun m => decide (m ^^^ n < 2 ^ (8 * size - 6 * val (places size) (8 * size) 6 least))) : Nat) from congrArg D.int (span_count C6 st.lt hnT st.s6 st.p6 (val_le C6)))))
          (PE.toPI (PE.conv (PE.call (ds := [.list ((E.filter (fun m => decide (m ^^^ n < 2 ^ (8 * size - 6 * val (places size) (8 * size) 6 least)))).map fun (m : Nat) => D.int m)]) (PE.builtin rfl (by rw [hK]; rfl) rfl) (.builtin _) (.cons (PE.toPI ?_) .nil) .nil (cl_len_list ?_))
            (show _ = D.int (E.countP (fun m => decide (m ^^^ n < 2 ^ (8 * size - 6 * val (places size) (8 * size) 6 least))) : Nat) from ?_)))
          op_ne_int) (by simp)) (fun h => by cases h) fun _ => ?_
        · refine PE.lc (seen_of rfl (SeenT.cons (x := "number") (d := .int n) rfl rfl rfl (SeenT.cons (x := "size") (d := .int size) kp.z rfl rfl (SeenT.cons (x := "by_six") (d := .int (val (places size) (8 * size) 6 least : Nat)) rfl rfl rfl .nil)))) E (fun (m : Nat) => .int m) (fun m => decide (m ^^^ n < 2 ^ (8 * size - 6 * val (places size) (8 * size) 6 least))) (fun (m : Nat) => .int m)
            (Src.listI (PI.conv (PI.name kp.e) rfl)) (by omega) (fun m hm C own' => ?_) (fun m hm _ C own' => PE.name rfl)
          refine PTs.one (PT.conv (PT.cmp (PE.toPI (PE.conv (PE.bin (PI.name rfl) (PI.name rfl) op_xor_int) (congrArg D.int (bitXor_nat m n)))) (PE.toPI (PE.conv (PE.bin PE.cInt.toPI (PE.toPI (PE.call (PE.builtin rfl (by rw [hK]; rfl) rfl) (.builtin _) (.cons PE.cInt.toPI (.cons (PE.toPI (PE.bin (PE.toPI (PE.bin PE.cInt.toPI (PI.name rfl) (op_mul_int mul8))) (PE.toPI (PE.bin PE.cInt.toPI (PI.name rfl) (op_mul_int mul6))) op_sub_int)) .nil)) .nil cl_max2)) (op_pow_int ?_ ?_)) (show _ = D.int ((2 ^ (8 * size - 6 * val (places size) (8 * size) 6 least) : Nat) : Int) from congrArg D.int ?_))) op_lt_int) ?_)
          · show 0 ≤ max 0 (8 * (size : Int) - 6 * (val (places size) (8 * size) 6 least : Nat)); omega
          · show (Builtin.Int.intBits 2 : Int) * max 0 (8 * (size : Int) - 6 * (val (places size) (8 * size) 6 least : Nat)) ≤ 2 ^ 27
            rw [h2b]; omega
          · show (2 : Int) ^ (max 0 (8 * (size : Int) - 6 * (val (places size) (8 * size) 6 least : Nat))).toNat = _
            rw [show (max 0 (8 * (size : Int) - 6 * (val (places size) (8 * size) 6 least : Nat))).toNat = 8 * size - 6 * val (places size) (8 * size) 6 least by omega]; push_cast; rfl
          · exact decide_eq_decide.mpr Int.ofNat_lt
        · rw [List.length_map]; have := List.length_filter_le (fun m => decide (m ^^^ n < 2 ^ (8 * size - 6 * val (places size) (8 * size) 6 least))) E; omega
        · rw [List.length_map, List.countP_eq_length_filter]
        refine PS.ite (b := false) (PT.conv (PT.cmp
          (PE.toPI (PE.conv (PE.call (PE.glob rfl (by rw [hK]; rfl)) (.fn (by rw [hK]; rfl) rfl) (.cons (PI.name kp.f) (.cons (PE.toPI (PE.conv (PE.sliceL (lo := none) (hi := some (val (2 * size) (8 * size) 4 least : Nat)) (PE.toPI (PE.name rfl)) trivial (PE.toPI (PE.name rfl)) (by simp [dInts, sizeLine_eq]; omega)) (congrArg D.list (cut_take _ _)))) .nil)) .nil ((cl_span hK (by omega) (by rw [List.length_take]; omega)).le (by decide)))
            (show _ = D.int (E.countP (fun m => decide (m ^^^ n < 2 ^ (8 * size - 4 * val (2 * size) (8 * size) 4 least))) : Nat) from congrArg D.int (span_count C4 st.lt hnT st.s4 st.p4 (val_le C4)))))
          (PE.toPI (PE.conv (PE.call (ds := [.list ((E.filter (fun m => decide (m ^^^ n < 2 ^ (8 * size - 4 * val (2 * size) (8 * size) 4 least)))).map fun (m : Nat) => D.int m)]) (PE.builtin rfl (by rw [hK]; rfl) rfl) (.builtin _) (.cons (PE.toPI ?_) .nil) .nil (cl_len_list ?_))
            (show _ = D.int (E.countP (fun m => decide (m ^^^ n < 2 ^ (8 * size - 4 * val (2 * size) (8 * size) 4 least))) : Nat) from ?_)))
          op_ne_int) (by simp)) (fun h => by cases h) fun _ => ?_
        · refine PE.lc (seen_of rfl (SeenT.cons (x := "number") (d := .int n) rfl rfl rfl (SeenT.cons (x := "size") (d := .int size) kp.z rfl rfl (SeenT.cons (x := "by_four") (d := .int (val (2 * size) (8 * size) 4 least : Nat)) rfl rfl rfl .nil)))) E (fun (m : Nat) => .int m) (fun m => decide (m ^^^ n < 2 ^ (8 * size - 4 * val (2 * size) (8 * size) 4 least))) (fun (m : Nat) => .int m)
            (Src.listI (PI.conv (PI.name kp.e) rfl)) (by omega) (fun m hm C own' => ?_) (fun m hm _ C own' => PE.name rfl)
          refine PTs.one (PT.conv (PT.cmp (PE.toPI (PE.conv (PE.bin (PI.name rfl) (PI.name rfl) op_xor_int) (congrArg D.int (bitXor_nat m n)))) (PE.toPI (PE.conv (PE.bin PE.cInt.toPI (PE.toPI (PE.bin (PE.toPI (PE.bin PE.cInt.toPI (PI.name rfl) (op_mul_int mul8))) (PE.toPI (PE.bin PE.cInt.toPI (PI.name rfl) (op_mul_int mul4))) op_sub_int)) (op_pow_int ?_ ?_)) (show _ = D.int ((2 ^ (8 * size - 4 * val (2 * size) (8 * size) 4 least) : Nat) : Int) from congrArg D.int ?_))) op_lt_int) ?_)
          · show 0 ≤ 8 * (size : Int) - 4 * (val (2 * size) (8 * size) 4 least : Nat); omega
          · show (Builtin.Int.intBits 2 : Int) * (8 * (size : Int) - 4 * (val (2 * size) (8 * size) 4 least : Nat)) ≤ 2 ^ 27
            rw [h2b]; omega
          · show (2 : Int) ^ (8 * (size : Int) - 4 * (val (2 * size) (8 * size) 4 least : Nat)).toNat = _
            rw [show (8 * (size : Int) - 4 * (val (2 * size) (8 * size) 4 least : Nat)).toNat = 8 * size - 4 * val (2 * size) (8 * size) 4 least by omega]; push_cast; rfl
          · exact decide_eq_decide.mpr Int.ofNat_lt
        · rw [List.length_map]; have := List.length_filter_le (fun m => decide (m ^^^ n < 2 ^ (8 * size - 4 * val (2 * size) (8 * size) 4 least))) E; omega
        · rw [List.length_map, List.countP_eq_length_filter]
        exact PS.nilF (J := fun σ => Kp σ a1 a2 a3 which size E S6 S4 ∧ σ.v "six" = some (.fz (.list (dInts (code6 which size n)))) ∧ σ.v "four" = some (.fz (.list (dInts (code4 size n)))) ∧ σ.v "number" = some (.fz (.int n)))
          ⟨⟨kp.w, kp.z, kp.p, kp.x, kp.f, kp.e, kp.nowk.fz.fz.fz.fz.fz.fz.fz.fz.fz⟩, rfl, rfl, rfl⟩
      · rintro σ' ⟨kp', e6, e4, en⟩
        refine PS.callM (PE.glob rfl (by rw [hK]; rfl)) (.fn (by rw [hK]; rfl) rfl) kp'.x (by simp) kp'.nowk (.cons (PE.name e6) .nil) .nil (Fm.le (cl_ir hK (by omega) (bisR_le st.s6 _)) (by decide)) ?_
        refine PS.callM (PE.glob rfl (by rw [hK]; rfl)) (.fn (by rw [hK]; rfl) rfl) kp'.f (by simp) kp'.nowk.ow (.cons (PE.name e4) .nil) .nil (Fm.le (cl_il hK (by omega) (bisL_le st.s4 _)) (by decide)) ?_
        refine PS.ownMeth (es := (E ++ [n]).map fun (m : Nat) => D.int m) kp'.e (by simp) kp'.nowk.ow.ow F.slot_list_append F.type_list_append (.cons (PE.name en) .nil) ?_ (PS.nilF ⟨_, _, ⟨kp'.w, kp'.z, kp'.p, rfl, rfl, ?_, kp'.nowk.ow.ow.ow⟩, ?_⟩)
        · rw [List.map_append]; exact eff_append (by simp; omega)
        · rw [List.take_add_one, hn, hE]; rfl
        · have hEn : Ns.take (i + 1) = E ++ [n] := by rw [List.take_add_one, hn, hE]; rfl
          rw [hEn]
          refine ⟨insR_srt st.s6 _, insL_srt st.s4 _, ?_, ?_, fun m hm => ?_, by simp; omega⟩
          · rw [List.map_append]; exact perm_ins _ st.p6
          · rw [List.map_append]; exact perm_ins _ st.p4
          · rcases List.mem_append.mp hm with hm | hm
            · exact st.lt m hm
            · rw [List.mem_singleton.mp hm]; exact hnT
    · rintro σ ⟨S6, S4, kp, st⟩
      exact PS.retE PE.cBool fun b h => List.mem_cons_of_mem _ (List.mem_cons_of_mem _ (List.mem_cons_of_mem _ h))
end
end Mine
namespace Mine
theorem top_of {K : Frag} {h : Heap} {p : Program} {loose : List Str} {mean : ExcName → Option Value} {mg mb : Str → Option Value} (k : K.In h) (T : Top p loose mean mg mb h) : Tp K h :=
  ⟨k, ⟨mg, T.g⟩, ⟨mb, T.b, T.builtins⟩, T.nolimit⟩
theorem room : Rm 7 callerA := ⟨rfl, by decide, by decide⟩
theorem law_true {prog : Program} {w : World} {s₁ : Shared} {a : Addr} {vs : List Value} {ns : List Int} (tp : Tp (KF w.params) s₁.heap) (hl : s₁.heap.IsList a vs.toArray) (hi : IntsAre vs ns) (hz : ns.length ≤ 63) {Q : Value → Shared → Prop} {E : Value → Shared → Prop}
    (h : ∀ s', Keeps s₁ s' → Q (.bool true) s') : wpAny (model prog w) callerA (PySem.call (.ref 167) [.ref a]) Q E s₁ := by
  refine cl_law (c := ⟨prog, w, KF w.params, s₁.heap, tp⟩) rfl hz [] callerA s₁ [.ref a] Q E room (fun b o e => e) (fun b hb => by cases hb) (.cons (.list (by simp) hl (rdl_ints hi)) .nil) fun v s' k r => ?_
  cases r with
  | bool b => exact h s' k
end Mine
set_option maxHeartbeats 8000000 in
theorem PySem.Challenge.cw_mq0227_02_holds : PySem.Challenge.rw_mq0227_02.Holds := by
  refine Mine.hd ?_
  k_fill
  intro w s₀ s₁ mg mb G Y fa o pm cd doc dV kV ho hdd hcd hD hmg hg args vals as hpre hlay hrd hwl hlo
  have KX := kIn_of Y
  refine Ground.open G ?_
  intro T B D TE TW
  clear hdd hcd hD
  have hfa : mg (Str.ofString "law") = some (.ref 167) := mg_of KX T.g rfl
  have e : Value.ref 167 = Value.ref fa := Option.some.inj (hfa.symm.trans hmg)
  cases e
  clear hmg
  wrow_args hpre hlay hrd hwl hlo
  refine Mine.law_true (Mine.top_of KX T) (by assumption) (by assumption) (by omega) fun s' k => GoodW.toG ?_
  obtain ⟨h', tk, rfl, hk⟩ := k
  refine ⟨.inl ⟨.bool true, .bool true, [], rfl, fun _ => rfl, .bool true, ?_, fun _ => ⟨.nil, fun a h => by cases h⟩⟩, hk, rfl, hg⟩
  wrow_post
