import PyProof.Rows.All
import Wide.All
import Wide.FinOn
import OpenK.KWalk
import OpenK.KCls
import OpenK.KMake
import OpenK.KMeth
import OpenK.KMore
import Open.Boot
import Open.Tree
import Open.FastRun
import Lean
import PySem.Challenge.RW_lp0001_11
open PySem PySem.W PyProof.Rows PySem.Calls
set_option Elab.async false
set_option maxRecDepth 100000
set_option linter.unusedVariables false
namespace Mine
/-! ghost heaps: what is known of the heap and will stay -/
abbrev Gh := Addr → Option Obj
def HLe (h h' : Gh) : Prop := ∀ b o, h b = some o → h' b = some o
theorem HLe.refl (h : Gh) : HLe h h := fun _ _ e => e
theorem HLe.trans {a b c : Gh} (x : HLe a b) (y : HLe b c) : HLe a c := fun i o e => y i o (x i o e)
theorem HLe.push (h : Heap) (o : Obj) : HLe h.get? (h.push o).get? := fun _ _ e => Heap.get?_push_of_some _ e
structure Gx where
  prog : Program
  w : World
  K : Frag
  C : Addr
  CP : Addr
  p : Program
  loose : List Str
  mg : Str → Option Value
  mb : Str → Option Value
def Gd (G : Gx) (S : Gh) : Prop := ∃ B : Heap, G.K.In B ∧ TopRead G.p G.loose G.mg G.mb B ∧ HLe B.get? S
theorem Gd.le {G : Gx} {S S' : Gh} (g : Gd G S) (k : HLe S S') : Gd G S' := let ⟨B, x, t, e⟩ := g; ⟨B, x, t, e.trans k⟩
theorem Gd.X {G : Gx} {S : Gh} {h : Heap} (g : Gd G S) (k : HLe S h.get?) : G.K.In h := let ⟨_, x, _, e⟩ := g; x.keeps (e.trans k)
theorem Gd.T {G : Gx} {S : Gh} {h : Heap} (g : Gd G S) (k : HLe S h.get?) : TopRead G.p G.loose G.mg G.mb h := let ⟨_, _, t, e⟩ := g; t.keeps (e.trans k)
/-! data -/
inductive D where
  | none
  | bool (b : Bool)
  | int (i : Int)
  | str (x : Str)
  | tup (l : List D)
  | lst (l : List D)
  | cell (i : Int)
  | pt (x y z : Int)
  | rng (a b c : Int)
  | val (v : Value)
def cellKey : Str := "_CellId__id"
def ptKey : Str := "_Point__point"
def TupAt (S : Gh) (a : Addr) (vs : Array Value) : Prop := ∃ o, S a = some o ∧ o.cls = .type "tuple" ∧ ∃ n, o.data = .seq vs n
def LstAt (S : Gh) (a : Addr) (vs : Array Value) : Prop := ∃ o, S a = some o ∧ o.cls = .type "list" ∧ ∃ n, o.data = .seq vs n
theorem TupAt.is {S : Gh} {h : Heap} {a : Addr} {vs : Array Value} (t : TupAt S a vs) (k : HLe S h.get?) : IsTup h a vs := let ⟨o, e, r⟩ := t; ⟨o, k _ _ e, r⟩
theorem LstAt.is {S : Gh} {h : Heap} {a : Addr} {vs : Array Value} (t : LstAt S a vs) (k : HLe S h.get?) : h.IsList a vs := let ⟨o, e, r⟩ := t; ⟨o, k _ _ e, r⟩
/-- a dict of one written key -/
def DictIs (S : Gh) (dx : Addr) (key : Str) (v : Value) : Prop := ∃ o es ep, S dx = some o ∧ o.data = .dict es ep ∧ StrKeys es ∧ ∀ name, nsFind es name = if name = key then some v else none
theorem DictIs.le {S S' : Gh} {dx : Addr} {key : Str} {v : Value} (h : DictIs S dx key v) (k : HLe S S') : DictIs S' dx key v := let ⟨o, es, ep, e, r⟩ := h; ⟨o, es, ep, k _ _ e, r⟩
structure CellAt (S : Gh) (C : Addr) (i : Int) (x : Addr) : Prop where
  ex : ∃ dx t, S x = some (instObj C dx) ∧ DictIs S dx cellKey (.int i t)
structure PtAt (S : Gh) (C : Addr) (i j k : Int) (x : Addr) : Prop where
  ex : ∃ dx p t1 t2 t3, S x = some (instObj C dx) ∧ DictIs S dx ptKey (.ref p) ∧ TupAt S p #[.int i t1, .int j t2, .int k t3]
def RngAt (S : Gh) (a b c : Int) (r : Addr) : Prop := ∃ t u v, S r = some { cls := .type "range", dict := none, data := .fields #[.int a t, .int b u, .int c v], slots := #[] }
mutual
def Rd (G : Gx) (S : Gh) : D → Value → Prop
  | .none, v => v = .none
  | .bool b, v => v = .bool b
  | .int i, v => ∃ t, v = .int i t
  | .str x, v => ∃ t, v = .str x t
  | .tup l, v => ∃ a vs, v = .ref a ∧ TupAt S a vs ∧ RdL G S l vs.toList
  | .lst l, v => ∃ a vs, v = .ref a ∧ LstAt S a vs ∧ RdL G S l vs.toList
  | .cell i, v => ∃ a, v = .ref a ∧ CellAt S G.C i a
  | .pt i j k, v => ∃ a, v = .ref a ∧ PtAt S G.CP i j k a
  | .rng a b c, v => ∃ r, v = .ref r ∧ RngAt S a b c r
  | .val u, v => v = u
def RdL (G : Gx) (S : Gh) : List D → List Value → Prop
  | [], vs => vs = []
  | d :: l, vs => ∃ v r, vs = v :: r ∧ Rd G S d v ∧ RdL G S l r
end
theorem isTup_le {S S' : Gh} {a : Addr} {vs : Array Value} (h : TupAt S a vs) (k : HLe S S') : TupAt S' a vs := let ⟨o, e, r⟩ := h; ⟨o, k _ _ e, r⟩
theorem isList_le {S S' : Gh} {a : Addr} {vs : Array Value} (h : LstAt S a vs) (k : HLe S S') : LstAt S' a vs := let ⟨o, e, r⟩ := h; ⟨o, k _ _ e, r⟩
theorem CellAt.le {S S' : Gh} {C : Addr} {i : Int} {x : Addr} (h : CellAt S C i x) (k : HLe S S') : CellAt S' C i x :=
  let ⟨dx, t, a, b⟩ := h.ex; ⟨dx, t, k _ _ a, b.le k⟩
theorem PtAt.le {S S' : Gh} {C : Addr} {i j l : Int} {x : Addr} (h : PtAt S C i j l x) (k : HLe S S') : PtAt S' C i j l x :=
  let ⟨dx, p, t1, t2, t3, a, b, c⟩ := h.ex; ⟨dx, p, t1, t2, t3, k _ _ a, b.le k, isTup_le c k⟩
mutual
theorem Rd.le {G : Gx} {S S' : Gh} (k : HLe S S') : ∀ (d : D) (v : Value), Rd G S d v → Rd G S' d v
  | .none, _, h => h
  | .bool _, _, h => h
  | .int _, _, h => h
  | .str _, _, h => h
  | .tup l, _, h => by
    unfold Rd at h ⊢
    obtain ⟨a, vs, e, t, r⟩ := h
    exact ⟨a, vs, e, isTup_le t k, RdL.le k l _ r⟩
  | .lst l, _, h => by
    unfold Rd at h ⊢
    obtain ⟨a, vs, e, t, r⟩ := h
    exact ⟨a, vs, e, isList_le t k, RdL.le k l _ r⟩
  | .cell _, _, h => by
    unfold Rd at h ⊢
    obtain ⟨a, e, c⟩ := h
    exact ⟨a, e, c.le k⟩
  | .pt _ _ _, _, h => by
    unfold Rd at h ⊢
    obtain ⟨a, e, c⟩ := h
    exact ⟨a, e, c.le k⟩
  | .rng _ _ _, _, h => by
    unfold Rd at h ⊢
    obtain ⟨r, e, t, u, v, q⟩ := h
    exact ⟨r, e, t, u, v, k _ _ q⟩
  | .val _, _, h => h
theorem RdL.le {G : Gx} {S S' : Gh} (k : HLe S S') : ∀ (l : List D) (vs : List Value), RdL G S l vs → RdL G S' l vs
  | [], _, h => h
  | d :: l, _, h => by
    unfold RdL at h ⊢
    obtain ⟨v, r, e, a, b⟩ := h
    exact ⟨v, r, e, Rd.le k d v a, RdL.le k l r b⟩
end
end Mine
open PySem PySem.W PyProof.Rows PySem.Calls
set_option Elab.async false
set_option maxRecDepth 100000
set_option linter.unusedVariables false
namespace Mine
structure Ext (S : Gh) (s : Shared) (S' : Gh) (s' : Shared) : Prop where
  le : HLe S S'
  sub : HLe S' s'.heap.get?
  fresh : ∀ b o, s.heap.get? b = some o → S b = none → S' b = none
  heap : HLe s.heap.get? s'.heap.get?
  os : s'.os = s.os
  gens : ∃ l, s'.gens = s.gens ++ l ∧ AllBare l
theorem Ext.refl {S : Gh} {s : Shared} (h : HLe S s.heap.get?) : Ext S s S s :=
  ⟨HLe.refl _, h, fun _ _ _ e => e, HLe.refl _, rfl, #[], by simp, AllBare.empty⟩
theorem AllBare.app {a b : Array GenState} (x : AllBare a) (y : AllBare b) : AllBare (a ++ b) := fun z hz => (Array.mem_append.mp hz).elim (x z) (y z)
theorem Ext.trans {S S' S'' : Gh} {s s' s'' : Shared} (x : Ext S s S' s') (y : Ext S' s' S'' s'') : Ext S s S'' s'' :=
  ⟨x.le.trans y.le, y.sub, fun b o hb e => y.fresh b o (x.heap b o hb) (x.fresh b o hb e), x.heap.trans y.heap, y.os.trans x.os, by
    obtain ⟨l, e, hl⟩ := x.gens
    obtain ⟨l', e', hl'⟩ := y.gens
    exact ⟨l ++ l', by rw [e', e, Array.append_assoc], AllBare.app hl hl'⟩⟩
theorem Ext.tok {S : Gh} {s : Shared} (h : HLe S s.heap.get?) (t : Nat) : Ext S s S { s with toks := t } :=
  ⟨HLe.refl _, h, fun _ _ _ e => e, HLe.refl _, rfl, #[], by simp, AllBare.empty⟩
/-- a new immutable object -/
def Gh.put (S : Gh) (a : Addr) (o : Obj) : Gh := fun b => if b = a then some o else S b
theorem Ext.push {S : Gh} {s : Shared} (h : HLe S s.heap.get?) (o : Obj) (hf : o.isFreed = false) (t : Nat) : Ext S s (S.put s.heap.objs.size o) { s with heap := s.heap.push o, toks := t } := by
  have lt : ∀ b ob, S b = some ob → b < s.heap.objs.size := fun b ob e => Heap.lt_size (h b ob e)
  refine ⟨fun b ob e => ?_, fun b ob e => ?_, fun b ob hb e => ?_, HLe.push _ _, rfl, #[], by simp, AllBare.empty⟩
  · show (if b = s.heap.objs.size then some o else S b) = some ob
    rw [if_neg (Nat.ne_of_lt (lt b ob e))]; exact e
  · have e : (if b = s.heap.objs.size then some o else S b) = some ob := e
    split at e
    · rename_i q; cases e; rw [q]; exact Heap.get?_push_size _ hf
    · exact Heap.get?_push_of_some _ (h b ob e)
  · show (if b = s.heap.objs.size then some o else S b) = none
    rw [if_neg (Nat.ne_of_lt (Heap.lt_size hb))]; exact e
theorem Gh.put_self (S : Gh) (a : Addr) (o : Obj) : S.put a o a = some o := if_pos rfl
structure Amb (n : Nat) (A : Around) : Prop where
  hd : A.handled = none
  depth : A.depth + 4 * n ≤ 990
  units : A.units + 30 * n ≤ 9800
theorem Amb.mono {n k : Nat} {A : Around} (a : Amb n A) (h : k ≤ n) : Amb k A :=
  ⟨a.hd, by have := a.depth; omega, by have := a.units; omega⟩
theorem Amb.room {n : Nat} {A : Around} (a : Amb n A) : A.depth < recursionLimit := by have := a.depth; show A.depth < 1000; omega
theorem Amb.line {n : Nat} {A : Around} (a : Amb n A) : A.units < cLine := by have := a.units; show A.units < 9900; omega
theorem Amb.deeper {n : Nat} {A : Around} (a : Amb (n + 1) A) (env : Env) : Amb n (A.deeper env) :=
  ⟨a.hd, by show A.depth + 1 + 4 * n ≤ 990; have := a.depth; omega, by show A.units + 3 + 30 * n ≤ 9800; have := a.units; omega⟩
theorem Amb.in1 {n : Nat} {A : Around} (a : Amb (n + 1) A) : Amb n A.in1 :=
  ⟨a.hd, by show A.depth + 4 * n ≤ 990; have := a.depth; omega, by show A.units + 1 + 30 * n ≤ 9800; have := a.units; omega⟩
/-- what a tree does from a state, over a ghost heap -/
def W {α : Type} (G : Gx) (n : Nat) (S : Gh) (s : Shared) (t : Sem α) (R : Gh → α → Prop) : Prop :=
  ∀ (A : Around) (Q : α → Shared → Prop) (E : Value → Shared → Prop), Amb n A → (∀ a S' s', Ext S s S' s' → R S' a → Q a s') → wpAny (model G.prog G.w) A t Q E s
section
variable {α β : Type} {G : Gx} {n : Nat} {S : Gh} {s : Shared}
theorem W.pure {a : α} {R : Gh → α → Prop} (h : HLe S s.heap.get?) (r : R S a) : W G n S s (Pure.pure a) R :=
  fun _ _ _ _ k => wpAny_pure (k a S s (Ext.refl h) r)
theorem W.bind {t : Sem α} {f : α → Sem β} {R : Gh → α → Prop} {R' : Gh → β → Prop} (x : W G n S s t R)
    (y : ∀ a S' s', Ext S s S' s' → R S' a → W G n S' s' (f a) R') : W G n S s (t >>= f) R' :=
  fun A _ E hA k => wpAny_bind (x A _ E hA fun a S' s' X r => y a S' s' X r A _ E hA fun b S'' s'' X' r' => k b S'' s'' (X.trans X') r')
theorem W.mono {t : Sem α} {R R' : Gh → α → Prop} (x : W G n S s t R) (h : ∀ S' a, R S' a → R' S' a) : W G n S s t R' :=
  fun A _ E hA k => x A _ E hA fun a S' s' X r => k a S' s' X (h S' a r)
theorem W.less {k : Nat} {t : Sem α} {R : Gh → α → Prop} (x : W G k S s t R) (h : k ≤ n) : W G n S s t R :=
  fun A _ E hA q => x A _ E (hA.mono h) q
end
/-! frames -/
structure Cx where
  vars : List (Str × D)
  own : Option (Str × List D) := none
inductive Vr (S : Gh) (h : Heap) (env : Env) (m : Str → Option Value) (x : Str) (v : Value) : Prop where
  | loc (hk : env.kindOf x = some .local) (hm : m x = some v)
  | cell (c : Addr) (o : Obj) (hk : env.kindOf x = some .cell ∨ (env.kindOf x = some .free ∧ (x == ("__classdict__" : Str)) = false)) (hc : env.cells.lookup x = some c) (ho : h.get? c = some o) (hd : o.data = .cell (some v)) (hS : S c = none)
structure FrR (G : Gx) (h₀ : Gh) (env : Env) (S : Gh) (Γ : Cx) (s : Shared) : Prop where
  gd : Gd G S
  sub : HLe S s.heap.get?
  kind : env.scope.kind = .function
  glob : env.globals = mainGlobals
  bt : env.builtins = builtinsNs
  base : HLe h₀ s.heap.get?
  cinj : ∀ x y c, env.cells.lookup x = some c → env.cells.lookup y = some c → x = y
  cex : ∀ x, env.kindOf x = some .cell → ∃ c v₀, env.cells.lookup x = some c ∧ s.heap.IsCell c v₀ ∧ S c = none ∧ h₀ c = none
  cal : ∀ x c, env.cells.lookup x = some c → ∃ v, s.heap.IsCell c v ∧ S c = none
  lnew : h₀ env.locals = none
  fr : ∃ m, s.heap.Ns env.locals m ∧ S env.locals = none ∧
    (∀ x d, Γ.vars.lookup x = some d → ∃ v, Rd G S d v ∧ Vr S s.heap env m x v) ∧
    (∀ x l, Γ.own = some (x, l) → Γ.vars.lookup x = none ∧ ∃ a vs, Vr S s.heap env m x (.ref a) ∧ s.heap.PlainList a vs ∧ S a = none ∧ h₀ a = none ∧ RdL G S l vs.toList)
theorem Ext.none {S S' : Gh} {s s' : Shared} (X : Ext S s S' s') {b : Addr} {o : Obj} (hb : s.heap.get? b = some o) (e : S b = none) : S' b = none := X.fresh b o hb e
theorem Vr.ext {S S' : Gh} {s s' : Shared} (X : Ext S s S' s') {env : Env} {m : Str → Option Value} {x : Str} {v : Value} : Vr S s.heap env m x v → Vr S' s'.heap env m x v
  | .loc hk hm => .loc hk hm
  | .cell c o hk hc ho hd hS => .cell c o hk hc (X.heap _ _ ho) hd (X.none ho hS)
theorem FrR.ext {G : Gx} {h₀ : Gh} {env : Env} {S S' : Gh} {Γ : Cx} {s s' : Shared} (F : FrR G h₀ env S Γ s) (X : Ext S s S' s') : FrR G h₀ env S' Γ s' := by
  obtain ⟨m, hn, hS, hv, ho⟩ := F.fr
  have hL : S' env.locals = none := by
    obtain ⟨o, es, ep, hg, _⟩ := hn
    exact X.none hg hS
  refine ⟨F.gd.le X.le, X.sub, F.kind, F.glob, F.bt, F.base.trans X.heap, F.cinj, fun x e => ?_, fun x c e => ?_, F.lnew, m, hn.keeps X.heap, hL, fun x d e => ?_, fun x l e => ?_⟩
  · obtain ⟨c, v₀, a, ⟨o, b, b'⟩, d, f⟩ := F.cex x e
    exact ⟨c, v₀, a, ⟨o, X.heap _ _ b, b'⟩, X.none b d, f⟩
  · obtain ⟨v, ⟨o, b, b'⟩, d⟩ := F.cal x c e
    exact ⟨v, ⟨o, X.heap _ _ b, b'⟩, X.none b d⟩
  · obtain ⟨v, r, k⟩ := hv x d e
    exact ⟨v, Rd.le X.le d v r, k.ext X⟩
  · obtain ⟨q, a, vs, k, p, hSa, h0, r⟩ := ho x l e
    obtain ⟨n, hp⟩ := p
    exact ⟨q, a, vs, k.ext X, ⟨n, X.heap _ _ hp⟩, X.none hp hSa, h0, RdL.le X.le l _ r⟩
/-- an expression's value -/
def Ev (G : Gx) (n : Nat) (env : Env) (Γ : Cx) (e : Expr) (d : D) : Prop :=
  ∀ (h₀ : Gh) (S : Gh) (s : Shared), FrR G h₀ env S Γ s → W G n S s (eval e env) fun S' v => Rd G S' d v
/-- an expression as a test -/
def Tv (G : Gx) (n : Nat) (env : Env) (Γ : Cx) (e : Expr) (b : Bool) : Prop :=
  ∀ (h₀ : Gh) (S : Gh) (s : Shared), FrR G h₀ env S Γ s → W G n S s (isTrue e env (eval e env)) fun _ c => c = b
/-- the arguments of a call -/
def Al (G : Gx) (n : Nat) (env : Env) (Γ : Cx) (pos : Pos) (es : List Expr) (ds : List D) : Prop :=
  ∀ (h₀ : Gh) (S : Gh) (s : Shared), FrR G h₀ env S Γ s → W G n S s (spliced (backTo pos (starEach es env))) fun S' vs => RdL G S' ds vs
end Mine
open PySem PySem.W PyProof.Rows PySem.Calls
set_option Elab.async false
set_option maxRecDepth 100000
set_option linter.unusedVariables false
namespace Mine
/-! calls -/
def FnOk (G : Gx) (n : Nat) (f : Value) (ds : List D) (d : D) : Prop :=
  ∀ (S : Gh) (s : Shared) (vs : List Value), Gd G S → HLe S s.heap.get? → RdL G S ds vs → ∀ (A : Around) (Q E : Value → Shared → Prop), Amb n A →
    (∀ v S' s', Ext S s S' s' → Rd G S' d v → Q v s') →
    codeAny (model G.prog G.w) A (.call f ⟨vs, []⟩) (fun r s' => match r with | .ok (.ret v) => Q v s' | .ok _ => False | .error e => E e s') s
theorem FnOk.less {G : Gx} {n k : Nat} {f : Value} {ds : List D} {d : D} (h : FnOk G k f ds d) (e : k ≤ n) : FnOk G n f ds d :=
  fun S s vs g k r A Q E hA => h S s vs g k r A Q E (hA.mono e)
theorem FnOk.w {G : Gx} {n : Nat} {f : Value} {ds : List D} {d : D} (h : FnOk G n f ds d) {S : Gh} {s : Shared} {vs : List Value} (g : Gd G S) (k : HLe S s.heap.get?) (r : RdL G S ds vs) :
    W G n S s (PySem.call f vs []) fun S' v => Rd G S' d v := fun A Q E hA q => wpAny_call (h S s vs g k r A Q E hA q)
section
variable {G : Gx} {n : Nat} {env : Env} {Γ : Cx}
theorem W.eqAny {α : Type} {S : Gh} {s : Shared} {t : Sem α} {R : Gh → α → Prop}
    (h : ∀ (A : Around) (Q : α → Shared → Prop) (E : Value → Shared → Prop), Amb n A → (∀ a S' s', Ext S s S' s' → R S' a → Q a s') → wpAny (model G.prog G.w) A t Q E s) : W G n S s t R := h
/-! constants and names -/
theorem Ev.int {i : Int} {k : Nat} {pos : Pos} : Ev G n env Γ (.Constant (.int i) k pos) (.int i) :=
  fun _ S s F _ _ _ _ q => wpAny_Constant_int (q _ S _ (Ext.tok F.sub _) ⟨_, rfl⟩)
theorem Ev.str {x : Str} {k : Nat} {pos : Pos} : Ev G n env Γ (.Constant (.str x) k pos) (.str x) :=
  fun _ S s F _ _ _ _ q => Calls.Constant_str (q _ S _ (Ext.tok F.sub _) ⟨_, rfl⟩)
theorem Ev.bool {b : Bool} {k : Nat} {pos : Pos} : Ev G n env Γ (.Constant (.bool b) k pos) (.bool b) :=
  fun _ S s F _ _ _ _ q => wpAny_Constant_bool (q _ S _ (Ext.refl F.sub) rfl)
theorem Ev.non {k : Nat} {pos : Pos} : Ev G n env Γ (.Constant .none k pos) .none :=
  fun _ S s F _ _ _ _ q => wpAny_Constant_none (q _ S _ (Ext.refl F.sub) rfl)
theorem Vr.load {M : Model} {A : Around} {E : Value → Shared → Prop} {Q : Value → Shared → Prop} {S : Gh} {s : Shared} {m : Str → Option Value} {x : Str} {v : Value}
    (hn : s.heap.Ns env.locals m) (hk : env.scope.kind = .function) (V : Vr S s.heap env m x v) (h : Q v s) : wpAny M A (loadName env x) Q E s := by
  cases V with
  | loc a b => exact wpAny_loadName_local hk a hn b h
  | cell c o a b ho hd hS =>
    rcases a with a | ⟨a, a'⟩
    · exact wpAny_loadName_cell hk a b ⟨o, ho, hd⟩ h
    · exact wpAny_loadName_free hk a b ⟨o, ho, hd⟩ h a'
theorem Ev.name {x : Str} {pos : Pos} {d : D} (h : Γ.vars.lookup x = some d) (hd : (x == ("__debug__" : Str)) = false := by decide) : Ev G n env Γ (.Name x pos) d := by
  intro _ S s F A Q E _ q
  obtain ⟨m, hn, hS, hv, _⟩ := F.fr
  obtain ⟨v, r, V⟩ := hv x d h
  exact wpAny_Name (V.load hn F.kind (q _ S s (Ext.refl F.sub) r)) hd
theorem Ev.glob {x : Str} {pos : Pos} {v : Value} {d : D} (e : nsIn G.K mainGlobals x = some (some v)) (hx : env.kindOf x = some .globalImplicit) (r : ∀ S, Gd G S → Rd G S d v)
    (hd : (x == ("__debug__" : Str)) = false := by decide) : Ev G n env Γ (.Name x pos) d := by
  intro _ S s F A Q E _ q
  have T := F.gd.T F.sub
  exact Name_function_global F.kind hx (loadGlobal_global (by rw [F.glob]; exact T.g) (mg_of (F.gd.X F.sub) T.g e) (q _ S s (Ext.refl F.sub) (r S F.gd))) hd
theorem Ev.built {x : Str} {pos : Pos} {v : Value} (e : nsIn G.K mainGlobals x = some none) (hv : bootBuiltins x = some v) (hn : x ≠ "__name__") (hx : env.kindOf x = some .globalImplicit)
    (hd : (x == ("__debug__" : Str)) = false := by decide) : Ev G n env Γ (.Name x pos) (.val v) := by
  intro _ S s F A Q E _ q
  have T := F.gd.T F.sub
  exact Name_function_global F.kind hx (loadGlobal_builtin (by rw [F.glob]; exact T.g) (mg_none_of (F.gd.X F.sub) T.g e) (by rw [F.bt]; exact T.b) ((T.builtins x hn).trans hv) (q _ S s (Ext.refl F.sub) rfl)) hd
/-! two operands -/
def B2 (G : Gx) (n : Nat) (f : Value → Value → Sem Value) (da db d : D) : Prop :=
  ∀ (S : Gh) (s : Shared) (a b : Value), Gd G S → HLe S s.heap.get? → Rd G S da a → Rd G S db b → W G n S s (f a b) fun S' v => Rd G S' d v
theorem Ev.bin {l r : Expr} {op : Operator} {pos : Pos} {da db d : D} (hl : Ev G n env Γ l da) (hr : Ev G n env Γ r db) (ho : B2 G n (binaryOp op) da db d) : Ev G n env Γ (.BinOp l op r pos) d := by
  intro h₀ S s F A Q E hA q
  refine wpAny_BinOp (hl h₀ S s F A _ E hA fun a S1 s1 X1 ra => hr h₀ S1 s1 (F.ext X1) A _ E hA fun b S2 s2 X2 rb => ?_)
  exact ho S2 s2 a b (F.gd.le (X1.le.trans X2.le)) X2.sub (Rd.le X2.le _ _ ra) rb A _ E hA fun v S3 s3 X3 r => q v S3 s3 ((X1.trans X2).trans X3) r
theorem B2.of_int {f : Value → Value → Sem Value} {a b i : Int}
    (h : ∀ (A : Around) (Q : Value → Shared → Prop) (E : Value → Shared → Prop) (s : Shared) (t u : Tok), A.handled = none → Q (.int i s.toks) { s with toks := s.toks + 1 } → wpAny (model G.prog G.w) A (f (.int a t) (.int b u)) Q E s) :
    B2 G n f (.int a) (.int b) (.int i) := by
  intro S s va vb g hs ra rb A Q E hA q
  obtain ⟨t, rfl⟩ := ra
  obtain ⟨u, rfl⟩ := rb
  exact h A Q E s t u hA.hd (q _ S _ (Ext.tok hs _) ⟨_, rfl⟩)
variable {a b : Int}
theorem B2.add : B2 G n (binaryOp .Add) (.int a) (.int b) (.int (a + b)) := .of_int fun _ _ _ _ _ _ _ h => add_int h
theorem B2.sub : B2 G n (binaryOp .Sub) (.int a) (.int b) (.int (a - b)) := .of_int fun _ _ _ _ _ _ _ h => sub_int h
theorem B2.mul (hm : IntMulOk a b) : B2 G n (binaryOp .Mult) (.int a) (.int b) (.int (a * b)) := .of_int fun _ _ _ _ _ _ _ h => mul_int h hm
theorem B2.mod (hb : b ≠ 0) : B2 G n (binaryOp .Mod) (.int a) (.int b) (.int (a.fmod b)) := .of_int fun _ _ _ _ _ _ _ h => mod_int hb h
theorem B2.and : B2 G n (binaryOp .BitAnd) (.int a) (.int b) (.int (Builtin.bitAnd a b)) := .of_int fun _ _ _ _ _ _ _ h => and_int h
theorem B2.or : B2 G n (binaryOp .BitOr) (.int a) (.int b) (.int (Builtin.bitOr a b)) := .of_int fun _ _ _ _ _ _ _ h => or_int h
theorem B2.xor : B2 G n (binaryOp .BitXor) (.int a) (.int b) (.int (Builtin.bitXor a b)) := .of_int fun _ _ _ _ _ _ _ h => xor_int h
theorem B2.shl (hn : 0 ≤ b) (hsz : (Builtin.Int.intBits a : Int) + b ≤ 2 ^ 27) : B2 G n (binaryOp .LShift) (.int a) (.int b) (.int (a * 2 ^ b.toNat)) := .of_int fun _ _ _ _ _ _ _ h => lshift_int hn hsz h
theorem B2.shr (hn : 0 ≤ b) : B2 G n (binaryOp .RShift) (.int a) (.int b) (.int (a.fdiv (2 ^ b.toNat))) := .of_int fun _ _ _ _ _ _ _ h => rshift_int hn h
theorem B2.pow (hn : 0 ≤ b) (hsz : (Builtin.Int.intBits a : Int) * b ≤ 2 ^ 27) : B2 G n (binaryOp .Pow) (.int a) (.int b) (.int (a ^ b.toNat)) := .of_int fun _ _ _ _ _ _ _ h => pow_int hn hsz h
/-! comparisons -/
def C2 (G : Gx) (n : Nat) (op : CmpOp) (da db : D) (c : Bool) : Prop :=
  ∀ (S : Gh) (s : Shared) (a b : Value), Gd G S → HLe S s.heap.get? → Rd G S da a → Rd G S db b → W G n S s (compareOp op a b) fun _ v => v = .bool c
theorem C2.of_int {op : CmpOp} {a b : Int} {c : Bool}
    (h : ∀ (A : Around) (Q : Value → Shared → Prop) (E : Value → Shared → Prop) (s : Shared) (t u : Tok), Q (.bool c) s → wpAny (model G.prog G.w) A (compareOp op (.int a t) (.int b u)) Q E s) :
    C2 G n op (.int a) (.int b) c := by
  intro S s va vb g hs ra rb A Q E hA q
  obtain ⟨t, rfl⟩ := ra
  obtain ⟨u, rfl⟩ := rb
  exact h A Q E s t u (q _ S _ (Ext.refl hs) rfl)
theorem C2.eq : C2 G n .Eq (.int a) (.int b) (a == b) := .of_int fun _ _ _ _ _ _ h => eq_int h
theorem C2.ne : C2 G n .NotEq (.int a) (.int b) (a != b) := .of_int fun _ _ _ _ _ _ h => ne_int h
theorem C2.lt : C2 G n .Lt (.int a) (.int b) (decide (a < b)) := .of_int fun _ _ _ _ _ _ h => lt_int h
theorem C2.le : C2 G n .LtE (.int a) (.int b) (decide (a ≤ b)) := .of_int fun _ _ _ _ _ _ h => le_int h
theorem C2.gt : C2 G n .Gt (.int a) (.int b) (decide (b < a)) := .of_int fun _ _ _ _ _ _ h => gt_int h
theorem C2.ge : C2 G n .GtE (.int a) (.int b) (decide (b ≤ a)) := .of_int fun _ _ _ _ _ _ h => ge_int h
theorem Ev.cmp {l r : Expr} {op : CmpOp} {pos : Pos} {da db : D} {c : Bool} (hl : Ev G n env Γ l da) (hr : Ev G n env Γ r db) (ho : C2 G n op da db c)
    (hm : behindInMarks op r = false := by rfl) : Ev G n env Γ (.Compare l [op] [r] pos) (.bool c) := by
  intro h₀ S s F A Q E hA q
  refine wpAny_Compare1 (hl h₀ S s F A _ E hA fun a S1 s1 X1 ra => hr h₀ S1 s1 (F.ext X1) A _ E hA fun b S2 s2 X2 rb => ?_) hm
  exact ho S2 s2 a b (F.gd.le (X1.le.trans X2.le)) X2.sub (Rd.le X2.le _ _ ra) rb A _ E hA fun v S3 s3 X3 r => q v S3 s3 ((X1.trans X2).trans X3) r
theorem Tv.cmp {l r : Expr} {op : CmpOp} {pos : Pos} {da db : D} {c : Bool} (hl : Ev G n env Γ l da) (hr : Ev G n env Γ r db) (ho : C2 G n op da db c)
    (hm : behindInMarks op r = false := by rfl) : Tv G n env Γ (.Compare l [op] [r] pos) c := by
  intro h₀ S s F A Q E hA q
  refine wpAny_isTrue_Compare1 (hl h₀ S s F A _ E hA fun a S1 s1 X1 ra => hr h₀ S1 s1 (F.ext X1) A _ E hA fun b S2 s2 X2 rb => ?_) hm
  refine ho S2 s2 a b (F.gd.le (X1.le.trans X2.le)) X2.sub (Rd.le X2.le _ _ ra) rb A _ E hA fun v S3 s3 X3 r => ?_
  rw [r]
  exact wpAny_truthy_bool (q c S3 s3 ((X1.trans X2).trans X3) rfl)
/-! tests -/
def Tr (G : Gx) (n : Nat) (d : D) (c : Bool) : Prop := ∀ (S : Gh) (s : Shared) (v : Value), Gd G S → HLe S s.heap.get? → Rd G S d v → W G n S s (truthy v) fun _ b => b = c
theorem Tr.bool {c : Bool} : Tr G n (.bool c) c := by
  intro S s v g hs r A Q E hA q
  obtain rfl : v = .bool c := r
  exact wpAny_truthy_bool (q c S s (Ext.refl hs) rfl)
theorem Tr.int {a : Int} : Tr G n (.int a) (a != 0) := by
  intro S s v g hs r A Q E hA q
  obtain ⟨t, rfl⟩ := r
  exact truthy_int (q _ S s (Ext.refl hs) rfl)
theorem Tr.non : Tr G n .none false := by
  intro S s v g hs r A Q E hA q
  obtain rfl : v = .none := r
  exact truthy_none (q _ S s (Ext.refl hs) rfl)
theorem Tv.plain {e : Expr} {d : D} {c : Bool} (h : Ev G n env Γ e d) (t : Tr G n d c) (he : ∀ whole, isTrue e env whole = (do let v ← whole; standAt e.pos; holding [v] (truthy v)) := by intro _; rfl) : Tv G n env Γ e c := by
  intro h₀ S s F A Q E hA q
  rw [he]
  refine wpAny_bind (h h₀ S s F A _ E hA fun v S1 s1 X1 r => wpAny_bind (wpAny_standAt (wpAny_holding ?_)))
  exact t S1 s1 v (F.gd.le X1.le) X1.sub r A _ E hA fun b S2 s2 X2 e => q b S2 s2 (X1.trans X2) e
theorem Tv.not {e : Expr} {pos : Pos} {c : Bool} (h : Tv G n env Γ e c) : Tv G n env Γ (.UnaryOp .Not e pos) (!c) := by
  intro h₀ S s F A Q E hA q
  exact isTrue_not (h h₀ S s F A _ E hA fun b S1 s1 X1 r => q _ S1 s1 X1 (by rw [r]))
/-- and, or as tests: the rest is looked at only where it counts -/
def TvA (G : Gx) (n : Nat) (env : Env) (Γ : Cx) (op : BoolOp) (es : List Expr) (c : Bool) : Prop :=
  ∀ (h₀ : Gh) (S : Gh) (s : Shared), FrR G h₀ env S Γ s → W G n S s (allTrue op es env) fun _ b => b = c
theorem Tv.boolop {op : BoolOp} {es : List Expr} {pos : Pos} {c : Bool} (h : TvA G n env Γ op es c) : Tv G n env Γ (.BoolOp op es pos) c := h
theorem TvA.and_nil : TvA G n env Γ .And [] true := fun _ S s F => W.pure F.sub rfl
theorem TvA.or_nil : TvA G n env Γ .Or [] false := fun _ S s F => W.pure F.sub rfl
theorem TvA.and {x : Expr} {es : List Expr} {b c : Bool} (h : Tv G n env Γ x b) (k : b = true → TvA G n env Γ .And es c) : TvA G n env Γ .And (x :: es) (b && c) := by
  intro h₀ S s F
  refine W.bind (h h₀ S s F) fun b' S1 s1 X1 e => ?_
  subst e
  cases b' with
  | false => exact W.pure X1.sub rfl
  | true => exact (k rfl h₀ S1 s1 (F.ext X1)).mono fun _ _ e => by rw [e]; rfl
theorem TvA.or {x : Expr} {es : List Expr} {b c : Bool} (h : Tv G n env Γ x b) (k : b = false → TvA G n env Γ .Or es c) : TvA G n env Γ .Or (x :: es) (b || c) := by
  intro h₀ S s F
  refine W.bind (h h₀ S s F) fun b' S1 s1 X1 e => ?_
  subst e
  cases b' with
  | true => exact W.pure X1.sub rfl
  | false => exact (k rfl h₀ S1 s1 (F.ext X1)).mono fun _ _ e => by rw [e]; rfl
theorem Ev.ifexp {t x y : Expr} {pos : Pos} {c : Bool} {d : D} (h : Tv G n env Γ t c) (hx : c = true → Ev G n env Γ x d) (hy : c = false → Ev G n env Γ y d) : Ev G n env Γ (.IfExp t x y pos) d := by
  intro h₀ S s F
  refine W.bind (t := isTrue t env (eval t env)) (h h₀ S s F) fun b S1 s1 X1 e => ?_
  subst e
  cases b with
  | true => exact hx rfl h₀ S1 s1 (F.ext X1)
  | false => exact hy rfl h₀ S1 s1 (F.ext X1)
/-! unary -/
theorem Ev.neg {e : Expr} {pos : Pos} (h : Ev G n env Γ e (.int a)) : Ev G n env Γ (.UnaryOp .USub e pos) (.int (-a)) := by
  intro h₀ S s F A Q E hA q
  refine wpAny_UnaryOp (h h₀ S s F A _ E hA fun v S1 s1 X1 r => ?_)
  obtain ⟨t, rfl⟩ := r
  exact PyProof.Rows.neg_int (q _ S1 _ (X1.trans (Ext.tok X1.sub _)) ⟨_, rfl⟩)
theorem Ev.not {e : Expr} {pos : Pos} {d : D} {c : Bool} (h : Ev G n env Γ e d) (t : Tr G n d c) : Ev G n env Γ (.UnaryOp .Not e pos) (.bool (!c)) := by
  intro h₀ S s F A Q E hA q
  refine wpAny_UnaryOp (h h₀ S s F A _ E hA fun v S1 s1 X1 r => ?_)
  refine not_of (t S1 s1 v (F.gd.le X1.le) X1.sub r A _ E hA fun b S2 s2 X2 e => ?_)
  exact q _ S2 s2 (X1.trans X2) (by rw [e]; rfl)
/-! and, or as values -/
def EvA (G : Gx) (n : Nat) (env : Env) (Γ : Cx) (op : BoolOp) (pos : Pos) (es : List Expr) (d : D) : Prop :=
  ∀ (h₀ : Gh) (S : Gh) (s : Shared), FrR G h₀ env S Γ s → W G n S s (boolOp pos op (evalEach es env)) fun S' v => Rd G S' d v
theorem Ev.boolop {op : BoolOp} {es : List Expr} {pos : Pos} {d : D} (h : EvA G n env Γ op pos es d) : Ev G n env Γ (.BoolOp op es pos) d := h
theorem EvA.last {op : BoolOp} {x : Expr} {pos : Pos} {d : D} (h : Ev G n env Γ x d) : EvA G n env Γ op pos [x] d := h
theorem EvA.and {x y : Expr} {es : List Expr} {pos : Pos} {da d : D} {c : Bool} (h : Ev G n env Γ x da) (t : Tr G n da c) (k : c = true → EvA G n env Γ .And pos (y :: es) d) (k' : c = false → d = da) : EvA G n env Γ .And pos (x :: y :: es) d := by
  intro h₀ S s F
  refine W.bind (t := eval x env) (h h₀ S s F) fun v S1 s1 X1 r => ?_
  intro A Q E hA q
  refine wpAny_bind (wpAny_standAt (wpAny_bind (wpAny_holding (t S1 s1 v (F.gd.le X1.le) X1.sub r A _ E hA fun b S2 s2 X2 e => ?_))))
  subst e
  cases b with
  | true => exact k rfl h₀ S2 s2 ((F.ext X1).ext X2) A Q E hA fun v S3 s3 X3 r => q v S3 s3 (X2.trans X3) r
  | false => exact wpAny_pure (q v S2 s2 X2 (by rw [k' rfl]; exact Rd.le X2.le _ _ r))
theorem EvA.or {x y : Expr} {es : List Expr} {pos : Pos} {da d : D} {c : Bool} (h : Ev G n env Γ x da) (t : Tr G n da c) (k : c = false → EvA G n env Γ .Or pos (y :: es) d) (k' : c = true → d = da) : EvA G n env Γ .Or pos (x :: y :: es) d := by
  intro h₀ S s F
  refine W.bind (t := eval x env) (h h₀ S s F) fun v S1 s1 X1 r => ?_
  intro A Q E hA q
  refine wpAny_bind (wpAny_standAt (wpAny_bind (wpAny_holding (t S1 s1 v (F.gd.le X1.le) X1.sub r A _ E hA fun b S2 s2 X2 e => ?_))))
  subst e
  cases b with
  | false => exact k rfl h₀ S2 s2 ((F.ext X1).ext X2) A Q E hA fun v S3 s3 X3 r => q v S3 s3 (X2.trans X3) r
  | true => exact wpAny_pure (q v S2 s2 X2 (by rw [k' rfl]; exact Rd.le X2.le _ _ r))
end
end Mine
open PySem PySem.W PyProof.Rows PySem.Calls
set_option Elab.async false
set_option maxRecDepth 100000
set_option linter.unusedVariables false
namespace Mine
structure ClsOk (K : Frag) (C : Addr) : Prop where
  hd : hasDictIn K C = true
  ga : findIn K (.ref C) "__getattribute__" = some (some (.builtin "object.__getattribute__"))
  gt : findIn K (.ref C) "__getattr__" = some none
  cl : findIn K (.ref C) "__class__" = some (some (.builtin "object.__class__"))
  cg : specialIn K (.builtin "object.__class__") "__get__" = some (some (.builtin "getset_descriptor.__get__"))
  ct : takesIn K (.builtin "object.__class__") = some true
  mo : mroIn K C (.type "object") = some true
  mks : makesIn K C = true
  mga : specialIn K (.ref C) "__getattribute__" = some (some (.builtin "type.__getattribute__"))
  rd : readsIn K C (.type "type") = true
  keep : keepIn K (.ref C) = true
  sa : findIn K (.ref C) "__setattr__" = some (some (.builtin "object.__setattr__"))
  po : plainOver K C = true
structure MethOk (K : Frag) (C : Addr) (name : Str) (f : Addr) : Prop where
  fi : findIn K (.ref C) name = some (some (.ref f))
  ty : typeIn K (.ref f) = some (.type "function")
  keep : keepIn K (.ref f) = true
structure CmOk (K : Frag) (C : Addr) (name : Str) (p f : Addr) : Prop where
  fi : findIn K (.ref C) name = some (some (.ref p))
  ty : typeIn K (.ref p) = some (.type "classmethod")
  sg : specialIn K (.ref p) "__get__" = some (some (.builtin "classmethod.__get__"))
  tk : takesIn K (.ref p) = some false
  fc : findCls K (.ref C) (.type "type") name = some (.get (.builtin "classmethod.__get__") (.ref p) .none (.ref C))
  rc : ∃ rest, recIn K p "classmethod" = some (.ref f :: rest)
  fn : fnIn K f = true
theorem isStr_lit (a b : Str) (t : Tok) : (Value.str b t).isStr a = (a == b) := by
  show (b == a) = (a == b)
  by_cases h : a = b
  · subst h; rfl
  · rw [beq_eq_false_iff_ne.mpr h, beq_eq_false_iff_ne.mpr (Ne.symm h)]
theorem findObj_bind {K : Frag} {C : Addr} {od : Obj} {name : Str} {a g : Value} (hh : hasDictIn K C = true) (ha : findIn K (.ref C) name = some (some a)) (hg : specialIn K a "__get__" = some (some g)) (ht : takesIn K a = some false)
    (hc : copiedNames.contains name = false) (hl : lookIn name od = some none) : findObj K C (some od) name = some (.bind g a) := by
  obtain ⟨cd, hc', hd⟩ := any_some hh
  unfold findObj
  have ho : PySem.W.ownOf cd (some od) name = some none := by unfold PySem.W.ownOf; rw [if_pos hd]; exact hl
  rw [hc', Option.bind_some, ha, Option.bind_some]
  simp only [hg, Option.bind_some, ht, ho, hc, Bool.false_and, Bool.false_eq_true, if_false]
/-- a value that is an object of one of the text's own classes, its dict of one written key -/
structure Inst1 (h : Heap) (C : Addr) (key : Str) (x : Addr) : Prop where
  ex : ∃ dx o v, InstAt h x (instObj C dx) C (some o) ∧ ∀ name, lookIn name o = some (if name = key then some v else none)
theorem DictIs.look {S : Gh} {dx : Addr} {key : Str} {v : Value} (h : DictIs S dx key v) : ∃ o, S dx = some o ∧ ∀ name, lookIn name o = some (if name = key then some v else none) := by
  obtain ⟨o, es, ep, e, hd, hk, hf⟩ := h
  refine ⟨o, e, fun name => ?_⟩
  have hr : es.toList.any (·.refKey) = false := by
    rw [List.any_eq_false]
    intro x hx
    obtain ⟨n, t, q⟩ := hk x (Array.mem_toList_iff.mp hx)
    simp [DictEntry.refKey, q]
  unfold lookIn
  rw [hd]
  dsimp only
  have hn := hf name
  unfold nsFind findBy at hn
  rw [← Array.find?_toList] at hn
  rw [← hn]
  cases q : es.toList.find? (fun x => x.key.isStr name) with
  | some en => simp [q]
  | none => simp [q, hr]
theorem CellAt.inst {S : Gh} {h : Heap} {C : Addr} {i : Int} {x : Addr} (c : CellAt S C i x) (k : HLe S h.get?) : Inst1 h C cellKey x := by
  obtain ⟨dx, t, a, b⟩ := c.ex
  obtain ⟨o, e, l⟩ := b.look
  exact ⟨dx, o, _, ⟨k _ _ a, rfl, rfl, k _ _ e⟩, l⟩
theorem PtAt.inst {S : Gh} {h : Heap} {C : Addr} {i j l : Int} {x : Addr} (c : PtAt S C i j l x) (k : HLe S h.get?) : Inst1 h C ptKey x := by
  obtain ⟨dx, p, t1, t2, t3, a, b, _⟩ := c.ex
  obtain ⟨o, e, l⟩ := b.look
  exact ⟨dx, o, _, ⟨k _ _ a, rfl, rfl, k _ _ e⟩, l⟩
theorem look_no {name key : Str} {o : Obj} {v : Value} (l : ∀ name, lookIn name o = some (if name = key then some v else none)) (h : (name == key) = false) : lookIn name o = some none := by
  rw [l, if_neg (beq_eq_false_iff_ne.mp h)]
/-- which class an object is of -/
inductive IsObj (G : Gx) : D → Addr → Str → Prop where
  | cell (i : Int) : IsObj G (.cell i) G.C cellKey
  | pt (i j k : Int) : IsObj G (.pt i j k) G.CP ptKey
theorem IsObj.inst {G : Gx} {d : D} {C : Addr} {key : Str} (o : IsObj G d C key) {S : Gh} {h : Heap} {v : Value} (r : Rd G S d v) (k : HLe S h.get?) : ∃ x, v = .ref x ∧ Inst1 h C key x := by
  cases o with
  | cell i =>
    unfold Rd at r
    obtain ⟨a, e, c⟩ := r
    exact ⟨a, e, c.inst k⟩
  | pt i j l =>
    unfold Rd at r
    obtain ⟨a, e, c⟩ := r
    exact ⟨a, e, c.inst k⟩
section
variable {G : Gx} {n : Nat} {env : Env} {Γ : Cx}
theorem RdL.cons {G : Gx} {S : Gh} {d : D} {l : List D} {v : Value} {r : List Value} (a : Rd G S d v) (b : RdL G S l r) : RdL G S (d :: l) (v :: r) := by
  unfold RdL; exact ⟨v, r, rfl, a, b⟩
theorem RdL.nil {G : Gx} {S : Gh} : RdL G S [] [] := by unfold RdL; rfl
theorem Rd.int {G : Gx} {S : Gh} {i : Int} {t : Tok} : Rd G S (.int i) (.int i t) := by unfold Rd; exact ⟨t, rfl⟩
theorem Rd.str {G : Gx} {S : Gh} {x : Str} {t : Tok} : Rd G S (.str x) (.str x t) := by unfold Rd; exact ⟨t, rfl⟩
/-! arguments -/
theorem Al.nil {pos : Pos} : Al G n env Γ pos [] [] := fun _ S s F => W.pure F.sub (by unfold RdL; rfl)
theorem Al.cons {pos : Pos} {e : Expr} {es : List Expr} {d : D} {ds : List D} (h : Ev G n env Γ e d) (k : Al G n env Γ pos es ds)
    (he : starEach (e :: es) env = (false, eval e env) :: starEach es env := by rfl) : Al G n env Γ pos (e :: es) (d :: ds) := by
  intro h₀ S s F A Q E hA q
  rw [he]
  refine Calls.spliced_cons (h h₀ S s F A _ E hA fun v S1 s1 X1 r => k h₀ S1 s1 (F.ext X1) A _ E hA fun vs S2 s2 X2 rs => ?_)
  refine q _ S2 s2 (X1.trans X2) ?_
  unfold RdL
  exact ⟨v, vs, rfl, Rd.le X2.le _ _ r, rs⟩
theorem callK {pos : Pos} {f : Value} {first : List Value} {args : List Expr} {ds fs : List D} {d : D} {k : Nat} (hk : keepIn G.K f = true) (hf : FnOk G k f (fs ++ ds) d) (hkn : k ≤ n) (ha : Al G n env Γ pos args ds)
    (hplain : (backTo pos (starEach args env)).any (·.1) = false) {h₀ : Gh} {S : Gh} {s : Shared} (F : FrR G h₀ env S Γ s) (hfst : RdL G S fs first) :
    W G n S s (callWith pos f first (backTo pos (starEach args env)) []) fun S' v => Rd G S' d v := by
  intro A Q E hA q
  have app : ∀ {S : Gh} (fs : List D) {vs ws : List Value}, RdL G S fs vs → RdL G S ds ws → RdL G S (fs ++ ds) (vs ++ ws) := by
    intro S fs
    induction fs with
    | nil => intro vs ws h1 h2; unfold RdL at h1; subst h1; exact h2
    | cons d fs ih =>
      intro vs ws h1 h2
      unfold RdL at h1
      obtain ⟨v, r, rfl, a, b⟩ := h1
      show RdL G S (d :: (fs ++ ds)) (v :: (r ++ ws))
      unfold RdL
      exact ⟨v, _, rfl, a, ih b h2⟩
  refine callWith_of (by show (_ || false) = false; rw [hplain]; rfl) (keeps_K hk) ?_
  have key : wpAny (model G.prog G.w) A (spliced (backTo pos (starEach args env))) (fun vs s' => G.K.In s'.heap ∧ wpAny (model G.prog G.w) A (call f (first ++ vs) []) Q E s') E s :=
    ha h₀ S s F A _ E hA fun vs S1 s1 X1 rs => ⟨(F.gd.le X1.le).X X1.sub, hf.w (F.gd.le X1.le) X1.sub (app fs (RdL.le X1.le _ _ hfst) rs) A _ E (hA.mono hkn) fun v S2 s2 X2 r => q v S2 s2 (X1.trans X2) r⟩
  cases hargs : backTo pos (starEach args env) with
  | nil =>
    rw [hargs] at key
    unfold evalArgs
    show wpAny _ A (spliced [] >>= _) _ E s
    refine wpAny_bind (wpAny_mono key (fun vs s' h' => ?_) fun _ _ x => x)
    refine wpAny_holding ?_
    exact wpAny_bind (wpAny_pure (wpAny_bind (wpAny_pure (wpAny_pure h'))))
  | cons x rest =>
    rw [hargs] at key hplain
    obtain ⟨b, t⟩ := x
    obtain rfl : b = false := by
      rw [List.any_cons] at hplain
      exact (Bool.or_eq_false_iff.mp hplain).1
    exact Calls.evalArgs_plain key
/-- a call of one of the top's defs or classes by its name -/
theorem Ev.callG {x : Str} {px pos : Pos} {f : Value} {args : List Expr} {ds : List D} {d : D} {k : Nat} (e : nsIn G.K mainGlobals x = some (some f)) (hk : keepIn G.K f = true) (hf : FnOk G k f ds d) (hkn : k ≤ n)
    (ha : Al G n env Γ pos args ds) (hx : env.kindOf x = some .globalImplicit := by rfl) (hd : (x == ("__debug__" : Str)) = false := by decide) (hplain : (backTo pos (starEach args env)).any (·.1) = false := by rfl) :
    Ev G n env Γ (.Call (.Name x px) args [] pos) d := by
  intro h₀ S s F
  refine W.bind (t := eval (.Name x px) env) (R := fun _ v => v = f) ?_ fun v S1 s1 X1 e1 => ?_
  · exact (Ev.glob (d := .val f) e hx (fun _ _ => rfl) hd : Ev G n env Γ (.Name x px) (.val f)) h₀ S s F
  · subst e1
    exact callK (fs := []) hk hf hkn ha hplain (F.ext X1) (by unfold RdL; rfl)
/-! methods of an object of the text's own -/
theorem mcall {o : Expr} {name : Str} {apos pos : Pos} {args : List Expr} {d dov : D} (ho : Ev G n env Γ o dov)
    (h : ∀ (pl : Sem Bool) (h₀ : Gh) (S : Gh) (s : Shared) (ov : Value) (A : Around) (Q E : Value → Shared → Prop), FrR G h₀ env S Γ s → Rd G S dov ov → Amb n A → (∀ v S' s', Ext S s S' s' → Rd G S' d v → Q v s') →
      wpAny (model G.prog G.w) A (getMethod ov name pl) (fun fx s' => wpAny (model G.prog G.w) A (callWith pos fx.1 fx.2 (backTo pos (starEach args env)) []) Q E s') E s)
    {pl : Sem Bool} (he : eval (.Call (.Attribute o name apos) args [] pos) env = (do
      let ov ← eval o env
      standAt apos.atName
      let (f, first) ← holding [ov] (getMethod ov name pl)
      callWith pos f first (backTo pos (starEach args env)) (backToKw pos (keywordEach [] env))) := by rfl) : Ev G n env Γ (.Call (.Attribute o name apos) args [] pos) d := by
  intro h₀ S s F A Q E hA q
  exact methodCall_KW (pl := pl) (ho h₀ S s F A _ E hA fun ov S1 s1 X1 r => h pl h₀ S1 s1 ov A Q E (F.ext X1) r hA fun v S2 s2 X2 r2 => q v S2 s2 (X1.trans X2) r2) he
theorem Ev.meth {o : Expr} {name : Str} {apos pos : Pos} {args : List Expr} {ds : List D} {d dov : D} {C f : Addr} {key : Str} {k : Nat} (co : ClsOk G.K C) (mo : MethOk G.K C name f) (io : IsObj G dov C key) (hne : (name == key) = false)
    (ho : Ev G n env Γ o dov) (hf : FnOk G k (.ref f) (dov :: ds) d) (hkn : k ≤ n) (ha : Al G n env Γ pos args ds) {pl : Sem Bool} (hplain : (backTo pos (starEach args env)).any (·.1) = false := by rfl)
    (he : eval (.Call (.Attribute o name apos) args [] pos) env = (do
      let ov ← eval o env
      standAt apos.atName
      let (f, first) ← holding [ov] (getMethod ov name pl)
      callWith pos f first (backTo pos (starEach args env)) (backToKw pos (keywordEach [] env))) := by rfl) : Ev G n env Γ (.Call (.Attribute o name apos) args [] pos) d := by
  refine mcall ho (fun pl h₀ S s ov A Q E F r hA q => ?_) he
  obtain ⟨x, rfl, ⟨dx, oo, v, I, lk⟩⟩ := io.inst r F.sub
  refine (method_fn (F.gd.X F.sub) I co.ga co.gt mo.fi mo.ty (by show (lookIn name oo).map _ = _; rw [look_no lk hne]; rfl) ?_)
  exact callK (fs := [dov]) mo.keep hf hkn ha hplain F (by unfold RdL; exact ⟨_, [], rfl, r, by unfold RdL; rfl⟩) A Q E hA q
/-- what is bound: a class method met at an object or at the class -/
theorem callM {pos : Pos} {C f q : Addr} {args : List Expr} {ds : List D} {d : D} {k : Nat} (fn : fnIn G.K f = true) (hf : FnOk G k (.ref f) (.val (.ref C) :: ds) d) (hkn : k ≤ n) (ha : Al G n env Γ pos args ds)
    (hplain : (backTo pos (starEach args env)).any (·.1) = false) {h₀ : Gh} {S : Gh} {s : Shared} (F : FrR G h₀ env S Γ s) (hq : s.heap.get? q = some (methodObj (.ref f) (.ref C))) :
    W G n S s (callWith pos (.ref q) [] (backTo pos (starEach args env)) []) fun S' v => Rd G S' d v := by
  intro A Q E hA qq
  refine callWith_of (P := MethP G.K q f (.ref C)) (by show (_ || false) = false; rw [hplain]; rfl) (keeps_M fn) ?_
  have key : wpAny (model G.prog G.w) A (spliced (backTo pos (starEach args env))) (fun vs s' => MethP G.K q f (.ref C) s'.heap ∧ wpAny (model G.prog G.w) A (call (.ref q) ([] ++ vs) []) Q E s') E s :=
    ha h₀ S s F A _ E hA fun vs S1 s1 X1 rs => ⟨⟨X1.heap _ _ hq, (F.gd.le X1.le).X X1.sub⟩, by
      refine wpAny_call (method_call (X1.heap _ _ hq) ?_)
      exact hf S1 s1 (.ref C :: vs) (F.gd.le X1.le) X1.sub (by unfold RdL; exact ⟨_, vs, rfl, rfl, rs⟩) A Q E (hA.mono hkn) fun v S2 s2 X2 r => qq v S2 s2 (X1.trans X2) r⟩
  cases hargs : backTo pos (starEach args env) with
  | nil =>
    rw [hargs] at key
    unfold evalArgs
    show wpAny _ A (spliced [] >>= _) _ E s
    refine wpAny_bind (wpAny_mono key (fun vs s' h' => ?_) fun _ _ x => x)
    refine wpAny_holding ?_
    exact wpAny_bind (wpAny_pure (wpAny_bind (wpAny_pure (wpAny_pure h'))))
  | cons x rest =>
    rw [hargs] at key hplain
    obtain ⟨b, t⟩ := x
    obtain rfl : b = false := by
      rw [List.any_cons] at hplain
      exact (Bool.or_eq_false_iff.mp hplain).1
    exact Calls.evalArgs_plain key
/-- a class method met at the class -/
theorem Ev.cmeth {o : Expr} {name : Str} {apos pos : Pos} {args : List Expr} {ds : List D} {d : D} {C p f : Addr} {k : Nat} (co : ClsOk G.K C) (mo : CmOk G.K C name p f)
    (ho : Ev G n env Γ o (.val (.ref C))) (hf : FnOk G k (.ref f) (.val (.ref C) :: ds) d) (hkn : k ≤ n) (ha : Al G n env Γ pos args ds) {pl : Sem Bool} (hplain : (backTo pos (starEach args env)).any (·.1) = false := by rfl)
    (he : eval (.Call (.Attribute o name apos) args [] pos) env = (do
      let ov ← eval o env
      standAt apos.atName
      let (f, first) ← holding [ov] (getMethod ov name pl)
      callWith pos f first (backTo pos (starEach args env)) (backToKw pos (keywordEach [] env))) := by rfl) : Ev G n env Γ (.Call (.Attribute o name apos) args [] pos) d := by
  refine mcall ho (fun pl h₀ S s ov A Q E F r hA q => ?_) he
  obtain rfl : ov = .ref C := r
  obtain ⟨rest, rc⟩ := mo.rc
  have X := F.gd.X F.sub
  refine method_cls X co.mga (cls_bind X co.rd mo.fc (wpAny_call (cm_get (s := { s with toks := s.toks + 1 }) X rc (handed_on rfl ?_))))
  have P := Ext.push F.sub (methodObj (.ref f) (.ref C)) rfl (s.toks + 1)
  exact callM mo.fn hf hkn ha hplain (F.ext P) (Heap.get?_push_size _ rfl) A Q E hA fun v S' s' X' r => q v S' s' (P.trans X') r
/-- a class method met at an object -/
theorem Ev.imeth {o : Expr} {name : Str} {apos pos : Pos} {args : List Expr} {ds : List D} {d dov : D} {C p f : Addr} {key : Str} {k : Nat} (co : ClsOk G.K C) (mo : CmOk G.K C name p f) (io : IsObj G dov C key) (hne : (name == key) = false) (hcp : copiedNames.contains name = false)
    (ho : Ev G n env Γ o dov) (hf : FnOk G k (.ref f) (.val (.ref C) :: ds) d) (hkn : k ≤ n) (ha : Al G n env Γ pos args ds) {pl : Sem Bool} (hplain : (backTo pos (starEach args env)).any (·.1) = false := by rfl)
    (he : eval (.Call (.Attribute o name apos) args [] pos) env = (do
      let ov ← eval o env
      standAt apos.atName
      let (f, first) ← holding [ov] (getMethod ov name pl)
      callWith pos f first (backTo pos (starEach args env)) (backToKw pos (keywordEach [] env))) := by rfl) : Ev G n env Γ (.Call (.Attribute o name apos) args [] pos) d := by
  refine mcall ho (fun pl h₀ S s ov A Q E F r hA q => ?_) he
  obtain ⟨x, rfl, ⟨dx, oo, v, I, lk⟩⟩ := io.inst r F.sub
  obtain ⟨rest, rc⟩ := mo.rc
  have X := F.gd.X F.sub
  refine method_usual X I co.ga co.gt mo.fi (by show (typeIn _ _).any _ = true; rw [mo.ty]; rfl) ?_
  refine get_bind X I co.ga (findObj_bind co.hd mo.fi mo.sg mo.tk hcp (look_no lk hne)) co.gt ?_
  refine wpAny_call (cm_get (s := { s with toks := s.toks + 1 }) X rc (handed_on rfl ?_))
  have P := Ext.push F.sub (methodObj (.ref f) (.ref C)) rfl (s.toks + 1)
  exact callM mo.fn hf hkn ha hplain (F.ext P) (Heap.get?_push_size _ rfl) A Q E hA fun v S' s' X' r => q v S' s' (P.trans X') r
/-! attributes -/
theorem Ev.attr {o : Expr} {name : Str} {pos : Pos} {d dov : D} (ho : Ev G n env Γ o dov)
    (h : ∀ (S : Gh) (s : Shared) (ov : Value), Gd G S → HLe S s.heap.get? → Rd G S dov ov → W G n S s (getAttr ov name true) fun S' v => Rd G S' d v)
    (he : eval (.Attribute o name pos) env = (do
      let x ← eval o env
      standAt pos.atName
      let r ← holding [x] (getAttr x name true)
      letTemporaryGo o x r
      pure r) := by rfl) : Ev G n env Γ (.Attribute o name pos) d := by
  intro h₀ S s F A Q E hA q
  exact Attribute_any_ (ho h₀ S s F A _ E hA fun ov S1 s1 X1 r => h S1 s1 ov (F.gd.le X1.le) X1.sub r A Q E hA fun v S2 s2 X2 r2 => q v S2 s2 (X1.trans X2) r2) he
/-- the class of an object -/
theorem Ev.attrClass {o : Expr} {pos : Pos} {dov : D} {C : Addr} {key : Str} (co : ClsOk G.K C) (io : IsObj G dov C key) (ho : Ev G n env Γ o dov)
    (he : eval (.Attribute o "__class__" pos) env = (do
      let x ← eval o env
      standAt pos.atName
      let r ← holding [x] (getAttr x "__class__" true)
      letTemporaryGo o x r
      pure r) := by rfl) : Ev G n env Γ (.Attribute o "__class__" pos) (.val (.ref C)) := by
  refine Ev.attr ho (fun S s ov g k r A Q E hA q => ?_) he
  obtain ⟨x, rfl, ⟨dx, oo, v, I, lk⟩⟩ := io.inst r k
  have X := g.X k
  refine get_bind X I co.ga (findObj_data (by obtain ⟨cd, hc, _⟩ := any_some co.hd; rw [hc]; rfl) co.cl co.cg co.ct) co.gt ?_
  exact wpAny_call (class_get (s := { s with toks := s.toks + 1 }) X I co.mo (handed_on rfl (q _ S _ (Ext.tok k _) rfl)))
/-- the class's own constants -/
theorem Ev.attrCls {o : Expr} {name : Str} {pos : Pos} {C : Addr} {v : Value} {d : D} (co : ClsOk G.K C) (ho : Ev G n env Γ o (.val (.ref C))) (e : findCls G.K (.ref C) (.type "type") name = some (.val v)) (hh : handedIn v = true)
    (hd : ∀ S, Gd G S → Rd G S d v)
    (he : eval (.Attribute o name pos) env = (do
      let x ← eval o env
      standAt pos.atName
      let r ← holding [x] (getAttr x name true)
      letTemporaryGo o x r
      pure r) := by rfl) : Ev G n env Γ (.Attribute o name pos) d := by
  refine Ev.attr ho (fun S s ov g k r A Q E hA q => ?_) he
  obtain rfl : ov = .ref C := r
  exact cls_value (g.X k) co.rd e hh (q _ S _ (Ext.tok k _) (hd S g))
/-- the id that a cell holds -/
theorem Ev.attrId {o : Expr} {pos : Pos} {i : Int} (co : ClsOk G.K G.C) (hn : findIn G.K (.ref G.C) cellKey = some none) (ho : Ev G n env Γ o (.cell i))
    (he : eval (.Attribute o cellKey pos) env = (do
      let x ← eval o env
      standAt pos.atName
      let r ← holding [x] (getAttr x cellKey true)
      letTemporaryGo o x r
      pure r) := by rfl) : Ev G n env Γ (.Attribute o cellKey pos) (.int i) := by
  refine Ev.attr ho (fun S s ov g k r A Q E hA q => ?_) he
  unfold Rd at r
  obtain ⟨x, rfl, c⟩ := r
  obtain ⟨dx, t, a, b⟩ := c.ex
  obtain ⟨o, e, l⟩ := b.look
  have I : InstAt s.heap x (instObj G.C dx) G.C (some o) := ⟨k _ _ a, rfl, rfl, k _ _ e⟩
  exact get_value (g.X k) I co.ga (findObj_own co.hd hn rfl ((l _).trans (by rw [if_pos rfl]))) rfl (q _ S _ (Ext.tok k _) ⟨_, rfl⟩)
theorem Ev.attrPt {o : Expr} {pos : Pos} {i j l : Int} (co : ClsOk G.K G.CP) (hn : findIn G.K (.ref G.CP) ptKey = some none) (ho : Ev G n env Γ o (.pt i j l))
    (he : eval (.Attribute o ptKey pos) env = (do
      let x ← eval o env
      standAt pos.atName
      let r ← holding [x] (getAttr x ptKey true)
      letTemporaryGo o x r
      pure r) := by rfl) : Ev G n env Γ (.Attribute o ptKey pos) (.tup [.int i, .int j, .int l]) := by
  refine Ev.attr ho (fun S s ov g k r A Q E hA q => ?_) he
  unfold Rd at r
  obtain ⟨x, rfl, c⟩ := r
  obtain ⟨dx, p, t1, t2, t3, a, b, tp⟩ := c.ex
  obtain ⟨o, e, l⟩ := b.look
  have I : InstAt s.heap x (instObj G.CP dx) G.CP (some o) := ⟨k _ _ a, rfl, rfl, k _ _ e⟩
  refine get_value (g.X k) I co.ga (findObj_own co.hd hn rfl ((l _).trans (by rw [if_pos rfl]))) rfl (q _ S _ (Ext.tok k _) ?_)
  unfold Rd
  exact ⟨p, _, rfl, tp, RdL.cons Rd.int (RdL.cons Rd.int (RdL.cons Rd.int RdL.nil))⟩
end
end Mine
open PySem PySem.W PyProof.Rows PySem.Calls
set_option Elab.async false
set_option maxRecDepth 100000
set_option linter.unusedVariables false
namespace Mine
inductive Out where
  | next (Γ : Cx)
  | brk (Γ : Cx)
  | cont (Γ : Cx)
  | ret (d : D)
structure ExtB (h₀ : Gh) (S : Gh) (s : Shared) (S' : Gh) (s' : Shared) : Prop where
  le : HLe S S'
  fresh : ∀ b o, h₀ b = some o → S b = none → S' b = none
  os : s'.os = s.os
  gens : ∃ l, s'.gens = s.gens ++ l ∧ AllBare l
theorem ExtB.trans {h₀ : Gh} {S S' S'' : Gh} {s s' s'' : Shared} (x : ExtB h₀ S s S' s') (y : ExtB h₀ S' s' S'' s'') : ExtB h₀ S s S'' s'' :=
  ⟨x.le.trans y.le, fun b o hb e => y.fresh b o hb (x.fresh b o hb e), y.os.trans x.os, by
    obtain ⟨l, e, hl⟩ := x.gens
    obtain ⟨l', e', hl'⟩ := y.gens
    exact ⟨l ++ l', by rw [e', e, Array.append_assoc], AllBare.app hl hl'⟩⟩
theorem Ext.toB {h₀ : Gh} {S S' : Gh} {s s' : Shared} (x : Ext S s S' s') (h : HLe h₀ s.heap.get?) : ExtB h₀ S s S' s' :=
  ⟨x.le, fun b o hb e => x.fresh b o (h b o hb) e, x.os, x.gens⟩
def OutR (G : Gx) (h₀ : Gh) (env : Env) (S : Gh) (s : Shared) : Out → Flow → Prop
  | .next Γ, .next => FrR G h₀ env S Γ s
  | .brk Γ, .brk => FrR G h₀ env S Γ s
  | .cont Γ, .cont => FrR G h₀ env S Γ s
  | .ret d, .ret v => Rd G S d v ∧ HLe S s.heap.get? ∧ HLe h₀ s.heap.get?
  | _, _ => False
/-- what a row of statements does -/
def Ex (G : Gx) (n : Nat) (env : Env) (Γ : Cx) (ss : List Stmt) (P : Out → Prop) : Prop :=
  ∀ (h₀ : Gh) (S : Gh) (s : Shared), FrR G h₀ env S Γ s → ∀ (A : Around) (Q : Flow → Shared → Prop) (E : Value → Shared → Prop), Amb n A →
    (∀ o fl S' s', P o → OutR G h₀ env S' s' o fl → ExtB h₀ S s S' s' → Q fl s') → wpAny (model G.prog G.w) A (execs ss env) Q E s
/-- one statement -/
def Ex1 (G : Gx) (n : Nat) (env : Env) (Γ : Cx) (st : Stmt) (P : Out → Prop) : Prop :=
  ∀ (h₀ : Gh) (S : Gh) (s : Shared), FrR G h₀ env S Γ s → ∀ (A : Around) (Q : Flow → Shared → Prop) (E : Value → Shared → Prop), Amb n A →
    (∀ o fl S' s', P o → OutR G h₀ env S' s' o fl → ExtB h₀ S s S' s' → Q fl s') → wpAny (model G.prog G.w) A (exec st env) Q E s
def Then (G : Gx) (n : Nat) (env : Env) (ss : List Stmt) (P : Out → Prop) : Out → Prop
  | .next Γ => Ex G n env Γ ss P
  | o => P o
def Cx.set (Γ : Cx) (x : Str) (d : D) : Cx := { vars := (x, d) :: Γ.vars, own := match Γ.own with | some (y, l) => if y == x then none else some (y, l) | none => none }
def Cx.mine (Γ : Cx) (x : Str) (l : List D) : Cx := { vars := Γ.vars.filter fun p => !(p.1 == x), own := some (x, l) }
def Cx.froze (Γ : Cx) : Cx := match Γ.own with | some (x, l) => { vars := (x, .lst l) :: Γ.vars, own := none } | none => Γ
def Cx.grown (Γ : Cx) (d : D) : Cx := { Γ with own := Γ.own.map fun p => (p.1, p.2 ++ [d]) }
/-- less is known -/
def Cx.Sub (Γ Γ' : Cx) : Prop := (∀ x d, Γ.vars.lookup x = some d → Γ'.vars.lookup x = some d) ∧ (∀ x l, Γ.own = some (x, l) → Γ'.own = some (x, l) ∧ Γ.vars.lookup x = none)
theorem FrR.sub' {G : Gx} {h₀ : Gh} {env : Env} {S : Gh} {Γ Γ' : Cx} {s : Shared} (F : FrR G h₀ env S Γ' s) (h : Γ.Sub Γ') : FrR G h₀ env S Γ s := by
  obtain ⟨m, hn, hS, hv, ho⟩ := F.fr
  exact { F with fr := ⟨m, hn, hS, fun x d e => hv x d (h.1 x d e), fun x l e => ⟨(h.2 x l e).2, (ho x l (h.2 x l e).1).2⟩⟩ }
section
variable {G : Gx} {n : Nat} {env : Env} {Γ : Cx} {P : Out → Prop} {rest : List Stmt}
theorem Ex.mono {ss : List Stmt} {P' : Out → Prop} (h : Ex G n env Γ ss P') (k : ∀ o, P' o → P o) : Ex G n env Γ ss P :=
  fun h₀ S s F A Q E hA q => h h₀ S s F A Q E hA fun o fl S' s' p r x => q o fl S' s' (k o p) r x
theorem Ex.sub {ss : List Stmt} {Γ' : Cx} (h : Ex G n env Γ' ss P) (k : Γ'.Sub Γ) : Ex G n env Γ ss P :=
  fun h₀ S s F A Q E hA q => h h₀ S s (F.sub' k) A Q E hA q
theorem ExtB.rfl' {h₀ : Gh} {S : Gh} {s : Shared} : ExtB h₀ S s S s := ⟨HLe.refl _, fun _ _ _ e => e, rfl, #[], by simp, AllBare.empty⟩
theorem Ex.nil (h : P (.next Γ)) : Ex G n env Γ [] P := fun h₀ S s F A Q E hA q => wpAny_execs_nil (q _ _ S s h F ExtB.rfl')
theorem Ex.cons {st : Stmt} (h : Ex1 G n env Γ st (Then G n env rest P)) : Ex G n env Γ (st :: rest) P := by
  intro h₀ S s F A Q E hA q
  refine wpAny_execs_cons (h h₀ S s F A _ E hA fun o fl S' s' p r x => ?_)
  cases o with
  | next Γ' =>
    cases fl with
    | next => exact p h₀ S' s' r A Q E hA fun o fl S'' s'' p' r' x' => q o fl S'' s'' p' r' (x.trans x')
    | _ => exact r.elim
  | brk Γ' =>
    cases fl with
    | brk => exact q _ _ S' s' p r x
    | _ => exact r.elim
  | cont Γ' =>
    cases fl with
    | cont => exact q _ _ S' s' p r x
    | _ => exact r.elim
  | ret d =>
    cases fl with
    | ret v => exact q _ _ S' s' p r x
    | _ => exact r.elim
/-! stores -/
theorem lookup_cons_ne {x y : Str} {d : D} {l : List (Str × D)} (h : (x == y) = false) : ((y, d) :: l).lookup x = l.lookup x := by rw [List.lookup_cons, h]
theorem lookup_cons_self {x : Str} {d : D} {l : List (Str × D)} : ((x, d) :: l).lookup x = some d := by rw [List.lookup_cons, beq_self_eq_true]
def Kind (env : Env) (x : Str) : Prop := env.kindOf x = some .local ∨ env.kindOf x = some .cell
/-- the frame with one more name bound, whatever its value -/
theorem FrR.bind {h₀ : Gh} {S : Gh} {s : Shared} (F : FrR G h₀ env S Γ s) {A : Around} {x : Str} {v : Value} {Q : Unit → Shared → Prop} {E : Value → Shared → Prop} (hk : Kind env x)
    (h : ∀ s', ExtB h₀ S s S s' → HLe S s'.heap.get? → (∀ b o, s.heap.get? b = some o → (∀ es ep, o.data ≠ .dict es ep) → (∀ w, o.data ≠ .cell w) → s'.heap.get? b = some o) →
      (∀ Γ' : Cx, (∀ y d, Γ'.vars.lookup y = some d → (y = x ∧ Rd G S d v) ∨ (y ≠ x ∧ Γ.vars.lookup y = some d)) →
        (∀ y l, Γ'.own = some (y, l) → Γ'.vars.lookup y = none ∧ ((y ≠ x ∧ Γ.own = some (y, l)) ∨ (y = x ∧ ∃ a vs, v = .ref a ∧ s.heap.PlainList a vs ∧ S a = none ∧ h₀ a = none ∧ RdL G S l vs.toList))) → FrR G h₀ env S Γ' s') → Q () s') :
    wpAny (model G.prog G.w) A (storeName env x v) Q E s := by
  obtain ⟨m, hn, hS, hv, ho⟩ := F.fr
  rcases hk with hk | hk
  · refine wpAny_storeName_local hk hn (fun h' hn' hs => ?_) (by show (env.scope.kind == .class || (env.scope.kind == .module && env.locals != env.globals)) = false; rw [F.kind]; rfl)
    obtain ⟨oL, es, ep, hgL, hdL, _⟩ := hn
    have up : ∀ b o, b ≠ env.locals → s.heap.get? b = some o → h'.get? b = some o := fun b o hb e => (hs.2 b hb).trans e
    have neD : ∀ b o, s.heap.get? b = some o → (∀ es ep, o.data ≠ .dict es ep) → b ≠ env.locals := fun b o e q z => by
      subst z; rw [hgL] at e; cases e; exact q _ _ hdL
    have subS : HLe S h'.get? := fun b o e => up b o (fun z => by rw [z, hS] at e; cases e) (F.sub b o e)
    refine h _ ⟨HLe.refl _, fun _ _ _ e => e, rfl, #[], by simp, AllBare.empty⟩ subS (fun b o e q _ => up b o (neD b o e q) e) fun Γ' hvars hown => ?_
    have VR : ∀ y w, y ≠ x → Vr S s.heap env m y w → Vr S h' env (fun z => if z = x then some v else m z) y w := by
      intro y w hy V
      cases V with
      | loc a b => exact .loc a (by rw [if_neg hy]; exact b)
      | cell c o a b c' d e => exact .cell c o a b (up c o (neD c o c' (by rw [d]; intro _ _ q; cases q)) c') d e
    refine ⟨F.gd, subS, F.kind, F.glob, F.bt, fun b o e => up b o (fun z => ?_) (F.base b o e), F.cinj, fun y e => ?_, fun y c' e => ?_, F.lnew, _, hn', hS, fun y d e => ?_, fun y l e => ?_⟩
    · rw [z, F.lnew] at e; cases e
    · obtain ⟨c, v₀, a, ⟨o, b, b'⟩, d, f⟩ := F.cex y e
      exact ⟨c, v₀, a, ⟨o, up c o (neD c o b (by rw [b']; intro _ _ q; cases q)) b, b'⟩, d, f⟩
    · obtain ⟨v₀, ⟨o, b, b'⟩, d⟩ := F.cal y c' e
      exact ⟨v₀, ⟨o, up c' o (neD c' o b (by rw [b']; intro _ _ q; cases q)) b, b'⟩, d⟩
    · rcases hvars y d e with ⟨rfl, r⟩ | ⟨hy, e'⟩
      · exact ⟨v, r, .loc hk (if_pos rfl)⟩
      · obtain ⟨w, r, V⟩ := hv y d e'
        exact ⟨w, r, VR y w hy V⟩
    · obtain ⟨q, r⟩ := hown y l e
      refine ⟨q, ?_⟩
      rcases r with ⟨hy, e'⟩ | ⟨rfl, a, vs, rfl, ⟨nn, p⟩, z1, z2, z3⟩
      · obtain ⟨_, a, vs, V, ⟨nn, p⟩, z1, z2, z3⟩ := ho y l e'
        exact ⟨a, vs, VR y _ hy V, ⟨nn, up a _ (neD a _ p (by intro _ _ q; cases q)) p⟩, z1, z2, z3⟩
      · exact ⟨a, vs, .loc hk (if_pos rfl), ⟨nn, up a _ (neD a _ p (by intro _ _ q; cases q)) p⟩, z1, z2, z3⟩
  · obtain ⟨c, v₀, hc, ⟨oc, hoc, hdc⟩, hSc, hcn⟩ := F.cex x hk
    refine wpAny_storeName_cell F.kind hk hc ⟨oc, hoc, hdc⟩ fun h' hc' hs => ?_
    have up : ∀ b o, b ≠ c → s.heap.get? b = some o → h'.get? b = some o := fun b o hb e => (hs.2 b hb).trans e
    have neC : ∀ b o, s.heap.get? b = some o → (∀ w, o.data ≠ .cell w) → b ≠ c := fun b o e q z => by
      subst z; rw [hoc] at e; cases e; exact q _ hdc
    have subS : HLe S h'.get? := fun b o e => up b o (fun z => by rw [z, hSc] at e; cases e) (F.sub b o e)
    refine h _ ⟨HLe.refl _, fun _ _ _ e => e, rfl, #[], by simp, AllBare.empty⟩ subS (fun b o e _ q => up b o (neC b o e q) e) fun Γ' hvars hown => ?_
    have cne : ∀ y c', y ≠ x → env.cells.lookup y = some c' → c' ≠ c := fun y c' hy e z => hy (F.cinj y x c (z ▸ e) hc)
    have VR : ∀ y w, y ≠ x → Vr S s.heap env m y w → Vr S h' env m y w := by
      intro y w hy V
      cases V with
      | loc a b => exact .loc a b
      | cell c' o a b c'' d e => exact .cell c' o a b (up c' o (cne y c' hy b) c'') d e
    obtain ⟨oc', hoc', hdc'⟩ := hc'
    have Vx : Vr S h' env m x v := .cell c oc' (.inl hk) hc hoc' hdc' hSc
    obtain ⟨oL, es, ep, hgL, hdL, hrL⟩ := hn
    refine ⟨F.gd, subS, F.kind, F.glob, F.bt, fun b o e => up b o (fun z => ?_) (F.base b o e), F.cinj, fun y e => ?_, fun y c' e => ?_, F.lnew, m, ⟨oL, es, ep, up _ _ (neC _ oL hgL (by rw [hdL]; intro _ q; cases q)) hgL, hdL, hrL⟩, hS, fun y d e => ?_, fun y l e => ?_⟩
    · rw [z, hcn] at e; cases e
    · by_cases hy : y = x
      · subst hy; exact ⟨c, some v, hc, ⟨oc', hoc', hdc'⟩, hSc, hcn⟩
      · obtain ⟨c', w, a, ⟨o, b, b'⟩, d, f⟩ := F.cex y e
        exact ⟨c', w, a, ⟨o, up c' o (cne y c' hy a) b, b'⟩, d, f⟩
    · by_cases hy : c' = c
      · subst hy; exact ⟨some v, ⟨oc', hoc', hdc'⟩, hSc⟩
      · obtain ⟨w, ⟨o, b, b'⟩, d⟩ := F.cal y c' e
        exact ⟨w, ⟨o, up c' o hy b, b'⟩, d⟩
    · rcases hvars y d e with ⟨rfl, r⟩ | ⟨hy, e'⟩
      · exact ⟨v, r, Vx⟩
      · obtain ⟨w, r, V⟩ := hv y d e'
        exact ⟨w, r, VR y w hy V⟩
    · obtain ⟨q, r⟩ := hown y l e
      refine ⟨q, ?_⟩
      rcases r with ⟨hy, e'⟩ | ⟨rfl, a, vs, rfl, ⟨nn, p⟩, z1, z2, z3⟩
      · obtain ⟨_, a, vs, V, ⟨nn, p⟩, z1, z2, z3⟩ := ho y l e'
        exact ⟨a, vs, VR y _ hy V, ⟨nn, up a _ (neC a _ p (by intro _ q; cases q)) p⟩, z1, z2, z3⟩
      · exact ⟨a, vs, Vx, ⟨nn, up a _ (neC a _ p (by intro _ q; cases q)) p⟩, z1, z2, z3⟩
theorem FrR.store {h₀ : Gh} {S : Gh} {s : Shared} (F : FrR G h₀ env S Γ s) {A : Around} {x : Str} {v : Value} {d : D} {Q : Unit → Shared → Prop} {E : Value → Shared → Prop} (hk : Kind env x) (r : Rd G S d v)
    (h : ∀ s', ExtB h₀ S s S s' → FrR G h₀ env S (Γ.set x d) s' → Q () s') : wpAny (model G.prog G.w) A (storeName env x v) Q E s := by
  refine F.bind hk fun s' X _ _ k => h s' X (k _ (fun y d' e => ?_) fun y l e => ?_)
  · by_cases hy : y = x
    · subst hy
      rw [show (Γ.set y d).vars.lookup y = some d from lookup_cons_self] at e
      cases e; exact .inl ⟨rfl, r⟩
    · exact .inr ⟨hy, by rw [← e]; exact (lookup_cons_ne (beq_eq_false_iff_ne.mpr hy)).symm⟩
  · obtain ⟨m, hn, hS, hv, ho⟩ := F.fr
    unfold Cx.set at e
    dsimp only at e
    split at e
    · rename_i z l' q
      split at e
      · cases e
      · rename_i hz
        cases e
        have hne : y ≠ x := fun q => by subst q; exact hz (beq_self_eq_true _)
        refine ⟨?_, .inl ⟨hne, q⟩⟩
        exact (lookup_cons_ne (beq_eq_false_iff_ne.mpr hne)).trans (ho y l q).1
    · cases e
theorem Ex.assign {x : Str} {px pos : Pos} {e : Expr} {d : D} (he : Ev G n env Γ e d) (k : Ex G n env (Γ.set x d) rest P) (hk : Kind env x := by first | exact .inl rfl | exact .inr rfl)
    (hs : swapsWith e (some (.Name x px)) pos.line env = pure false := by rfl) : Ex G n env Γ (.Assign [.Name x px] e pos :: rest) P := by
  refine Ex.cons fun h₀ S s F A Q E hA q => ?_
  refine wpAny_Assign_Name (he h₀ S s F A _ E hA fun v S1 s1 X1 r => (F.ext X1).store hk r fun s2 X2 F2 => ?_) hs
  exact q (.next _) .next S1 s2 k F2 ((X1.toB F.base).trans X2)
theorem Ex.ret {e : Expr} {pos : Pos} {d : D} (he : Ev G n env Γ e d) (k : P (.ret d)) : Ex G n env Γ (.Return (some e) pos :: rest) P := by
  refine Ex.cons fun h₀ S s F A Q E hA q => ?_
  exact wpAny_Return_some (he h₀ S s F A _ E hA fun v S1 s1 X1 r => q (.ret d) (.ret v) S1 s1 k ⟨r, X1.sub, F.base.trans X1.heap⟩ (X1.toB F.base))
theorem Ex.pass {pos : Pos} (k : Ex G n env Γ rest P) : Ex G n env Γ (.Pass pos :: rest) P := by
  refine Ex.cons fun h₀ S s F A Q E hA q => ?_
  exact wpAny_Pass (q (.next Γ) .next S s k F ExtB.rfl')
theorem Ex.assert {t : Expr} {m : Option Expr} {pos : Pos} (ht : Tv G n env Γ t true) (k : Ex G n env Γ rest P) : Ex G n env Γ (.Assert t m pos :: rest) P := by
  refine Ex.cons fun h₀ S s F A Q E hA q => ?_
  exact wpAny_Assert_holds (ht h₀ S s F A _ E hA fun b S1 s1 X1 e => ⟨e, q (.next Γ) .next S1 s1 k (F.ext X1) (X1.toB F.base)⟩)
theorem Ex.ite {t : Expr} {body orelse : List Stmt} {pos : Pos} {c : Bool} (ht : Tv G n env Γ t c) (k1 : c = true → Ex G n env Γ body (Then G n env rest P)) (k2 : c = false → Ex G n env Γ orelse (Then G n env rest P)) :
    Ex G n env Γ (.If t body orelse pos :: rest) P := by
  refine Ex.cons fun h₀ S s F A Q E hA q => ?_
  refine wpAny_If (ht h₀ S s F A _ E hA fun b S1 s1 X1 e => ?_)
  subst e
  cases b with
  | true => exact k1 rfl h₀ S1 s1 (F.ext X1) A Q E hA fun o fl S2 s2 p r x => q o fl S2 s2 p r ((X1.toB F.base).trans x)
  | false => exact k2 rfl h₀ S1 s1 (F.ext X1) A Q E hA fun o fl S2 s2 p r x => q o fl S2 s2 p r ((X1.toB F.base).trans x)
end
end Mine
open PySem PySem.W PyProof.Rows PySem.Calls
set_option Elab.async false
set_option maxRecDepth 100000
set_option linter.unusedVariables false
namespace Mine
/-- a name that has a cell is found -/
theorem cells_has {y : Str} : ∀ (l : List (Str × NameKind)) (k : Nat) (r : List (Str × Addr)), (l.lookup y = some .cell ∨ ∃ c, r.lookup y = some c) → ((cellsFrom k l r).lookup y).isSome = true := by
  intro l
  induction l with
  | nil =>
    intro k r h
    rcases h with h | ⟨c, h⟩
    · cases h
    · unfold cellsFrom; rw [h]; rfl
  | cons p l ih =>
    intro k r h
    obtain ⟨z, kd⟩ := p
    unfold cellsFrom
    rw [List.lookup_cons] at h
    by_cases hz : y == z
    · rw [hz] at h
      split
      · rename_i hk
        refine ih _ _ (.inr ⟨k, ?_⟩)
        rw [List.lookup_cons, hz]
      · rename_i hk
        rcases h with h | h
        · cases h; exact (hk (by decide)).elim
        · exact ih _ _ (.inr h)
    · rw [Bool.eq_false_iff.mpr hz] at h
      split
      · refine ih _ _ (h.imp id fun ⟨c, e⟩ => ⟨c, ?_⟩)
        rw [List.lookup_cons, Bool.eq_false_iff.mpr hz]
        exact e
      · exact ih _ _ h
theorem look_zip {G : Gx} {S : Gh} {x : Str} {d : D} : ∀ {names : List Str} {ds : List D} {vs : List Value}, RdL G S ds vs → (names.zip ds).lookup x = some d → ∃ v, (names.zip vs).lookup x = some v ∧ Rd G S d v
  | [], _, _, _, e => by simp at e
  | y :: names, [], _, _, e => by simp at e
  | y :: names, c :: ds, vs, r, e => by
    unfold RdL at r
    obtain ⟨v, r', rfl, a, b⟩ := r
    rw [List.zip_cons_cons, List.lookup_cons] at e ⊢
    cases h : x == y with
    | true => rw [h] at e; cases e; exact ⟨v, rfl, a⟩
    | false => rw [h] at e; exact look_zip b e
theorem lookup_rev {α : Type} {x : Str} : ∀ {l : List (Str × α)}, (l.map (·.1)).Nodup → l.reverse.lookup x = l.lookup x
  | [], _ => rfl
  | (y, v) :: l, h => by
    obtain ⟨h1, h2⟩ := List.nodup_cons.mp h
    rw [List.reverse_cons, List.lookup_append, lookup_rev h2]
    cases q : x == y with
    | true =>
      have : l.lookup x = none := by
        rw [List.lookup_eq_none_iff]
        intro p hp
        rw [bne_iff_ne]
        intro z
        rw [eq_of_beq q] at z
        exact h1 (List.mem_map.mpr ⟨p, hp, z.symm⟩)
      rw [this]
      simp [List.lookup_cons, q]
    | false => simp [List.lookup_cons, q]
theorem bindL_at {kindOf : Str → Option NameKind} {x : Str} (hk : kindOf x = some .local) : ∀ (l : List (Str × Value)) (m : Str → Option Value), bindL kindOf l m x = (l.reverse.lookup x).or (m x)
  | [], m => rfl
  | (y, v) :: l, m => by
    unfold bindL
    rw [bindL_at hk l, List.reverse_cons, List.lookup_append, Option.or_assoc]
    congr 1
    by_cases q : x = y
    · subst q; rw [if_pos hk]; simp
    · have : (x == y) = false := beq_eq_false_iff_ne.mpr q
      split <;> simp [List.lookup_cons, this, q]
theorem bindC_at {kindOf : Str → Option NameKind} {x : Str} (hk : kindOf x ≠ some .local) : ∀ (l : List (Str × Value)) (m : Str → Option Value), bindC kindOf l m x = (l.reverse.lookup x).or (m x)
  | [], m => rfl
  | (y, v) :: l, m => by
    unfold bindC
    rw [bindC_at hk l, List.reverse_cons, List.lookup_append, Option.or_assoc]
    congr 1
    by_cases q : x = y
    · subst q; rw [if_neg hk]; simp
    · have : (x == y) = false := beq_eq_false_iff_ne.mpr q
      split <;> simp [List.lookup_cons, this, q]
theorem mem_lookup {α : Type} {x : Str} {v : α} {l : List (Str × α)} (h : l.lookup x = some v) : x ∈ l.map (·.1) := by
  induction l with
  | nil => simp at h
  | cons p l ih =>
    obtain ⟨y, w⟩ := p
    rw [List.lookup_cons] at h
    cases q : x == y with
    | true => rw [eq_of_beq q]; exact List.mem_cons_self
    | false => rw [q] at h; exact List.mem_cons_of_mem _ (ih h)
theorem zip_mem {α β : Type} {x : α} : ∀ {l : List α} {r : List β}, x ∈ (l.zip r).map (·.1) → x ∈ l
  | [], _, h => by simp at h
  | _ :: _, [], h => by simp at h
  | y :: l, z :: r, h => by
    rw [List.zip_cons_cons, List.map_cons] at h
    rcases List.mem_cons.mp h with e | h
    · rw [e]; exact List.mem_cons_self
    · exact List.mem_cons_of_mem _ (zip_mem h)
theorem zip_nodup {α β : Type} : ∀ {l : List α} {r : List β}, l.Nodup → ((l.zip r).map (·.1)).Nodup
  | [], _, _ => by simp
  | _ :: _, [], _ => by simp
  | y :: l, z :: r, h => by
    obtain ⟨h1, h2⟩ := List.nodup_cons.mp h
    rw [List.zip_cons_cons, List.map_cons]
    exact List.nodup_cons.mpr ⟨fun q => h1 (zip_mem q), zip_nodup h2⟩
/-- the names that a call binds, and what to -/
def Binds (G : Gx) (n : Nat) (fd : FuncData) (ds : List D) (names : List Str) (es : List D) : Prop :=
  ∀ (S : Gh) (s : Shared) (vs : List Value), HLe S s.heap.get? → RdL G S ds vs → ∀ (A : Around) (Q : List (Str × Value) → Shared → Prop) (E : Value → Shared → Prop),
    (∀ ws S' s', Ext S s S' s' → RdL G S' es ws → Q (names.zip ws) s') → wpAny (model G.prog G.w) A (bindArgs fd ⟨vs, []⟩) Q E s
theorem RdL.length {G : Gx} {S : Gh} : ∀ {ds : List D} {vs : List Value}, RdL G S ds vs → vs.length = ds.length
  | [], _, h => by unfold RdL at h; subst h; rfl
  | _ :: ds, _, h => by
    unfold RdL at h
    obtain ⟨v, r, rfl, _, b⟩ := h
    rw [List.length_cons, List.length_cons, RdL.length b]
theorem Binds.plain {G : Gx} {n : Nat} {fd : FuncData} {ds : List D} {names : List Str} (h : ∀ vs : List Value, vs.length = ds.length → bindArgs fd ⟨vs, []⟩ = pure (names.zip vs)) : Binds G n fd ds names ds := by
  intro S s vs hs r A Q E q
  rw [h vs r.length]
  exact wpAny_pure (q vs S s (Ext.refl hs) r)
theorem Rd.newTup {G : Gx} {S : Gh} {s : Shared} {l : List D} {vs : List Value} {A : Around} {Q : Value → Shared → Prop} {E : Value → Shared → Prop} (hs : HLe S s.heap.get?) (r : RdL G S l vs) (hl : l.length ≤ 1000000)
    (q : ∀ v S' s', Ext S s S' s' → Rd G S' (.tup l) v → Q v s') : wpAny (model G.prog G.w) A (newTuple vs) Q E s := by
  have e : s = { s with toks := s.toks } := rfl
  refine wpAny_newObj_type (q _ _ _ (Ext.push hs { cls := .type "tuple", data := .seq vs.toArray } rfl s.toks) ?_) (by show vs.toArray.size ≤ sizeLine; rw [List.size_toArray, r.length, sizeLine_eq]; omega)
  unfold Rd
  refine ⟨_, vs.toArray, rfl, ⟨_, Gh.put_self .., rfl, 0, rfl⟩, ?_⟩
  rw [List.toList_toArray]
  exact RdL.le (Ext.push hs { cls := .type "tuple", data := .seq vs.toArray } rfl s.toks).le _ _ r
/-- one name, and the rest in a tuple -/
theorem Binds.star1 {G : Gx} {n : Nat} {fd : FuncData} {d : D} {ds : List D} {x y : Str} (hl : ds.length ≤ 1000000)
    (h : ∀ (v : Value) (vs : List Value), vs.length = ds.length → bindArgs fd ⟨v :: vs, []⟩ = (newTuple vs >>= fun t => pure [(x, v), (y, t)])) : Binds G n fd (d :: ds) [x, y] [d, .tup ds] := by
  intro S s vs hs r A Q E q
  unfold RdL at r
  obtain ⟨v, ws, rfl, a, b⟩ := r
  rw [h v ws b.length]
  refine wpAny_bind (Rd.newTup hs b hl fun t S1 s1 X1 r1 => wpAny_pure ?_)
  exact q [v, t] S1 s1 X1 (RdL.cons (Rd.le X1.le _ _ a) (RdL.cons r1 RdL.nil))
theorem FnOk.def {G : Gx} {n : Nat} {f : Addr} {ds es : List D} {d : D} {name qual : Str} {params : Arguments} {body : List Stmt} {scope : Scope} {dV kV doc pm cdv ct oc : Value} {an od : Option Addr} {osl : Array (Option Value)} {names : List Str}
    (ho : G.K.lookup f = some ⟨oc, od, .func (fnOf name qual params body scope dV kV doc pm an cdv ct), osl⟩) (hcd : codeIn G.K cdv qual = true)
    (hb : Binds G n (fnOf name qual params body scope dV kV doc pm an cdv ct) ds names es) (hnd : names.Nodup) (hkind : names.all (fun y => scope.names.lookup y == some .local || scope.names.lookup y == some .cell) = true)
    (h : ∀ L, Ex G n (envOfC qual scope L f cdv) ⟨names.zip es, none⟩ body (fun o => o = .ret d ∨ (d = .none ∧ ∃ Γ, o = .next Γ)))
    (hco : scope.isCoroutine = false := by rfl) (hgen : scope.isGenerator = false := by rfl) (hk : scope.kind = .function := by rfl) : FnOk G (n + 1) (.ref f) ds d := by
  intro S s vs g k r A Q E hA q
  have X := g.X k
  refine codeAny_call_function hA.room (X _ _ ho) rfl hco hgen rfl (codeRec_of X hcd) ?_
  refine hb S s vs k r _ _ _ fun ws S1 s1 X1 r1 => ?_
  have g1 := g.le X1.le
  have hkd : ∀ p ∈ names.zip ws, scope.names.lookup p.1 = some .local ∨ scope.names.lookup p.1 = some .cell := fun p hp => by
    have hm : p.1 ∈ names := (List.of_mem_zip (a := p.1) (b := p.2) hp).1
    have := List.all_eq_true.mp hkind p.1 hm
    rcases Bool.or_eq_true_iff.mp this with q | q
    · exact .inl (beq_iff_eq.mp q)
    · exact .inr (beq_iff_eq.mp q)
  refine wpAny_newFunctionEnv_cells hk (fun p hp => ?_) fun env he s2 x => ?_
  · rcases hkd p hp with q | q
    · exact .inl q
    · exact .inr ⟨q, cells_has _ _ _ (.inl q)⟩
  subst he
  have keep := x.toInCall.keep
  obtain ⟨h2, tk, e2⟩ := x.toInCall.same
  have hlt : ∀ b o, S1 b = some o → b < s1.heap.objs.size := fun b o e => Heap.lt_size (X1.sub b o e)
  have hnone : ∀ b, s1.heap.objs.size ≤ b → S1 b = none := fun b hb => by
    cases q : S1 b with
    | none => rfl
    | some o => exact absurd (hlt b o q) (Nat.not_lt.mpr hb)
  have new : ∀ b, s1.heap.objs.size ≤ b → s1.heap.get? b = none := fun b hb => by
    cases q : s1.heap.get? b with
    | none => rfl
    | some o => exact absurd (Heap.lt_size q) (Nat.not_lt.mpr hb)
  have hsz : s1.heap.objs.size ≤ s2.heap.objs.size := Nat.le_of_lt x.toInCall.ns.lt
  have F : FrR G s1.heap.get? (envOfC qual scope s1.heap.objs.size f cdv) S1 ⟨names.zip es, none⟩ s2 := by
    refine ⟨g1, X1.sub.trans keep, hk, rfl, rfl, keep, fun y z c hy hz => ?_, fun y hy => ?_, fun y c hc => ⟨_, x.cell y c hc, hnone c (Nat.le_of_lt (x.above y c (PySem.mem_of_lookup hc)))⟩, new _ (Nat.le_refl _), _, x.toInCall.ns, hnone _ (Nat.le_refl _), fun y d' e => ?_, fun y l e => by cases e⟩
    · exact name_of_addr x.apart (PySem.mem_of_lookup hy) (PySem.mem_of_lookup hz)
    · have hs := cells_has scope.names (s1.heap.objs.size + 1) [] (.inl hy)
      obtain ⟨c, hc⟩ := Option.isSome_iff_exists.mp hs
      have ha := x.above y c (PySem.mem_of_lookup hc)
      exact ⟨c, _, hc, x.cell y c hc, hnone c (Nat.le_of_lt ha), new c (Nat.le_of_lt ha)⟩
    · obtain ⟨v, hv, r⟩ := look_zip r1 e
      refine ⟨v, r, ?_⟩
      have hrev : (names.zip ws).reverse.lookup y = some v := by
        rw [lookup_rev (zip_nodup hnd)]
        exact hv
      have hin : y ∈ names := by
        have := mem_lookup hv
        obtain ⟨p, hp, e⟩ := List.mem_map.mp this
        rw [← e]
        exact (List.of_mem_zip (a := p.1) (b := p.2) hp).1
      have hy := List.all_eq_true.mp hkind y hin
      rcases Bool.or_eq_true_iff.mp hy with q | q
      · have q := beq_iff_eq.mp q
        exact .loc q (by rw [bindL_at q, hrev]; rfl)
      · have q := beq_iff_eq.mp q
        have hs := cells_has scope.names (s1.heap.objs.size + 1) [] (.inl q)
        obtain ⟨c, hc⟩ := Option.isSome_iff_exists.mp hs
        obtain ⟨o, hco, hcd⟩ := x.cell y c hc
        have ha := x.above y c (PySem.mem_of_lookup hc)
        refine .cell c o (.inl q) hc hco ?_ (hnone c (Nat.le_of_lt ha))
        rw [hcd, bindC_at (by show scope.names.lookup y ≠ _; rw [q]; decide), hrev]; rfl
  refine ⟨((g1.T X1.sub).nolimit).keeps keep, codeAny_func ?_⟩
  refine wpAny_mono (h _ s1.heap.get? S1 s2 F (A.deeper _) _ (fun _ _ => False) (hA.deeper _) fun o fl S' s' hp hr hx => ?_) (fun _ _ z => z) fun _ _ z => z.elim
  have os2 : s2.os = s1.os := by rw [e2]
  have gn2 : s2.gens = s1.gens := by rw [e2]
  have fin : ∀ v, Rd G S' d v → HLe S' s'.heap.get? → HLe s1.heap.get? s'.heap.get? → Q v s' := fun v r k1 k2 => by
    refine q v S' s' (X1.trans ⟨hx.le, k1, hx.fresh, k2, hx.os.trans os2, ?_⟩) r
    obtain ⟨l, e, hl⟩ := hx.gens
    exact ⟨l, by rw [e, gn2], hl⟩
  rcases hp with rfl | ⟨rfl, Γ', rfl⟩
  · cases fl with
    | ret v => exact fin v hr.1 hr.2.1 hr.2.2
    | _ => exact hr.elim
  · cases fl with
    | next =>
      have hr : FrR G s1.heap.get? _ S' Γ' s' := hr
      exact fin .none (by unfold Rd; rfl) hr.sub hr.base
    | _ => exact hr.elim
end Mine
open PySem PySem.W PyProof.Rows PySem.Calls
set_option Elab.async false
set_option maxRecDepth 100000
set_option linter.unusedVariables false
namespace Mine
section
variable {prog : Program} {w : World} {A : Around} {E : Value → Shared → Prop} {s : Shared} {K : Frag} {C x dx : Addr} {name : Str} {v : Value} {Q : Unit → Shared → Prop}
/-- the first store into a new object -/
theorem set_first (X : K.In s.heap) (co : ClsOk K C) (ht : takerIn K C name = some none) (hx : s.heap.get? x = some (instObj C dx)) (hd : s.heap.get? dx = some (emptyDict))
    (h : ∀ h', Heap.SameBut dx s.heap h' → DictIs h'.get? dx name v → Q () { s with heap := h', toks := s.toks + 2 }) : wpAny (model prog w) A (setAttr (.ref x) name v) Q E s := by
  have I : InstAt s.heap x (instObj C dx) C (some emptyDict) := ⟨hx, rfl, rfl, hd⟩
  refine set_plain X I co.sa (osa_open (s := { s with toks := s.toks + 1 }) X I co.po ht fun b => ?_)
  obtain ⟨cd, hc, hcd⟩ := any_some co.hd
  obtain ⟨hh, g, d, t, os⟩ := s
  dsimp only at X hx hd h ⊢
  have L := looks_clsIn (M := model prog w) X hc
  have e : Obj.putName name (PyData.keyHash w.params name) (.str name (t + 1)) v emptyDict = dictOf [⟨PyData.keyHash w.params name, .str name (t + 1), v⟩] 1 := putName_dict name (PyData.keyHash w.params name) (.str name (t + 1)) v [] 0
  have hs : Heap.SameBut dx hh (hh.update dx (Obj.putName name (PyData.keyHash w.params name) (.str name (t + 1)) v)) := Heap.SameBut.update ..
  have hn : (hh.update dx (Obj.putName name (PyData.keyHash w.params name) (.str name (t + 1)) v)).get? dx = some (dictOf [⟨PyData.keyHash w.params name, .str name (t + 1), v⟩] 1) := by
    rw [Heap.get?_update_self _ hd (by rw [e]; rfl), e]
  have fin := h _ hs ⟨_, _, _, hn, rfl, fun e he => by
    simp at he; subst he; exact ⟨_, _, rfl⟩, fun y => by
    unfold nsFind findBy
    rw [← Array.find?_toList]
    simp only [List.find?_cons, List.find?_nil, isStr_lit]
    by_cases q : y = name
    · subst q; simp
    · rw [beq_eq_false_iff_ne.mpr q, if_neg q]; rfl⟩
  unfold Builtin.ObjectAttr.storeInOwnDict
  repeat lk
  rw [hcd]
  repeat lk
  refine wpAny_updatePart hd (wpAny_bind (wpAny_lookBehind hn (pastItsLine_dict (by rw [List.size_toArray, sizeLine_eq]; show 1 ≤ _; omega)) (wpAny_pure ?_)))
  exact fin
end
/-- a frame over any older ground -/
theorem enter {G : Gx} {n : Nat} {f : Addr} {es : List D} {name qual : Str} {params : Arguments} {body : List Stmt} {scope : Scope} {dV kV doc pm cdv ct oc : Value} {an od : Option Addr} {osl : Array (Option Value)} {names : List Str}
    {h₀ : Gh} {S : Gh} {s : Shared} {vs ws : List Value} {A : Around} {R : Result → Shared → Prop}
    (ho : G.K.lookup f = some ⟨oc, od, .func (fnOf name qual params body scope dV kV doc pm an cdv ct), osl⟩) (hcd : codeIn G.K cdv qual = true)
    (hb : ∀ s : Shared, G.K.In s.heap → PySem.BindsTo s (fnOf name qual params body scope dV kV doc pm an cdv ct) ⟨vs, []⟩ (names.zip ws)) (hnd : names.Nodup) (hkind : names.all (fun y => scope.names.lookup y == some .local || scope.names.lookup y == some .cell) = true)
    (g : Gd G S) (k : HLe S s.heap.get?) (kb : HLe h₀ s.heap.get?) (r1 : RdL G S es ws) (hA : Amb (n + 1) A)
    (h : ∀ L s2, s.heap.objs.size ≤ L → FrR G h₀ (envOfC qual scope L f cdv) S ⟨names.zip es, none⟩ s2 → HLe s.heap.get? s2.heap.get? → s.heap.objs.size ≤ s2.heap.objs.size → s2.os = s.os → s2.gens = s.gens →
      wpAny (model G.prog G.w) (A.deeper (envOfC qual scope L f cdv)) (execs body (envOfC qual scope L f cdv)) (fun fl s' => R (.ok (.ret (match fl with | .ret v => v | _ => .none))) s') (fun _ _ => False) s2)
    (hco : scope.isCoroutine = false := by rfl) (hgen : scope.isGenerator = false := by rfl) (hk : scope.kind = .function := by rfl) : codeAny (model G.prog G.w) A (.call (.ref f) ⟨vs, []⟩) R s := by
  have X := g.X k
  refine codeAny_call_function hA.room (X _ _ ho) rfl hco hgen rfl (codeRec_of X hcd) ?_
  refine hb s X _ _ _ _ ?_
  have hkd : ∀ p ∈ names.zip ws, scope.names.lookup p.1 = some .local ∨ scope.names.lookup p.1 = some .cell := fun p hp => by
    have hm : p.1 ∈ names := (List.of_mem_zip (a := p.1) (b := p.2) hp).1
    have := List.all_eq_true.mp hkind p.1 hm
    rcases Bool.or_eq_true_iff.mp this with q | q
    · exact .inl (beq_iff_eq.mp q)
    · exact .inr (beq_iff_eq.mp q)
  refine wpAny_newFunctionEnv_cells hk (fun p hp => ?_) fun env he s2 x => ?_
  · rcases hkd p hp with q | q
    · exact .inl q
    · exact .inr ⟨q, cells_has _ _ _ (.inl q)⟩
  subst he
  have keep := x.toInCall.keep
  obtain ⟨h2, tk, e2⟩ := x.toInCall.same
  have hnone : ∀ b, s.heap.objs.size ≤ b → S b = none := fun b hb => by
    cases q : S b with
    | none => rfl
    | some o => exact absurd (Heap.lt_size (k b o q)) (Nat.not_lt.mpr hb)
  have new : ∀ b, s.heap.objs.size ≤ b → h₀ b = none := fun b hb => by
    cases q : h₀ b with
    | none => rfl
    | some o => exact absurd (Heap.lt_size (kb b o q)) (Nat.not_lt.mpr hb)
  have hsz : s.heap.objs.size ≤ s2.heap.objs.size := Nat.le_of_lt x.toInCall.ns.lt
  have F : FrR G h₀ (envOfC qual scope s.heap.objs.size f cdv) S ⟨names.zip es, none⟩ s2 := by
    refine ⟨g, k.trans keep, hk, rfl, rfl, kb.trans keep, fun y z c hy hz => ?_, fun y hy => ?_, fun y c hc => ⟨_, x.cell y c hc, hnone c (Nat.le_of_lt (x.above y c (PySem.mem_of_lookup hc)))⟩, new _ (Nat.le_refl _), _, x.toInCall.ns, hnone _ (Nat.le_refl _), fun y d' e => ?_, fun y l e => by cases e⟩
    · exact name_of_addr x.apart (PySem.mem_of_lookup hy) (PySem.mem_of_lookup hz)
    · have hs := cells_has scope.names (s.heap.objs.size + 1) [] (.inl hy)
      obtain ⟨c, hc⟩ := Option.isSome_iff_exists.mp hs
      have ha := x.above y c (PySem.mem_of_lookup hc)
      exact ⟨c, _, hc, x.cell y c hc, hnone c (Nat.le_of_lt ha), new c (Nat.le_of_lt ha)⟩
    · obtain ⟨v, hv, r⟩ := look_zip r1 e
      refine ⟨v, r, ?_⟩
      have hrev : (names.zip ws).reverse.lookup y = some v := by
        rw [lookup_rev (zip_nodup hnd)]
        exact hv
      have hin : y ∈ names := by
        have := mem_lookup hv
        obtain ⟨p, hp, e⟩ := List.mem_map.mp this
        rw [← e]
        exact (List.of_mem_zip (a := p.1) (b := p.2) hp).1
      have hy := List.all_eq_true.mp hkind y hin
      rcases Bool.or_eq_true_iff.mp hy with q | q
      · have q := beq_iff_eq.mp q
        exact .loc q (by rw [bindL_at q, hrev]; rfl)
      · have q := beq_iff_eq.mp q
        have hs := cells_has scope.names (s.heap.objs.size + 1) [] (.inl q)
        obtain ⟨c, hc⟩ := Option.isSome_iff_exists.mp hs
        obtain ⟨o, hco, hcd⟩ := x.cell y c hc
        have ha := x.above y c (PySem.mem_of_lookup hc)
        refine .cell c o (.inl q) hc hco ?_ (hnone c (Nat.le_of_lt ha))
        rw [hcd, bindC_at (by show scope.names.lookup y ≠ _; rw [q]; decide), hrev]; rfl
  refine ⟨((g.T k).nolimit).keeps keep, codeAny_func ?_⟩
  exact wpAny_mono (h _ s2 (Nat.le_refl _) F keep hsz (by rw [e2]) (by rw [e2])) (fun _ _ z => z) fun _ _ z => z.elim
/-- a class whose __init__ stores one value under one key -/
theorem initOne {G : Gx} {n : Nat} {C f : Addr} {ds : List D} {dv : D} {key : Str} {name qual sf : Str} {params : Arguments} {val : Expr} {p1 p2 pos : Pos} {scope : Scope} {dV kV doc pm cdv ct oc : Value} {an od : Option Addr} {osl : Array (Option Value)} {names : List Str}
    (co : ClsOk G.K C) (hi : findIn G.K (.ref C) "__init__" = some (some (.ref f))) (ht : typeIn G.K (.ref f) = some (.type "function")) (htk : takerIn G.K C key = some none)
    (ho : G.K.lookup f = some ⟨oc, od, .func (fnOf name qual params [.Assign [.Attribute (.Name sf p1) key p2] val pos] scope dV kV doc pm an cdv ct), osl⟩) (hcd : codeIn G.K cdv qual = true)
    (hb : ∀ v vs (s : Shared), vs.length = ds.length → G.K.In s.heap → PySem.BindsTo s (fnOf name qual params [.Assign [.Attribute (.Name sf p1) key p2] val pos] scope dV kV doc pm an cdv ct) ⟨v :: vs, []⟩ ((sf :: names).zip (v :: vs))) (hnd : (sf :: names).Nodup)
    (hkind : (sf :: names).all (fun y => scope.names.lookup y == some .local || scope.names.lookup y == some .cell) = true) (hsd : (sf == ("__debug__" : Str)) = false)
    (hv : ∀ L v, Ev G n (envOfC qual scope L f cdv) ⟨(sf, .val v) :: names.zip ds, none⟩ val dv) (hsw : ∀ L, swapsWith val (some (.Attribute (.Name sf p1) key p2)) pos.line (envOfC qual scope L f cdv) = pure false)
    (hco : scope.isCoroutine = false := by rfl) (hgen : scope.isGenerator = false := by rfl) (hk : scope.kind = .function := by rfl) :
    ∀ (S : Gh) (s : Shared) (vs : List Value), Gd G S → HLe S s.heap.get? → RdL G S ds vs → ∀ (A : Around) (Q E : Value → Shared → Prop), Amb (n + 3) A →
      (∀ x dx v S' s', S' x = some (instObj C dx) → DictIs S' dx key v → Rd G S' dv v → Ext S s S' s' → Q (.ref x) s') →
      codeAny (model G.prog G.w) A (.call (.ref C) ⟨vs, []⟩) (fun r s' => match r with | .ok (.ret v) => Q v s' | .ok _ => False | .error e => E e s') s := by
  intro S s vs g k r A Q E hA q
  have X := g.X k
  obtain ⟨hh, gg, d, t, os⟩ := s
  refine make_core (makes_of X co.mks) (looks_findIn X hi) (fun self => bind_fn X self ht) (.inl rfl) ?_
  have hAu : Amb (n + 2) (A.under (.builtin "type.__call__" ⟨.ref C :: vs, []⟩)) := by
    refine ⟨hA.hd, ?_, ?_⟩
    · have := hA.depth
      rw [depth_under_make]
      omega
    · have := hA.units
      show A.units + Code.cUnits (.builtin "type.__call__" ⟨.ref C :: vs, []⟩) + 30 * (n + 2) ≤ 9800
      have e : Code.cUnits (.builtin "type.__call__" ⟨.ref C :: vs, []⟩) = 1 := by kernel_rfl
      omega
  generalize A.under (.builtin "type.__call__" ⟨.ref C :: vs, []⟩) = A' at hAu ⊢
  have k2 : HLe hh.get? ((hh.push emptyDict).push (instObj C hh.objs.size)).get? := (HLe.push _ _).trans (HLe.push _ _)
  have hdx : ((hh.push emptyDict).push (instObj C hh.objs.size)).get? hh.objs.size = some emptyDict := Heap.get?_push_of_some _ (Heap.get?_push_size _ rfl)
  have hx : ((hh.push emptyDict).push (instObj C hh.objs.size)).get? (hh.objs.size + 1) = some (instObj C hh.objs.size) := by
    have := Heap.get?_push_size (hh.push emptyDict) (o := instObj C hh.objs.size) rfl
    rw [Heap.size_push] at this
    exact this
  have hz : ((hh.push emptyDict).push (instObj C hh.objs.size)).objs.size = hh.objs.size + 2 := by rw [Heap.size_push, Heap.size_push]
  generalize (hh.push emptyDict).push (instObj C hh.objs.size) = h2 at k2 hdx hx hz ⊢
  have knone : ∀ b, hh.objs.size ≤ b → S b = none := fun b hb => by
    cases q : S b with
    | none => rfl
    | some o => exact absurd (Heap.lt_size (k b o q)) (Nat.not_lt.mpr hb)
  refine enter (n := n + 1) (h₀ := hh.get?) (S := S) (es := .val (.ref (hh.objs.size + 1)) :: ds) (ws := .ref (hh.objs.size + 1) :: vs) (names := sf :: names) ho hcd (fun s X => hb _ vs s r.length X) hnd hkind g (HLe.trans k k2) k2 (RdL.cons rfl r) hAu ?_ hco hgen hk
  intro L s2 hL F kk ksz eos egn
  have hsz2 : hh.objs.size + 2 ≤ s2.heap.objs.size := by
    have : h2.objs.size ≤ s2.heap.objs.size := ksz
    omega
  refine wpAny_execs_cons (plainObj_wpAny_Assign_Attribute ?_ (hsw L))
  refine hv L (.ref (hh.objs.size + 1)) hh.get? S s2 F (A'.deeper _) _ _ ((hAu.deeper _).mono (by omega)) fun v S3 s3 X3 r3 => ?_
  have F3 := F.ext X3
  have Es := (Ev.name (G := G) (n := n) (env := envOfC qual scope L f cdv) (Γ := ⟨(sf, .val (.ref (hh.objs.size + 1))) :: names.zip ds, none⟩) (x := sf) (pos := p1) (d := .val (.ref (hh.objs.size + 1))) lookup_cons_self hsd) hh.get? S3 s3 F3
  refine Es (A'.deeper _) _ _ ((hAu.deeper _).mono (by omega)) fun sv S4 s4 X4 r4 => ?_
  obtain rfl : sv = .ref (hh.objs.size + 1) := r4
  have kA : HLe h2.get? s4.heap.get? := HLe.trans kk (HLe.trans X3.heap X4.heap)
  have X34 := X3.trans X4
  refine set_first ((g.le X34.le).X X34.sub) co htk (kA _ _ hx) (kA _ _ hdx) fun h' hsb hd => ?_
  refine wpAny_execs_nil ⟨rfl, ?_⟩
  have up : ∀ b o, b ≠ hh.objs.size → s4.heap.get? b = some o → h'.get? b = some o := fun b o hb e => (hsb.2 b hb).trans e
  have hlt : hh.objs.size < h'.objs.size := by
    obtain ⟨o, _, _, e, _⟩ := hd
    exact Heap.lt_size e
  refine q (hh.objs.size + 1) hh.objs.size v (fun b => if b = hh.objs.size then h'.get? b else if b = hh.objs.size + 1 then some (instObj C hh.objs.size) else S4 b) _ ?_ ?_ ?_ ?_
  · show (if hh.objs.size + 1 = hh.objs.size then _ else if hh.objs.size + 1 = hh.objs.size + 1 then _ else _) = _
    rw [if_neg (by omega), if_pos rfl]
  · obtain ⟨o, es, ep, e, rr⟩ := hd
    exact ⟨o, es, ep, by show (if hh.objs.size = hh.objs.size then _ else _) = _; rw [if_pos rfl]; exact e, rr⟩
  · refine Rd.le (fun b o e => ?_) _ _ (Rd.le X4.le _ _ r3)
    show (if b = hh.objs.size then _ else if b = hh.objs.size + 1 then _ else _) = _
    by_cases q1 : b = hh.objs.size
    · subst q1
      rw [X34.fresh hh.objs.size _ (kk _ _ hdx) (knone hh.objs.size (Nat.le_refl _))] at e; cases e
    · by_cases q2 : b = hh.objs.size + 1
      · subst q2
        rw [X34.fresh (hh.objs.size + 1) _ (kk _ _ hx) (knone (hh.objs.size + 1) (Nat.le_succ _))] at e; cases e
      · rw [if_neg q1, if_neg q2]; exact e
  · refine ⟨fun b o e => ?_, fun b o e => ?_, fun b o hb e => ?_, fun b o e => ?_, ?_, ?_⟩
    · have hb : b < hh.objs.size := Heap.lt_size (k b o e)
      have n1 : b ≠ hh.objs.size := Nat.ne_of_lt hb
      have n2 : b ≠ hh.objs.size + 1 := Nat.ne_of_lt (Nat.lt_succ_of_lt hb)
      show (if b = hh.objs.size then _ else if b = hh.objs.size + 1 then _ else _) = _
      rw [if_neg n1, if_neg n2]
      exact X34.le b o e
    · have e : (if b = hh.objs.size then h'.get? b else if b = hh.objs.size + 1 then some (instObj C hh.objs.size) else S4 b) = some o := e
      show h'.get? b = some o
      split at e
      · exact e
      · rename_i q1
        split at e
        · rename_i q2; cases e; subst q2; exact up _ _ (by omega) (kA _ _ hx)
        · exact up b o q1 (X34.sub b o e)
    · have hb' : b < hh.objs.size := Heap.lt_size hb
      have n1 : b ≠ hh.objs.size := Nat.ne_of_lt hb'
      have n2 : b ≠ hh.objs.size + 1 := Nat.ne_of_lt (Nat.lt_succ_of_lt hb')
      show (if b = hh.objs.size then _ else if b = hh.objs.size + 1 then _ else _) = _
      rw [if_neg n1, if_neg n2]
      exact X34.fresh b o (kk _ _ (k2 _ _ hb)) e
    · exact up b o (Nat.ne_of_lt (Heap.lt_size e)) (kA _ _ (k2 _ _ e))
    · show s4.os = os
      rw [X34.os, eos]
    · obtain ⟨l, e, hl⟩ := X34.gens
      exact ⟨l, by show s4.gens = gg ++ l; rw [e, egn], hl⟩
end Mine
open PySem PySem.W PyProof.Rows PySem.Calls
set_option Elab.async false
set_option maxRecDepth 100000
set_option linter.unusedVariables false
namespace Mine
def retP (d : D) (o : Out) : Prop := o = .ret d ∨ (d = .none ∧ ∃ Γ, o = .next Γ)
theorem retP.mk {d d' : D} (h : d' = d) : retP d (.ret d') := .inl (by rw [h])
def pnames (p : Arguments) : List Str := (p.posonlyargs ++ p.args).map (·.arg)
theorem FnOk.plain {G : Gx} {n : Nat} {f : Addr} {ds : List D} {d : D} {name qual : Str} {params : Arguments} {body : List Stmt} {scope : Scope} {dV kV doc pm cdv ct oc : Value} {an od : Option Addr} {osl : Array (Option Value)}
    (ho : G.K.lookup f = some ⟨oc, od, .func (fnOf name qual params body scope dV kV doc pm an cdv ct), osl⟩) (hcd : codeIn G.K cdv qual = true)
    (hb : ∀ vs : List Value, vs.length = ds.length → bindArgs (fnOf name qual params body scope dV kV doc pm an cdv ct) ⟨vs, []⟩ = pure ((pnames params).zip vs))
    (hnd : (pnames params).Nodup) (hkind : (pnames params).all (fun y => scope.names.lookup y == some .local || scope.names.lookup y == some .cell) = true)
    (h : ∀ L, Ex G n (envOfC qual scope L f cdv) ⟨(pnames params).zip ds, none⟩ body (retP d))
    (hco : scope.isCoroutine = false := by rfl) (hgen : scope.isGenerator = false := by rfl) (hk : scope.kind = .function := by rfl) : FnOk G (n + 1) (.ref f) ds d :=
  FnOk.def ho hcd (Binds.plain hb) hnd hkind h hco hgen hk
/-- def f(self, *args) -/
theorem FnOk.star {G : Gx} {n : Nat} {f : Addr} {ds : List D} {d1 d : D} {name qual x y : Str} {params : Arguments} {body : List Stmt} {scope : Scope} {dV kV doc pm cdv ct oc : Value} {an od : Option Addr} {osl : Array (Option Value)}
    (ho : G.K.lookup f = some ⟨oc, od, .func (fnOf name qual params body scope dV kV doc pm an cdv ct), osl⟩) (hcd : codeIn G.K cdv qual = true)
    (hb : ∀ (v : Value) (vs : List Value), vs.length = ds.length → bindArgs (fnOf name qual params body scope dV kV doc pm an cdv ct) ⟨v :: vs, []⟩ = (newTuple vs >>= fun t => pure [(x, v), (y, t)])) (hl : ds.length ≤ 1000000)
    (hnd : [x, y].Nodup) (hkind : [x, y].all (fun y => scope.names.lookup y == some .local || scope.names.lookup y == some .cell) = true)
    (h : ∀ L, Ex G n (envOfC qual scope L f cdv) ⟨[(x, d1), (y, .tup ds)], none⟩ body (retP d))
    (hco : scope.isCoroutine = false := by rfl) (hgen : scope.isGenerator = false := by rfl) (hk : scope.kind = .function := by rfl) : FnOk G (n + 1) (.ref f) (d1 :: ds) d :=
  FnOk.def ho hcd (Binds.star1 (n := n) hl hb) hnd hkind h hco hgen hk
end Mine
open PySem PySem.W PyProof.Rows PySem.Calls
set_option Elab.async false
set_option maxRecDepth 100000
set_option linter.unusedVariables false
namespace Mine
/-! generators' states: some places may turn, new ones are bare -/
def GnMv (gi : List Nat) (a b : Array GenState) : Prop := a.size ≤ b.size ∧ (∀ i, i < a.size → i ∉ gi → b[i]? = a[i]?) ∧ ∀ i y, b[i]? = some y → (i ∈ gi ∨ a.size ≤ i) → y.bare = true
theorem GnMv.refl' {gi : List Nat} {a : Array GenState} (h : ∀ i ∈ gi, ∀ y, a[i]? = some y → y.bare = true) : GnMv gi a a :=
  ⟨Nat.le_refl _, fun _ _ _ => rfl, fun i y e q => by
    rcases q with q | q
    · exact h i q y e
    · rw [Array.getElem?_eq_none q] at e; cases e⟩
theorem GnMv.of_app {gi : List Nat} {a l : Array GenState} (hl : AllBare l) (h : ∀ i ∈ gi, ∀ y, a[i]? = some y → y.bare = true) : GnMv gi a (a ++ l) :=
  ⟨by rw [Array.size_append]; omega, fun i hi _ => by rw [Array.getElem?_append_left hi], fun i y e q => by
    by_cases hi : i < a.size
    · rw [Array.getElem?_append_left hi] at e
      rcases q with q | q
      · exact h i q y e
      · omega
    · rw [Array.getElem?_append_right (by omega)] at e
      exact hl y (Array.mem_of_getElem? e)⟩
theorem GnMv.trans {gi : List Nat} {a b c : Array GenState} (x : GnMv gi a b) (y : GnMv gi b c) : GnMv gi a c :=
  ⟨Nat.le_trans x.1 y.1, fun i hi hn => (y.2.1 i (Nat.lt_of_lt_of_le hi x.1) hn).trans (x.2.1 i hi hn), fun i z e q => by
    by_cases hn : i ∈ gi
    · exact y.2.2 i z e (.inl hn)
    · have hi := q.resolve_left hn
      by_cases hb : i < b.size
      · exact x.2.2 i z ((y.2.1 i hb hn).symm.trans e) (.inr hi)
      · exact y.2.2 i z e (.inr (by omega))⟩
theorem GnMv.app {gi : List Nat} {a b : Array GenState} (x : GnMv gi a b) (h : ∀ i ∈ gi, a.size ≤ i) : ∃ l, b = a ++ l ∧ AllBare l := by
  refine ⟨b.extract a.size b.size, ?_, fun y hy => ?_⟩
  · apply Array.ext_getElem?
    intro i
    by_cases hi : i < a.size
    · rw [Array.getElem?_append_left hi]
      exact x.2.1 i hi fun q => by have := h i q; omega
    · rw [Array.getElem?_append_right (by omega), Array.getElem?_extract]
      split
      · congr 1; omega
      · rename_i q
        have hx := x.1
        rw [Array.getElem?_eq_none (by simp at q; omega)]
  · obtain ⟨i, hi⟩ := Array.getElem?_of_mem hy
    rw [Array.getElem?_extract] at hi
    split at hi
    · exact x.2.2 _ y hi (.inr (by omega))
    · cases hi
/-- what an iterator's step may turn -/
structure Mv (fp : List Addr) (gi : List Nat) (S : Gh) (s : Shared) (S' : Gh) (s' : Shared) : Prop where
  le : HLe S S'
  sub : HLe S' s'.heap.get?
  fresh : ∀ b o, s.heap.get? b = some o → S b = none → S' b = none
  heap : ∀ b o, b ∉ fp → s.heap.get? b = some o → s'.heap.get? b = some o
  os : s'.os = s.os
  gens : GnMv gi s.gens s'.gens
/-- an iterator that will give just these -/
structure Iter (G : Gx) (n : Nat) (it : Value) (fp : List Addr) (gi : List Nat) (J : List D → Gh → Shared → Prop) : Prop where
  frame : ∀ l S s S' s', J l S s → HLe S S' → HLe S' s'.heap.get? → (∀ b ∈ fp, ∀ o, s.heap.get? b = some o → s'.heap.get? b = some o) → (∀ b ∈ fp, ∀ o, s.heap.get? b = some o → S b = none → S' b = none) → (∃ g, s'.gens = s.gens ++ g ∧ AllBare g) → J l S' s'
  kind : ∀ l S s, J l S s → ∀ b ∈ fp, ∀ o, s.heap.get? b = some o → ∀ its k, o.data ≠ .seq its k
  bare : ∀ l S s, J l S s → ∀ i ∈ gi, ∀ y, s.gens[i]? = some y → y.bare = true
  next : ∀ d l S s (A : Around) (Q : Option Value → Shared → Prop) (E : Value → Shared → Prop), J (d :: l) S s → Gd G S → HLe S s.heap.get? → Amb n A →
    (∀ v S' s', Rd G S' d v → J l S' s' → Mv fp gi S s S' s' → Q (some v) s') → wpAny (model G.prog G.w) A (pyNext it) Q E s
  stop : ∀ S s (A : Around) (Q : Option Value → Shared → Prop) (E : Value → Shared → Prop), J [] S s → Gd G S → HLe S s.heap.get? → Amb n A →
    (∀ S' s', Mv fp gi S s S' s' → Q none s') → wpAny (model G.prog G.w) A (pyNext it) Q E s
  go : ∀ t v l S s (A : Around) (Q : Unit → Shared → Prop) (E : Value → Shared → Prop), J l S s → Gd G S → HLe S s.heap.get? → Amb n A →
    (∀ S' s', J l S' s' → Mv fp gi S s S' s' → Q () s') → wpAny (model G.prog G.w) A (letOwnedTupleGo t it v) Q E s
/-- an expression whose value is iterated -/
def Iv (G : Gx) (n : Nat) (env : Env) (Γ : Cx) (e : Expr) (l : List D) : Prop :=
  ∀ (B S : Gh) (s : Shared) (A : Around) (Q : Value → Shared → Prop) (E : Value → Shared → Prop), FrR G B env S Γ s → Amb n A →
    (∀ it fp gi J S' s', Iter G n it fp gi J → J l S' s' → (∀ b ∈ fp, s.heap.get? b = none) → (∀ i ∈ gi, s.gens.size ≤ i) → Ext S s S' s' → Q it s') →
    wpAny (model G.prog G.w) A (eval e env) (fun x s₁ => wpAny (model G.prog G.w) A (pyIter x) Q E s₁) E s
/-! stores into targets -/
def As (G : Gx) (n : Nat) (env : Env) (Γ : Cx) (t : Expr) (d : D) (Γ' : Cx) : Prop :=
  ∀ (B S : Gh) (s : Shared) (v : Value) (A : Around) (Q : Unit → Shared → Prop) (E : Value → Shared → Prop), FrR G B env S Γ s → Rd G S d v → Amb n A →
    (∀ S' s', FrR G B env S' Γ' s' → ExtB B S s S' s' → Q () s') → wpAny (model G.prog G.w) A (assign t env v) Q E s
def AsL (G : Gx) (n : Nat) (env : Env) (Γ : Cx) (ts : List Expr) (ds : List D) (Γ' : Cx) : Prop :=
  ∀ (B S : Gh) (s : Shared) (vs : List Value) (A : Around) (Q : Unit → Shared → Prop) (E : Value → Shared → Prop), FrR G B env S Γ s → RdL G S ds vs → Amb n A →
    (∀ S' s', FrR G B env S' Γ' s' → ExtB B S s S' s' → Q () s') → wpAny (model G.prog G.w) A (assignInOrder ((assignEach ts env).map (·.2)) vs) Q E s
section
variable {G : Gx} {n : Nat} {env : Env} {Γ Γ1 Γ2 : Cx}
theorem As.name {x : Str} {pos : Pos} {d : D} (hk : Kind env x := by first | exact .inl rfl | exact .inr rfl) : As G n env Γ (.Name x pos) d (Γ.set x d) := by
  intro B S s v A Q E F r hA q
  exact wpAny_assign_Name (F.store hk r fun s2 X2 F2 => q S s2 F2 X2)
theorem AsL.nil : AsL G n env Γ [] [] Γ := by
  intro B S s vs A Q E F r hA q
  unfold RdL at r; subst r
  exact wpAny_pure (q S s F ExtB.rfl')
theorem AsL.cons {t : Expr} {ts : List Expr} {d : D} {ds : List D} (h : As G n env Γ t d Γ1) (k : AsL G n env Γ1 ts ds Γ2)
    (he : assignEach (t :: ts) env = (false, assign t env) :: assignEach ts env := by rfl) : AsL G n env Γ (t :: ts) (d :: ds) Γ2 := by
  intro B S s vs A Q E F r hA q
  unfold RdL at r
  obtain ⟨v, r', rfl, a, b⟩ := r
  rw [he]
  refine wpAny_assignInOrder_more (h B S s v A _ E F a hA fun S1 s1 F1 X1 => ?_)
  exact k B S1 s1 r' A Q E F1 (RdL.le X1.le _ _ b) hA fun S2 s2 F2 X2 => q S2 s2 F2 (X1.trans X2)
theorem As.tup {ts : List Expr} {k : Nat} {pos : Pos} {ds : List D} (h : AsL G n env Γ ts ds Γ1) (hn : (assignEach ts env).length = ds.length := by rfl) (hstar : (assignEach ts env).findIdx? (·.1) = none := by rfl) :
    As G n env Γ (.Tuple ts k pos) (.tup ds) Γ1 := by
  intro B S s v A Q E F r hA q
  unfold Rd at r
  obtain ⟨a, vs, rfl, ht, rl⟩ := r
  have T : s.heap.IsTuple a vs := ht.is F.sub
  have hz : vs.size = ds.length := by rw [← rl.length, Array.length_toList]
  refine wpAny_assign_Tuple hA.hd T (hn.trans hz.symm) hstar fun h' he => ?_
  have kk : HLe s.heap.get? h'.get? := fun b o e => he b o (Nat.ne_of_lt (Heap.lt_size e)) e
  have X : Ext S s S { s with heap := h' } := ⟨HLe.refl _, F.sub.trans kk, fun _ _ _ e => e, kk, rfl, #[], by simp, AllBare.empty⟩
  exact h B S _ _ A Q E (F.ext X) rl hA fun S2 s2 F2 X2 => q S2 s2 F2 ((X.toB F.base).trans X2)
end
end Mine
open PySem PySem.W PyProof.Rows PySem.Calls
set_option Elab.async false
set_option maxRecDepth 100000
set_option linter.unusedVariables false
namespace Mine
section
variable {G : Gx} {n : Nat} {env : Env} {Γ : Cx} {B B' S S' : Gh} {s s' : Shared}
theorem FrR.weak (F : FrR G B' env S Γ s) (h : HLe B B') : FrR G B env S Γ s := by
  have no : ∀ b, B' b = none → B b = none := fun b e => by
    cases q : B b with
    | none => rfl
    | some o => rw [h b o q] at e; cases e
  obtain ⟨m, hn, hS, hv, ho⟩ := F.fr
  exact { F with
    base := h.trans F.base
    lnew := no _ F.lnew
    cex := fun x e => by
      obtain ⟨c, v₀, a, b, d, f⟩ := F.cex x e
      exact ⟨c, v₀, a, b, d, no c f⟩
    fr := ⟨m, hn, hS, hv, fun x l e => by
      obtain ⟨q, a, vs, k, p, z1, z2, z3⟩ := ho x l e
      exact ⟨q, a, vs, k, p, z1, no a z2, z3⟩⟩ }
theorem ExtB.weak (X : ExtB B' S s S' s') (h : HLe B B') : ExtB B S s S' s' := ⟨X.le, fun b o e => X.fresh b o (h b o e), X.os, X.gens⟩
open Classical in
/-- the frame over all that it does not turn -/
theorem FrR.rebase (F : FrR G B env S Γ s) : ∃ B', FrR G B' env S Γ s ∧ HLe B B' ∧
    ∀ b o, s.heap.get? b = some o → (∀ its k, o.data ≠ .seq its k) → b ≠ env.locals → (∀ x, env.cells.lookup x = some b → env.kindOf x ≠ some .cell) → B' b = some o := by
  obtain ⟨m, hn, hS, hv, ho⟩ := F.fr
  have key : ∀ oa : Option Addr, (∀ x l, Γ.own = some (x, l) → Γ.vars.lookup x = none ∧ ∃ a vs, oa = some a ∧ Vr S s.heap env m x (.ref a) ∧ s.heap.PlainList a vs ∧ S a = none ∧ B a = none ∧ RdL G S l vs.toList) →
      (∀ a, oa = some a → B a = none ∧ ∃ o its k, s.heap.get? a = some o ∧ o.data = .seq its k) → ∃ B', FrR G B' env S Γ s ∧ HLe B B' ∧
      ∀ b o, s.heap.get? b = some o → (∀ its k, o.data ≠ .seq its k) → b ≠ env.locals → (∀ x, env.cells.lookup x = some b → env.kindOf x ≠ some .cell) → B' b = some o := by
    intro oa h1 h2
    refine ⟨fun b => if b = env.locals ∨ (∃ x, env.cells.lookup x = some b ∧ env.kindOf x = some .cell) ∨ oa = some b then none else s.heap.get? b, ?_, fun b o e => ?_, fun b o e hs hl hc => ?_⟩
    · refine { F with base := fun b o e => ?_, lnew := if_pos (.inl rfl), cex := fun x e => ?_, fr := ⟨m, hn, hS, hv, fun x l e => ?_⟩ }
      · dsimp only at e
        split at e
        · cases e
        · exact e
      · obtain ⟨c, v₀, a, b, d, f⟩ := F.cex x e
        exact ⟨c, v₀, a, b, d, if_pos (.inr (.inl ⟨x, a, e⟩))⟩
      · obtain ⟨q, a, vs, ha, k, p, z1, z2, z3⟩ := h1 x l e
        exact ⟨q, a, vs, k, p, z1, if_pos (.inr (.inr ha)), z3⟩
    · show (if _ then _ else _) = _
      rw [if_neg]
      · exact F.base b o e
      · rintro (q | ⟨x, q, q'⟩ | q)
        · rw [q, F.lnew] at e; cases e
        · obtain ⟨c, v₀, a, _, _, f⟩ := F.cex x q'
          rw [a] at q; cases q
          rw [f] at e; cases e
        · rw [(h2 b q).1] at e; cases e
    · show (if _ then _ else _) = _
      rw [if_neg]
      · exact e
      · rintro (q | ⟨x, q, q'⟩ | q)
        · exact hl q
        · exact hc x q q'
        · obtain ⟨_, o', its, k, e', hd⟩ := h2 b q
          rw [e] at e'; cases e'
          exact hs its k hd
  cases hown : Γ.own with
  | none => exact key none (fun x l e => by rw [hown] at e; cases e) fun a e => by cases e
  | some p =>
    obtain ⟨x, l⟩ := p
    obtain ⟨q, a, vs, k, ⟨nn, p⟩, z1, z2, z3⟩ := ho x l hown
    refine key (some a) (fun x' l' e => ?_) fun a' e => ?_
    · rw [hown] at e; cases e
      exact ⟨q, a, vs, rfl, k, ⟨nn, p⟩, z1, z2, z3⟩
    · cases e
      exact ⟨z2, _, _, _, p, rfl⟩
/-- an iterator's step leaves the frame -/
theorem FrR.mv {fp : List Addr} {gi : List Nat} (F : FrR G B env S Γ s) (X : Mv fp gi S s S' s') (hB : ∀ b ∈ fp, B b = none) (hL : env.locals ∉ fp) (hC : ∀ x c, env.cells.lookup x = some c → c ∉ fp)
    (hk : ∀ b ∈ fp, ∀ o, s.heap.get? b = some o → ∀ its k, o.data ≠ .seq its k) : FrR G B env S' Γ s' := by
  obtain ⟨m, hn, hS, hv, ho⟩ := F.fr
  have hL' : S' env.locals = none := by
    obtain ⟨o, es, ep, hg, _⟩ := hn
    exact X.fresh _ o hg hS
  have VR : ∀ x w, Vr S s.heap env m x w → Vr S' s'.heap env m x w := fun x w V => by
    cases V with
    | loc a b => exact .loc a b
    | cell c o a b c' d e => exact .cell c o a b (X.heap _ _ (hC x c b) c') d (X.fresh c o c' e)
  refine ⟨F.gd.le X.le, X.sub, F.kind, F.glob, F.bt, fun b o e => X.heap b o (fun q => ?_) (F.base b o e), F.cinj, fun x e => ?_, fun x c e => ?_, F.lnew, m, ?_, hL', fun x d e => ?_, fun x l e => ?_⟩
  · rw [hB b q] at e; cases e
  · obtain ⟨c, v₀, a, ⟨o, b, b'⟩, d, f⟩ := F.cex x e
    exact ⟨c, v₀, a, ⟨o, X.heap _ _ (hC x c a) b, b'⟩, X.fresh c o b d, f⟩
  · obtain ⟨v₀, ⟨o, b, b'⟩, d⟩ := F.cal x c e
    exact ⟨v₀, ⟨o, X.heap _ _ (hC x c e) b, b'⟩, X.fresh c o b d⟩
  · obtain ⟨o, es, ep, hg, r⟩ := hn
    exact ⟨o, es, ep, X.heap _ _ hL hg, r⟩
  · obtain ⟨v, r, k⟩ := hv x d e
    exact ⟨v, Rd.le X.le d v r, VR x v k⟩
  · obtain ⟨q, a, vs, k, ⟨nn, p⟩, hSa, h0, r⟩ := ho x l e
    exact ⟨q, a, vs, VR x _ k, ⟨nn, X.heap _ _ (fun z => hk a z _ p _ _ rfl) p⟩, X.fresh a _ p hSa, h0, RdL.le X.le l _ r⟩
end
/-- the loop's turn, with the tuple let go -/
theorem forLoopG {prog : Program} {w : World} {A : Around} {s : Shared} {R : Result → Shared → Prop} {target : Expr} {it : Value} {body orelse : List Stmt} {env : Env} (I : Nat → Shared → Prop)
    (turn : ∀ n s, I n s → wpAny (model prog w) A (pyNext it) (fun r s₁ => match r with
      | none => wpAny (model prog w) A (execs orelse env) (fun f s₃ => R (.ok f) s₃) (fun _ _ => False) s₁
      | some v => wpAny (model prog w) A (letOwnedTupleGo target it v) (fun _ s₁' => wpAny (model prog w) A (assign target env v) (fun _ s₂ => wpAny (model prog w) A (execs body env) (fun f s₃ => match f with
          | .next | .cont => ∃ m, m < n ∧ I m s₃
          | .brk => R (.ok .next) s₃
          | .ret v => R (.ok (.ret v)) s₃) (fun _ _ => False) s₂) (fun _ _ => False) s₁') (fun _ _ => False) s₁) (fun _ _ => False) s)
    (n : Nat) (h : I n s) : codeAny (model prog w) A (.forLoop target it body orelse env) R s := by
  refine codeAny_loop' rfl I (fun n s hI => ?_) n h
  show wpAny _ _ ((forTurn target it body orelse env).onRaise (fun x => do noteFrame x env; theTreesLotGoes x)) _ _ s
  refine wpAny_noted ?_
  unfold forTurn
  refine wpAny_bind (wpAny_standAt (wpAny_bind (wpAny_onRaise (wpAny_mono (turn n s hI) (fun r s₁ h₁ => ?_) fun _ _ z => z.elim))))
  cases r with
  | none => exact wpAny_pure (.inr ⟨rfl, codeAny_block (wpAny_mono h₁ (fun _ _ z => z) fun _ _ z => z.elim)⟩)
  | some v =>
    refine wpAny_bind (wpAny_mono h₁ (fun _ s₁' h₁' => ?_) fun _ _ z => z.elim)
    refine wpAny_bind (wpAny_mono h₁' (fun _ s₂ h₂ => wpAny_bind (wpAny_mono h₂ (fun f s₃ h₃ => ?_) fun _ _ z => z.elim)) fun _ _ z => z.elim)
    cases f with
    | next => exact wpAny_pure (.inl ⟨rfl, h₃⟩)
    | cont => exact wpAny_pure (.inl ⟨rfl, h₃⟩)
    | brk => exact wpAny_pure h₃
    | ret v => exact wpAny_pure h₃
section
variable {G : Gx} {n : Nat} {env : Env} {Γ : Cx} {P : Out → Prop} {rest : List Stmt}
def TurnP (G : Gx) (n : Nat) (env : Env) (rest : List Stmt) (P : Out → Prop) (J : Cx → Prop) : Out → Prop
  | .next Γ => ∃ Γ', Γ'.Sub Γ ∧ J Γ'
  | .cont Γ => ∃ Γ', Γ'.Sub Γ ∧ J Γ'
  | .brk Γ => Ex G n env Γ rest P
  | .ret d => P (.ret d)
theorem Ex.for {t iter : Expr} {body : List Stmt} {pos : Pos} {items : List D} (J : Nat → Cx → Prop) (hit : Iv G n env Γ iter items) (h0 : J 0 Γ)
    (turn : ∀ i d Γ1, items[i]? = some d → J i Γ1 → ∃ Γ2, As G n env Γ1 t d Γ2 ∧ Ex G n env Γ2 body (TurnP G n env rest P (J (i + 1))))
    (done : ∀ Γ1, J items.length Γ1 → Ex G n env Γ1 rest P)
    (hs : ∀ x, foldedSetIterable iter env x = pure x := by intro _; rfl) : Ex G n env Γ (.For t iter body [] pos :: rest) P := by
  refine Ex.cons fun B S s F A Q E hA q => ?_
  refine wpAny_For (hit B S s A _ E F hA fun it fp gi Jt S1 s1 IT hJ hfp hgi X1 => ?_) hs
  have F1 := F.ext X1
  have hB : ∀ b ∈ fp, B b = none := fun b hb => by
    cases z : B b with
    | none => rfl
    | some o => have := hfp b hb; rw [F.base b o z] at this; cases this
  have hL : env.locals ∉ fp := fun z => by
    obtain ⟨m, ⟨o, es, ep, hg, _⟩, _⟩ := F.fr
    rw [hfp _ z] at hg; cases hg
  have hC : ∀ x c, env.cells.lookup x = some c → c ∉ fp := fun x c e z => by
    obtain ⟨v, ⟨o, b, _⟩, _⟩ := F.cal x c e
    rw [hfp _ z] at b; cases b
  -- the whole of it, from the start
  have fin : ∀ o fl S' s', Then G n env rest P o → OutR G B env S' s' o fl → HLe S1 S' → (∀ b o, B b = some o → S1 b = none → S' b = none) → s'.os = s1.os → GnMv gi s1.gens s'.gens → Q fl s' := fun o fl S' s' p r k1 k2 k3 k4 => by
    refine q o fl S' s' p r ⟨X1.le.trans k1, fun b o e z => k2 b o e (X1.fresh b o (F.base b o e) z), k3.trans X1.os, ?_⟩
    obtain ⟨l, e, hl⟩ := X1.gens
    obtain ⟨l', e', hl'⟩ := (GnMv.trans (GnMv.of_app (gi := gi) (a := s.gens) (l := l) hl fun i hi y z => by
      have := hgi i hi
      rw [Array.getElem?_eq_none this] at z; cases z) (e ▸ k4)).app hgi
    exact ⟨l', e', hl'⟩
  refine codeAny_mono (R := fun r s' => match r with | .ok f => Q f s' | .error _ => False) ?_ (fun r s' z => by cases r with | ok f => exact z | error e => exact z.elim)
  refine forLoopG (I := fun k s => ∃ i Γ1 S, k = items.length - i ∧ i ≤ items.length ∧ J i Γ1 ∧ Jt (items.drop i) S s ∧ FrR G B env S Γ1 s ∧ HLe S1 S ∧ (∀ b o, B b = some o → S1 b = none → S b = none) ∧ s.os = s1.os ∧ GnMv gi s1.gens s.gens) ?_ items.length
    ⟨0, Γ, S1, rfl, Nat.zero_le _, h0, hJ, F1, HLe.refl _, fun _ _ _ e => e, rfl, GnMv.refl' (IT.bare _ _ _ hJ)⟩
  rintro k s2 ⟨i, Γ1, S2, rfl, hi, hJi, hJt, F2, k1, k2, k3, k4⟩
  have mvF : ∀ {S3 s3}, Mv fp gi S2 s2 S3 s3 → FrR G B env S3 Γ1 s3 := fun M => F2.mv M hB hL hC (IT.kind _ _ _ hJt)
  have mvk : ∀ {S3 s3}, Mv fp gi S2 s2 S3 s3 → HLe S1 S3 ∧ (∀ b o, B b = some o → S1 b = none → S3 b = none) ∧ s3.os = s1.os ∧ GnMv gi s1.gens s3.gens := fun M =>
    ⟨k1.trans M.le, fun b o e z => M.fresh b o (F2.base b o e) (k2 b o e z), M.os.trans k3, k4.trans M.gens⟩
  by_cases hlt : i < items.length
  · have hdrop : items.drop i = items[i] :: items.drop (i + 1) := List.drop_eq_getElem_cons hlt
    rw [hdrop] at hJt
    refine IT.next _ _ S2 s2 A _ _ hJt F2.gd F2.sub hA fun v S3 s3 rv hJ3 M3 => ?_
    have F3 := mvF M3
    obtain ⟨a1, a2, a3, a4⟩ := mvk M3
    refine IT.go t v _ S3 s3 A _ _ hJ3 F3.gd F3.sub hA fun S4 s4 hJ4 M4 => ?_
    have F4 := F3.mv M4 hB hL hC (IT.kind _ _ _ hJ3)
    obtain ⟨B', F4', hBB, hkeep⟩ := F4.rebase
    obtain ⟨Γ2, hAs, hEx⟩ := turn i items[i] Γ1 (List.getElem?_eq_getElem hlt) hJi
    have hfpB : ∀ b ∈ fp, ∀ o, s4.heap.get? b = some o → B' b = some o := fun b hb o e =>
      hkeep b o e (IT.kind _ _ _ hJ4 b hb o e) (fun z => hL (z ▸ hb)) fun x z => absurd hb (hC x b z)
    refine hAs B' S4 s4 v A _ _ F4' (Rd.le M4.le _ _ rv) hA fun S5 s5 F5 X5 => ?_
    refine hEx B' S5 s5 F5 A _ _ hA fun o fl S6 s6 hp hr X6 => ?_
    have X56 := X5.trans X6
    have b1 : HLe S1 S6 := a1.trans (M4.le.trans X56.le)
    have b2 : ∀ b o, B b = some o → S1 b = none → S6 b = none := fun b o e z => X56.fresh b o (hBB b o e) (M4.fresh b o (F3.base b o e) (a2 b o e z))
    have b3 : s6.os = s1.os := X56.os.trans (M4.os.trans a3)
    have b4 : GnMv gi s1.gens s6.gens := by
      obtain ⟨l, e, hl⟩ := X56.gens
      exact (a4.trans M4.gens).trans (e ▸ GnMv.of_app hl (IT.bare _ _ _ hJ4))
    have jf : HLe S6 s6.heap.get? → HLe B' s6.heap.get? → Jt (items.drop (i + 1)) S6 s6 := fun c1 c2 =>
      IT.frame _ _ _ _ _ hJ4 X56.le c1 (fun b hb o e => c2 b o (hfpB b hb o e)) (fun b hb o e => X56.fresh b o (hfpB b hb o e)) X56.gens
    cases o with
    | next Γ' =>
      cases fl with
      | next =>
        have hr : FrR G B' env S6 Γ' s6 := hr
        obtain ⟨Γ3, hs3, hJ3'⟩ := hp
        exact ⟨items.length - (i + 1), by omega, i + 1, Γ3, S6, rfl, hlt, hJ3', jf hr.sub hr.base, (hr.weak hBB).sub' hs3, b1, b2, b3, b4⟩
      | _ => exact hr.elim
    | cont Γ' =>
      cases fl with
      | cont =>
        have hr : FrR G B' env S6 Γ' s6 := hr
        obtain ⟨Γ3, hs3, hJ3'⟩ := hp
        exact ⟨items.length - (i + 1), by omega, i + 1, Γ3, S6, rfl, hlt, hJ3', jf hr.sub hr.base, (hr.weak hBB).sub' hs3, b1, b2, b3, b4⟩
      | _ => exact hr.elim
    | brk Γ' =>
      cases fl with
      | brk =>
        have hr : FrR G B' env S6 Γ' s6 := hr
        exact fin (.next Γ') .next S6 s6 hp (hr.weak hBB) b1 b2 b3 b4
      | _ => exact hr.elim
    | ret d =>
      cases fl with
      | ret v => exact fin (.ret d) (.ret v) S6 s6 hp ⟨hr.1, hr.2.1, hBB.trans hr.2.2⟩ b1 b2 b3 b4
      | _ => exact hr.elim
  · have he : items.drop i = [] := List.drop_eq_nil_of_le (by omega)
    rw [he] at hJt
    refine IT.stop S2 s2 A _ _ hJt F2.gd F2.sub hA fun S3 s3 M3 => ?_
    obtain ⟨a1, a2, a3, a4⟩ := mvk M3
    have e : i = items.length := by omega
    exact wpAny_execs_nil (fin (.next Γ1) .next S3 s3 (done Γ1 (e ▸ hJi)) (mvF M3) a1 a2 a3 a4)
end
end Mine
open PySem PySem.W PyProof.Rows PySem.Calls
set_option Elab.async false
set_option maxRecDepth 100000
set_option linter.unusedVariables false
namespace Mine
theorem Gd.inR {G : Gx} {S : Gh} (g : Gd G S) : True := trivial
/-! calls of what the machine brings -/
def BuOk (G : Gx) (n : Nat) (f : Value) (ds : List D) (d : D) : Prop :=
  ∀ (S : Gh) (s : Shared) (vs : List Value), Gd G S → HLe S s.heap.get? → RdL G S ds vs → W G n S s (PySem.call f vs []) fun S' v => Rd G S' d v
inductive IsMachine : Value → Prop where
  | builtin (id : String) : IsMachine (.builtin id)
  | type (T : String) : IsMachine (.type T)
section
variable {G : Gx} {n : Nat} {env : Env} {Γ : Cx}
theorem RdL.len {S : Gh} {ds : List D} {vs : List Value} (h : RdL G S ds vs) : vs.length = ds.length := h.length
theorem evalArgsK {f : Value} {pos : Pos} {args : List Expr} {Q : Args → Shared → Prop} {M : Model} {A : Around} {E : Value → Shared → Prop} {s : Shared} (hplain : (backTo pos (starEach args env)).any (·.1) = false)
    (key : wpAny M A (spliced (backTo pos (starEach args env))) (fun vs s' => Q ⟨vs, []⟩ s') E s) : wpAny M A (evalArgs f true (backTo pos (starEach args env)) []) Q E s := by
  cases hargs : backTo pos (starEach args env) with
  | nil =>
    rw [hargs] at key
    unfold evalArgs
    show wpAny _ A (spliced [] >>= _) _ E s
    refine wpAny_bind (wpAny_mono key (fun vs s' h' => ?_) fun _ _ x => x)
    refine wpAny_holding ?_
    exact wpAny_bind (wpAny_pure (wpAny_bind (wpAny_pure (wpAny_pure h'))))
  | cons x rest =>
    rw [hargs] at key hplain
    obtain ⟨b, t⟩ := x
    obtain rfl : b = false := by
      rw [List.any_cons] at hplain
      exact (Bool.or_eq_false_iff.mp hplain).1
    exact Calls.evalArgs_plain key
theorem callB {pos : Pos} {f : Value} {args : List Expr} {ds : List D} {d : D} (hm : IsMachine f) (hf : BuOk G n f ds d) (ha : Al G n env Γ pos args ds)
    (hplain : (backTo pos (starEach args env)).any (·.1) = false) {h₀ : Gh} {S : Gh} {s : Shared} (F : FrR G h₀ env S Γ s) :
    W G n S s (callWith pos f [] (backTo pos (starEach args env)) []) fun S' v => Rd G S' d v := by
  intro A Q E hA q
  have key : wpAny (model G.prog G.w) A (spliced (backTo pos (starEach args env))) (fun vs s' => wpAny (model G.prog G.w) A (call f ([] ++ vs) []) Q E s') E s :=
    ha h₀ S s F A _ E hA fun vs S1 s1 X1 rs => hf S1 s1 vs (F.gd.le X1.le) X1.sub rs A _ E hA fun v S2 s2 X2 r => q v S2 s2 (X1.trans X2) r
  have k2 := evalArgsK (f := f) (Q := fun a s₁ => wpAny (model G.prog G.w) A (call f ([] ++ a.pos) a.kw) Q E s₁) hplain key
  cases hm with
  | builtin id => exact Calls.callWith_builtin hplain k2
  | type T => exact PyProof.Rows.callWith_type hplain k2
theorem Ev.callE {fe : Expr} {f : Value} {pos : Pos} {args : List Expr} {ds : List D} {d : D} (hfe : Ev G n env Γ fe (.val f)) (hm : IsMachine f) (hf : BuOk G n f ds d) (ha : Al G n env Γ pos args ds)
    (hplain : (backTo pos (starEach args env)).any (·.1) = false := by rfl)
    (he : eval (.Call fe args [] pos) env = (eval fe env >>= fun f => callWith pos f [] (backTo pos (starEach args env)) []) := by rfl) : Ev G n env Γ (.Call fe args [] pos) d := by
  intro h₀ S s F
  rw [he]
  refine W.bind (hfe h₀ S s F) fun v S1 s1 X1 e1 => ?_
  obtain rfl : v = f := e1
  exact callB hm hf ha hplain (F.ext X1)
theorem Ev.callB {x : Str} {px pos : Pos} {f : Value} {args : List Expr} {ds : List D} {d : D} (e : nsIn G.K mainGlobals x = some none) (hv : bootBuiltins x = some f) (hm : IsMachine f) (hf : BuOk G n f ds d)
    (ha : Al G n env Γ pos args ds) (hx : env.kindOf x = some .globalImplicit := by rfl) (hn : x ≠ "__name__" := by decide) (hd : (x == ("__debug__" : Str)) = false := by decide) (hplain : (backTo pos (starEach args env)).any (·.1) = false := by rfl) :
    Ev G n env Γ (.Call (.Name x px) args [] pos) d :=
  Ev.callE (Ev.built e hv hn hx hd) hm hf ha hplain rfl
/-- a call of a def or class that a name holds -/
theorem Ev.callV {x : Str} {px pos : Pos} {f : Value} {args : List Expr} {ds : List D} {d : D} {k : Nat} (hv : Γ.vars.lookup x = some (.val f)) (hk : keepIn G.K f = true) (hf : FnOk G k f ds d) (hkn : k ≤ n)
    (ha : Al G n env Γ pos args ds) (hd : (x == ("__debug__" : Str)) = false := by decide) (hplain : (backTo pos (starEach args env)).any (·.1) = false := by rfl) :
    Ev G n env Γ (.Call (.Name x px) args [] pos) d := by
  intro h₀ S s F
  refine W.bind (t := eval (.Name x px) env) (R := fun _ v => v = f) ?_ fun v S1 s1 X1 e1 => ?_
  · exact (Ev.name hv hd : Ev G n env Γ (.Name x px) (.val f)) h₀ S s F
  · subst e1
    exact callK (fs := []) hk hf hkn ha hplain (F.ext X1) (by unfold RdL; rfl)
/-- self.__class__(...) -/
theorem Ev.mclass {o : Expr} {apos pos : Pos} {args : List Expr} {ds : List D} {d dov : D} {C : Addr} {key : Str} {k : Nat} (co : ClsOk G.K C) (io : IsObj G dov C key)
    (ho : Ev G n env Γ o dov) (hf : FnOk G k (.ref C) ds d) (hkn : k ≤ n) (ha : Al G n env Γ pos args ds) {pl : Sem Bool} (hplain : (backTo pos (starEach args env)).any (·.1) = false := by rfl)
    (he : eval (.Call (.Attribute o "__class__" apos) args [] pos) env = (do
      let ov ← eval o env
      standAt apos.atName
      let (f, first) ← holding [ov] (getMethod ov "__class__" pl)
      callWith pos f first (backTo pos (starEach args env)) (backToKw pos (keywordEach [] env))) := by rfl) : Ev G n env Γ (.Call (.Attribute o "__class__" apos) args [] pos) d := by
  refine mcall ho (fun pl h₀ S s ov A Q E F r hA q => ?_) he
  obtain ⟨x, rfl, ⟨dx, oo, v, I, lk⟩⟩ := io.inst r F.sub
  have X := F.gd.X F.sub
  refine method_usual X I co.ga co.gt co.cl (by kernel_rfl) ?_
  refine get_bind X I co.ga (findObj_data (by obtain ⟨cd, hc, _⟩ := any_some co.hd; rw [hc]; rfl) co.cl co.cg co.ct) co.gt ?_
  have P := Ext.tok F.sub (s.toks + 1)
  exact wpAny_call (class_get (s := { s with toks := s.toks + 1 }) X I co.mo (handed_on rfl
    (callK (fs := []) co.keep hf hkn ha hplain (F.ext P) (by unfold RdL; rfl) A Q E hA fun v S' s' X' r => q v S' s' (P.trans X') r)))
/-! ranges -/
theorem BuOk.range1 {a : Int} : BuOk G n (.type "range") [.int a] (.rng 0 a 1) := by
  intro S s vs g k r A Q E hA q
  unfold RdL at r
  obtain ⟨v, w, rfl, ⟨t, rfl⟩, r⟩ := r
  unfold RdL at r; subst r
  refine call_range_1 (q _ (S.put s.heap.objs.size _) _ (Ext.push k _ rfl _) ?_)
  unfold Rd
  exact ⟨_, rfl, _, _, _, Gh.put_self ..⟩
theorem BuOk.range2 {a b : Int} : BuOk G n (.type "range") [.int a, .int b] (.rng a b 1) := by
  intro S s vs g k r A Q E hA q
  unfold RdL at r
  obtain ⟨v, w, rfl, ⟨t, rfl⟩, r⟩ := r
  unfold RdL at r
  obtain ⟨v, w, rfl, ⟨u, rfl⟩, r⟩ := r
  unfold RdL at r; subst r
  refine call_range_2 (q _ (S.put s.heap.objs.size _) _ (Ext.push k _ rfl _) ?_)
  unfold Rd
  exact ⟨_, rfl, _, _, _, Gh.put_self ..⟩
theorem BuOk.range3 {a b c : Int} (hc : c ≠ 0) (hp : Builtin.divisionGoesByPylong (b - a) c = false := by exact PyProof.noPylong_of_log2 (by decide +kernel)) : BuOk G n (.type "range") [.int a, .int b, .int c] (.rng a b c) := by
  intro S s vs g k r A Q E hA q
  unfold RdL at r
  obtain ⟨v, w, rfl, ⟨t, rfl⟩, r⟩ := r
  unfold RdL at r
  obtain ⟨v, w, rfl, ⟨u, rfl⟩, r⟩ := r
  unfold RdL at r
  obtain ⟨v, w, rfl, ⟨x, rfl⟩, r⟩ := r
  unfold RdL at r; subst r
  refine call_range_3 hc (q _ (S.put s.heap.objs.size _) _ (Ext.push k _ rfl _) ?_) (.inl hp)
  unfold Rd
  exact ⟨_, rfl, _, _, _, Gh.put_self ..⟩
/-! displays -/
theorem newSeq {S : Gh} {s : Shared} {vs : List Value} {T : String} (k : HLe S s.heap.get?) {P : Value → Shared → Prop}
    (q : ∀ S' s', Ext S s S' s' → (∃ o, S' s.heap.objs.size = some o ∧ o.cls = .type T ∧ ∃ n, o.data = .seq vs.toArray n) → P (.ref s.heap.objs.size) s') :
    P (.ref s.heap.objs.size) { s with heap := s.heap.push { cls := .type T, data := .seq vs.toArray } } :=
  q (S.put s.heap.objs.size _) _ (Ext.push (s := s) k { cls := .type T, data := .seq vs.toArray } rfl s.toks) ⟨_, Gh.put_self .., rfl, _, rfl⟩
theorem Ev.tuple {es : List Expr} {k : Nat} {pos : Pos} {ds : List D} (ha : Al G n env Γ pos es ds) (hsz : ds.length ≤ sizeLine := by decide) : Ev G n env Γ (.Tuple es k pos) (.tup ds) := by
  intro h₀ S s F A Q E hA q
  refine Tuple_ (ha h₀ S s F A _ E hA fun vs S1 s1 X1 rs => ?_)
  refine wpAny_newTuple ?_ (by rw [rs.len]; exact hsz)
  refine newSeq X1.sub (P := Q) fun S' s' X' ⟨o, e, t⟩ => q _ S' s' (X1.trans X') ?_
  unfold Rd
  exact ⟨_, _, rfl, ⟨o, e, t⟩, by simpa using RdL.le X'.le _ _ rs⟩
theorem Ev.list {es : List Expr} {pos : Pos} {ds : List D} (ha : Al G n env Γ pos es ds) (hsz : ds.length ≤ sizeLine := by decide) : Ev G n env Γ (.List es pos) (.lst ds) := by
  intro h₀ S s F A Q E hA q
  refine List_ (ha h₀ S s F A _ E hA fun vs S1 s1 X1 rs => ?_)
  refine wpAny_newList ?_ (by rw [rs.len]; exact hsz)
  refine newSeq X1.sub (P := Q) fun S' s' X' ⟨o, e, t⟩ => q _ S' s' (X1.trans X') ?_
  unfold Rd
  exact ⟨_, _, rfl, ⟨o, e, t⟩, by simpa using RdL.le X'.le _ _ rs⟩
/-! items -/
theorem RdL.get {S : Gh} : ∀ {ds : List D} {vs : List Value} {i : Nat} {d : D}, RdL G S ds vs → ds[i]? = some d → ∃ v, vs[i]? = some v ∧ Rd G S d v
  | [], _, _, _, _, e => by simp at e
  | d :: ds, vs, 0, d', h, e => by
    unfold RdL at h
    obtain ⟨v, r, rfl, a, b⟩ := h
    simp at e; subst e
    exact ⟨v, rfl, a⟩
  | d :: ds, vs, i + 1, d', h, e => by
    unfold RdL at h
    obtain ⟨v, r, rfl, a, b⟩ := h
    simp at e
    obtain ⟨w, e', c⟩ := RdL.get b e
    exact ⟨w, by simpa using e', c⟩
/-- the item of a value -/
def It (G : Gx) (n : Nat) (do_ di d : D) : Prop :=
  ∀ (S : Gh) (s : Shared) (o i : Value) (value slice : Expr), Gd G S → HLe S s.heap.get? → Rd G S do_ o → Rd G S di i → (∃ ops, subscripted slice false o i = operate ops (getItem o i)) →
    W G n S s (subscriptTail value slice o i) fun S' v => Rd G S' d v
theorem Ev.item {v sl : Expr} {pos : Pos} {do_ di d : D} (ho : Ev G n env Γ v do_) (hi : Ev G n env Γ sl di) (it : It G n do_ di d)
    (hs : ∀ o i, ∃ ops, subscripted sl false o i = operate ops (getItem o i) := by intro _ _; exact ⟨_, rfl⟩) : Ev G n env Γ (.Subscript v sl pos) d := by
  intro h₀ S s F A Q E hA q
  refine Subscript_ (ho h₀ S s F A _ E hA fun o S1 s1 X1 ro => hi h₀ S1 s1 (F.ext X1) A _ E hA fun i S2 s2 X2 ri => ?_)
  exact it S2 s2 o i v sl (F.gd.le (X1.le.trans X2.le)) X2.sub (Rd.le X2.le _ _ ro) ri (hs o i) A Q E hA fun v S3 s3 X3 r => q v S3 s3 ((X1.trans X2).trans X3) r
theorem seqIndex?_nn {k : Int} {m : Nat} (h0 : 0 ≤ k) (h1 : k < m) : seqIndex? k m = some k.toNat := by
  unfold seqIndex?
  simp only []
  first | (rw [if_neg (by omega), if_pos (by omega)]) | (simp; omega)
theorem seqIndex?_neg {k : Int} {m : Nat} (h0 : k < 0) (h1 : 0 ≤ k + m) : seqIndex? k m = some (k + m).toNat := by
  unfold seqIndex?
  simp only []
  first | (rw [if_pos (by omega), if_pos (by omega)]) | (simp; omega)
theorem It.tup {ds : List D} {i : Int} {j : Nat} {d : D} (hj : seqIndex? i ds.length = some j) (hd : ds[j]? = some d) (h1 : -(2 ^ 63) ≤ i := by decide) (h2 : i < 2 ^ 63 := by decide) : It G n (.tup ds) (.int i) d := by
  intro S s o iv value slice g k ro ri hs A Q E hA q
  unfold Rd at ro
  obtain ⟨a, vs, rfl, ht, rl⟩ := ro
  obtain ⟨t, rfl⟩ := ri
  obtain ⟨v, hv, r⟩ := rl.get hd
  have T := ht.is k
  have hz : vs.size = ds.length := by rw [← rl.length, Array.length_toList]
  obtain ⟨ops, hs⟩ := hs
  exact tail_any T.typeIs slot_tuple_getitem.lookup (getItem_tuple T h1 h2 (by rw [hz]; exact hj) (by simpa using hv) (q v S s (Ext.refl k) r)) hs
theorem It.lst {ds : List D} {i : Int} {d : D} (h0 : 0 ≤ i) (h2 : i < 2 ^ 63) (hd : ds[i.toNat]? = some d) : It G n (.lst ds) (.int i) d := by
  intro S s o iv value slice g k ro ri hs A Q E hA q
  unfold Rd at ro
  obtain ⟨a, vs, rfl, ht, rl⟩ := ro
  obtain ⟨t, rfl⟩ := ri
  obtain ⟨v, hv, r⟩ := rl.get hd
  have T := ht.is k
  obtain ⟨ops, hs⟩ := hs
  exact tail_any T.typeIs slot_list_getitem.lookup (wpAny_getItem_list T h0 h2 (by simpa using hv) (q v S s (Ext.refl k) r)) hs
theorem It.lstNeg {ds : List D} {i : Int} {d : D} (h0 : i < 0) (h1 : 0 ≤ i + ds.length) (h2 : ds.length < 2 ^ 63) (hd : ds[(i + ds.length).toNat]? = some d) : It G n (.lst ds) (.int i) d := by
  intro S s o iv value slice g k ro ri hs A Q E hA q
  unfold Rd at ro
  obtain ⟨a, vs, rfl, ht, rl⟩ := ro
  obtain ⟨t, rfl⟩ := ri
  obtain ⟨v, hv, r⟩ := rl.get hd
  have T := ht.is k
  have hz : vs.size = ds.length := by rw [← rl.length, Array.length_toList]
  obtain ⟨ops, hs⟩ := hs
  refine tail_any T.typeIs slot_list_getitem.lookup (wpAny_getItem_list_neg (x := v) T h0 (by rw [hz]; omega) (by omega) ?_ (q v S s (Ext.refl k) r)) hs
  rw [hz]; simpa using hv
/-! lengths -/
theorem BuOk.lenTup {ds : List D} (h : ds.length < 2 ^ 63) : BuOk G n (.builtin "len") [.tup ds] (.int ds.length) := by
  intro S s vs g k r A Q E hA q
  unfold RdL at r
  obtain ⟨v, w, rfl, ro, r⟩ := r
  unfold RdL at r; subst r
  unfold Rd at ro
  obtain ⟨a, vs, rfl, ht, rl⟩ := ro
  have hz : vs.size = ds.length := by rw [← rl.length, Array.length_toList]
  have T := ht.is k
  refine PyProof.Rows.len_tuple (s := s) T (by rw [hz]; omega) ?_
  exact q _ S _ (Ext.tok k _) ⟨_, by rw [hz]⟩
theorem BuOk.lenLst {ds : List D} (h : ds.length < 2 ^ 63) : BuOk G n (.builtin "len") [.lst ds] (.int ds.length) := by
  intro S s vs g k r A Q E hA q
  unfold RdL at r
  obtain ⟨v, w, rfl, ro, r⟩ := r
  unfold RdL at r; subst r
  unfold Rd at ro
  obtain ⟨a, vs, rfl, ht, rl⟩ := ro
  have hz : vs.size = ds.length := by rw [← rl.length, Array.length_toList]
  have T := ht.is k
  refine Calls.call_len_list (s := s) T (by rw [hz]; omega) ?_
  exact q _ S _ (Ext.tok k _) ⟨_, by rw [hz]⟩
end
section
variable {G : Gx} {n : Nat} {env : Env} {Γ Γ1 : Cx} {P : Out → Prop} {rest : List Stmt}
/-! more statements -/
theorem Ex.aug {x : Str} {px pos : Pos} {op : Operator} {e : Expr} {dx dv d : D} (hx : Γ.vars.lookup x = some dx) (he : Ev G n env Γ e dv) (ho : B2 G n (inplaceOp op) dx dv d) (k : Ex G n env (Γ.set x d) rest P)
    (hk : Kind env x := by first | exact .inl rfl | exact .inr rfl) : Ex G n env Γ (.AugAssign (.Name x px) op e pos :: rest) P := by
  refine Ex.cons fun h₀ S s F A Q E hA q => ?_
  obtain ⟨m, hn, hS, hv, _⟩ := F.fr
  obtain ⟨v, r, V⟩ := hv x dx hx
  refine wpAny_AugAssign_Name (V.load hn F.kind (he h₀ S s F A _ E hA fun w S1 s1 X1 rw_ => ho S1 s1 v w (F.gd.le X1.le) X1.sub (Rd.le X1.le _ _ r) rw_ A _ E hA fun z S2 s2 X2 rz => ?_))
  exact (F.ext (X1.trans X2)).store hk rz fun s3 X3 F3 => q (.next _) .next S2 s3 k F3 (((X1.trans X2).toB F.base).trans X3)
theorem Ex.assignT {t e : Expr} {pos : Pos} {d : D} (he : Ev G n env Γ e d) (ht : As G n env Γ t d Γ1) (k : Ex G n env Γ1 rest P)
    (hs : swapsWithSole [t] e pos.line env = pure false := by rfl) (hw : swappedStores [t] e env = pure none := by rfl) (ha : (assignEach [t] env).map (·.2) = [PySem.assign t env] := by rfl) :
    Ex G n env Γ (.Assign [t] e pos :: rest) P := by
  refine Ex.cons fun h₀ S s F A Q E hA q => ?_
  refine wpAny_Assign_stores (he h₀ S s F A _ E hA fun v S1 s1 X1 r => ?_) hs hw
  rw [ha]
  exact ht h₀ S1 s1 v A _ E (F.ext X1) r hA fun S2 s2 F2 X2 => q (.next _) .next S2 s2 k F2 ((X1.toB F.base).trans X2)
/-- the stores of names in the other order -/
def AsN (G : Gx) (n : Nat) (env : Env) (Γ : Cx) (xs : List Str) (ds : List D) (Γ' : Cx) : Prop :=
  ∀ (B S : Gh) (s : Shared) (vs : List Value) (A : Around) (Q : Unit → Shared → Prop) (E : Value → Shared → Prop), FrR G B env S Γ s → RdL G S ds vs → Amb n A →
    (∀ S' s', FrR G B env S' Γ' s' → ExtB B S s S' s' → Q () s') → wpAny (model G.prog G.w) A (assignInOrder (xs.map fun n => bindName env n) vs) Q E s
theorem AsN.nil : AsN G n env Γ [] [] Γ := by
  intro B S s vs A Q E F r hA q
  unfold RdL at r; subst r
  exact wpAny_pure (q S s F ExtB.rfl')
theorem AsN.cons {x : Str} {xs : List Str} {d : D} {ds : List D} (k : AsN G n env (Γ.set x d) xs ds Γ1) (hk : Kind env x := by first | exact .inl rfl | exact .inr rfl) : AsN G n env Γ (x :: xs) (d :: ds) Γ1 := by
  intro B S s vs A Q E F r hA q
  unfold RdL at r
  obtain ⟨v, r', rfl, a, b⟩ := r
  show wpAny _ A (assignInOrder (bindName env x :: xs.map fun n => bindName env n) (v :: r')) _ _ _
  refine wpAny_assignInOrder_more ?_
  have hb : wpAny (model G.prog G.w) A (storeName env x v) (fun _ s1 => wpAny (model G.prog G.w) A (assignInOrder (xs.map fun n => bindName env n) r') Q E s1) E s :=
    F.store hk a fun s1 X1 F1 => k B S s1 r' A Q E F1 b hA fun S2 s2 F2 X2 => q S2 s2 F2 (X1.trans X2)
  first
    | exact wpAny_bindName hb
    | (unfold bindName; exact wpAny_holding hb)
theorem RdL.rev {S : Gh} : ∀ {ds : List D} {vs : List Value}, RdL G S ds vs → RdL G S ds.reverse vs.reverse := by
  have app : ∀ (a b : List D) {va vb : List Value}, RdL G S a va → RdL G S b vb → RdL G S (a ++ b) (va ++ vb) := by
    intro a
    induction a with
    | nil => intro b va vb h1 h2; unfold RdL at h1; subst h1; exact h2
    | cons d a ih =>
      intro b va vb h1 h2
      unfold RdL at h1
      obtain ⟨v, r, rfl, x, y⟩ := h1
      exact RdL.cons x (ih b y h2)
  intro ds
  induction ds with
  | nil => intro vs h; unfold RdL at h; subst h; exact RdL.nil
  | cons d ds ih =>
    intro vs h
    unfold RdL at h
    obtain ⟨v, r, rfl, x, y⟩ := h
    rw [List.reverse_cons, List.reverse_cons]
    exact app _ _ (ih y) (RdL.cons x RdL.nil)
theorem Ex.assignS {elts : List Expr} {k₁ : Nat} {tpos pos : Pos} {e : Expr} {xs : List Str} {ds : List D} (he : Ev G n env Γ e (.tup ds)) (hw : swappedStores [.Tuple elts k₁ tpos] e env = pure (some xs)) (hl : xs.length = ds.length)
    (ht : AsN G n env Γ xs.reverse ds.reverse Γ1) (k : Ex G n env Γ1 rest P) (hs : swapsWithSole [.Tuple elts k₁ tpos] e pos.line env = pure false := by rfl) :
    Ex G n env Γ (.Assign [.Tuple elts k₁ tpos] e pos :: rest) P := by
  refine Ex.cons fun h₀ S s F A Q E hA q => ?_
  refine Assign_Tuple_swapped (names := xs) (he h₀ S s F A _ E hA fun v S1 s1 X1 r => ?_) hs hw
  unfold Rd at r
  obtain ⟨a, vs, rfl, tt, rl⟩ := r
  have hz : vs.size = xs.length := by rw [hl, ← rl.length, Array.length_toList]
  rw [← hz]
  refine wpAny_unpackItems_tuple hA.hd (tt.is X1.sub) fun h' he' => ?_
  have kk : HLe s1.heap.get? h'.get? := fun b o e => he' b o (Nat.ne_of_lt (Heap.lt_size e)) e
  have X2 : Ext S1 s1 S1 { s1 with heap := h' } := ⟨HLe.refl _, X1.sub.trans kk, fun _ _ _ e => e, kk, rfl, #[], by simp, AllBare.empty⟩
  exact ht h₀ S1 _ _ A _ E ((F.ext X1).ext X2) rl.rev hA fun S3 s3 F3 X3 => q (.next _) .next S3 s3 k F3 (((X1.trans X2).toB F.base).trans X3)
end
/-! what can be iterated -/
theorem letGo_no {prog : Program} {w : World} {A : Around} {E : Value → Shared → Prop} {s : Shared} {t : Expr} {v : Value} {I : Addr} {o : Obj} {T : String} {Q : Unit → Shared → Prop} (ho : s.heap.get? I = some o) (hc : o.cls = .type T)
    (hT : ["enumerate", "zip", "dict_itemiterator", "dict_reverseitemiterator", "odict_iterator", "itertools.zip_longest", "itertools.pairwise"].contains T = false) (hQ : Q () s) :
    wpAny (model prog w) A (letOwnedTupleGo t (.ref I) v) Q E s := by
  have key : ∀ a, wpAny (model prog w) A (do
      let o ← load I
      match o.cls, o.data with
      | .type n, .fields vs =>
        if ["enumerate", "zip", "dict_itemiterator", "dict_reverseitemiterator", "odict_iterator", "itertools.zip_longest", "itertools.pairwise"].contains n && vs[0]? == some (rawInt a) then
          rule "for.unpacks-the-owned-tuple"
          updateField I 0 .none
      | _, _ => pure ()) Q E s := by
    intro a
    refine wpAny_bind (wpAny_load ho ?_)
    rw [hc]
    cases hd : o.data with
    | fields vs =>
      dsimp only
      rw [hT, Bool.false_and, if_neg Bool.false_ne_true]
      exact wpAny_pure hQ
    | _ => exact wpAny_pure hQ
  unfold letOwnedTupleGo
  cases t with
  | Tuple a b c => cases v <;> first | exact key _ | exact wpAny_pure hQ
  | List a b => cases v <;> first | exact key _ | exact wpAny_pure hQ
  | _ => exact wpAny_pure hQ
theorem Iter.mk1 {G : Gx} {n : Nat} {I : Addr} {S₀ : Gh} {items : List D} {OI : Nat → Obj → Prop}
    (hk : ∀ i o, OI i o → ∀ its k, o.data ≠ .seq its k)
    (hn : ∀ i d S (s : Shared) (A : Around) (Q : Option Value → Shared → Prop) (E : Value → Shared → Prop) o, items[i]? = some d → HLe S₀ S → HLe S s.heap.get? → Amb n A → s.heap.get? I = some o → OI i o →
      (∀ v h' tk o', Rd G S d v → h'.get? I = some o' → OI (i + 1) o' → (∀ b o, b ≠ I → s.heap.get? b = some o → h'.get? b = some o) → Q (some v) { s with heap := h', toks := tk }) → wpAny (model G.prog G.w) A (pyNext (.ref I)) Q E s)
    (hs : ∀ S (s : Shared) (A : Around) (Q : Option Value → Shared → Prop) (E : Value → Shared → Prop) o, HLe S₀ S → HLe S s.heap.get? → Amb n A → s.heap.get? I = some o → OI items.length o →
      (∀ h' tk, (∀ b o, b ≠ I → s.heap.get? b = some o → h'.get? b = some o) → Q none { s with heap := h', toks := tk }) → wpAny (model G.prog G.w) A (pyNext (.ref I)) Q E s)
    (hg : ∀ i o, OI i o → ∃ T, o.cls = .type T ∧ ["enumerate", "zip", "dict_itemiterator", "dict_reverseitemiterator", "odict_iterator", "itertools.zip_longest", "itertools.pairwise"].contains T = false) :
    Iter G n (.ref I) [I] [] (fun l S s => ∃ i o, l = items.drop i ∧ i ≤ items.length ∧ HLe S₀ S ∧ S I = none ∧ s.heap.get? I = some o ∧ OI i o) where
  frame := by
    rintro l S s S' s' ⟨i, o, e, hi, h0, hI, ho, oi⟩ hle hsub hfp hfr hgens
    exact ⟨i, o, e, hi, h0.trans hle, hfr I (by simp) o ho hI, hfp I (by simp) o ho, oi⟩
  kind := by
    rintro l S s ⟨i, o, e, hi, h0, hI, ho, oi⟩ b hb o' ho'
    simp only [List.mem_singleton] at hb
    subst hb
    rw [ho] at ho'; cases ho'
    exact hk i o oi
  bare := by rintro l S s _ i hi; cases hi
  next := by
    rintro d l S s A Q E ⟨i, o, e, hi, h0, hI, ho, oi⟩ g k hA q
    have hlt : i < items.length := by
      apply Classical.byContradiction; intro hh
      rw [List.drop_eq_nil_of_le (by omega)] at e; cases e
    rw [List.drop_eq_getElem_cons hlt] at e
    cases e
    refine hn i _ S s A Q E o (List.getElem?_eq_getElem hlt) h0 k hA ho oi fun v h' tk o' r ho' oi' hkeep => ?_
    have kk : HLe S h'.get? := fun b ob eb => hkeep b ob (fun z => by rw [z, hI] at eb; cases eb) (k b ob eb)
    exact q v S _ r ⟨i + 1, o', rfl, hlt, h0, hI, ho', oi'⟩ ⟨HLe.refl _, kk, fun _ _ _ e => e, fun b ob hb eb => hkeep b ob (fun z => hb (by simp [z])) eb, rfl, GnMv.refl' (by simp)⟩
  stop := by
    rintro S s A Q E ⟨i, o, e, hi, h0, hI, ho, oi⟩ g k hA q
    have e' : i = items.length := by
      apply Classical.byContradiction; intro hh
      rw [List.drop_eq_getElem_cons (by omega)] at e; cases e
    subst e'
    refine hs S s A Q E o h0 k hA ho oi fun h' tk hkeep => ?_
    have kk : HLe S h'.get? := fun b ob eb => hkeep b ob (fun z => by rw [z, hI] at eb; cases eb) (k b ob eb)
    exact q S _ ⟨HLe.refl _, kk, fun _ _ _ e => e, fun b ob hb eb => hkeep b ob (fun z => hb (by simp [z])) eb, rfl, GnMv.refl' (by simp)⟩
  go := by
    rintro t v l S s A Q E ⟨i, o, e, hi, h0, hI, ho, oi⟩ g k hA q
    obtain ⟨T, hc, hT⟩ := hg i o oi
    exact letGo_no ho hc hT (q S s ⟨i, o, e, hi, h0, hI, ho, oi⟩ ⟨HLe.refl _, k, fun _ _ _ e => e, fun _ _ _ e => e, rfl, GnMv.refl' (by simp)⟩)
/-- a value that can be iterated -/
def Itb (G : Gx) (n : Nat) (d : D) (l : List D) : Prop :=
  ∀ (S : Gh) (s : Shared) (x : Value) (A : Around) (Q : Value → Shared → Prop) (E : Value → Shared → Prop), Gd G S → HLe S s.heap.get? → Rd G S d x → Amb n A →
    (∀ it fp gi J S' s', Iter G n it fp gi J → J l S' s' → (∀ b ∈ fp, s.heap.get? b = none) → (∀ i ∈ gi, s.gens.size ≤ i) → Ext S s S' s' → Q it s') → wpAny (model G.prog G.w) A (pyIter x) Q E s
theorem Iv.of {G : Gx} {n : Nat} {env : Env} {Γ : Cx} {e : Expr} {d : D} {l : List D} (he : Ev G n env Γ e d) (h : Itb G n d l) : Iv G n env Γ e l := by
  intro B S s A Q E F hA q
  refine he B S s F A _ E hA fun x S1 s1 X1 r => h S1 s1 x A Q E (F.gd.le X1.le) X1.sub r hA fun it fp gi J S2 s2 IT hJ hfp hgi X2 => q it fp gi J S2 s2 IT hJ (fun b hb => ?_) (fun i hi => ?_) (X1.trans X2)
  · cases z : s.heap.get? b with
    | none => rfl
    | some o => have := hfp b hb; rw [X1.heap b o z] at this; cases this
  · have := hgi i hi
    obtain ⟨l, e, _⟩ := X1.gens
    rw [e, Array.size_append] at this
    omega
/-- the ghost heap leaves what is new -/
theorem Ext.pushG {S : Gh} {s : Shared} (h : HLe S s.heap.get?) (o : Obj) (t : Nat) : Ext S s S { s with heap := s.heap.push o, toks := t } :=
  ⟨HLe.refl _, h.trans (HLe.push _ _), fun _ _ _ e => e, HLe.push _ _, rfl, #[], by simp, AllBare.empty⟩
theorem none_new {S : Gh} {s : Shared} (h : HLe S s.heap.get?) : S s.heap.objs.size = none := by
  cases z : S s.heap.objs.size with
  | none => rfl
  | some o => exact absurd (Heap.lt_size (h _ _ z)) (Nat.lt_irrefl _)
theorem get_new {s : Shared} : s.heap.get? s.heap.objs.size = none := by
  cases z : s.heap.get? s.heap.objs.size with
  | none => rfl
  | some o => exact absurd (Heap.lt_size z) (Nat.lt_irrefl _)
theorem Itb.lst {G : Gx} {n : Nat} {l : List D} : Itb G n (.lst l) l := by
  intro S s x A Q E g k r hA q
  unfold Rd at r
  obtain ⟨a, vs, rfl, ht, rl⟩ := r
  refine wpAny_pyIter_list (ht.is k) ?_
  refine q _ [s.heap.objs.size] [] _ S _ (Iter.mk1 (S₀ := S) (items := l) (OI := fun i o => o.cls = .type "list_iterator" ∧ o.data = .fields #[.ref a, rawInt i]) (fun i o h its kk => by rw [h.2]; intro z; cases z) ?_ ?_ (fun i o h => ⟨_, h.1, by decide⟩))
    ⟨0, _, rfl, Nat.zero_le _, HLe.refl _, none_new k, Heap.get?_push_size _ rfl, rfl, rfl⟩ (by simp; exact get_new) (by simp) (Ext.pushG k _ _)
  · intro i d S1 s1 A Q E o hd h0 h1 hA ho oi q
    obtain ⟨v, hv, r⟩ := rl.get hd
    refine wpAny_pyNext_list_item (it := s.heap.objs.size) (l := a) (i := i) (x := v) ⟨o, ho, oi.1, oi.2⟩ (LstAt.is (isList_le ht h0) h1) (by simpa using hv) fun h' hit' hs' => ?_
    obtain ⟨o', ho', c', d'⟩ := hit'
    exact q v h' s1.toks o' (Rd.le h0 _ _ r) ho' ⟨c', d'⟩ fun b o hb e => hs'.extBut b o hb e
  · intro S1 s1 A Q E o h0 h1 hA ho oi q
    have hz : vs.size = l.length := by rw [← rl.length, Array.length_toList]
    exact wpAny_pyNext_list_end (it := s.heap.objs.size) (l := a) (i := l.length) hA.hd ⟨o, ho, oi.1, oi.2⟩ (LstAt.is (isList_le ht h0) h1) (by rw [← hz]; simp) fun h' he' => q h' s1.toks he'
theorem Itb.tup {G : Gx} {n : Nat} {l : List D} : Itb G n (.tup l) l := by
  intro S s x A Q E g k r hA q
  unfold Rd at r
  obtain ⟨a, vs, rfl, ht, rl⟩ := r
  refine wpAny_pyIter_tuple (ht.is k) ?_
  refine q _ [s.heap.objs.size] [] _ S _ (Iter.mk1 (S₀ := S) (items := l) (OI := fun i o => o.cls = .type "tuple_iterator" ∧ o.data = .fields #[.ref a, rawInt i]) (fun i o h its kk => by rw [h.2]; intro z; cases z) ?_ ?_ (fun i o h => ⟨_, h.1, by decide⟩))
    ⟨0, _, rfl, Nat.zero_le _, HLe.refl _, none_new k, Heap.get?_push_size _ rfl, rfl, rfl⟩ (by simp; exact get_new) (by simp) (Ext.pushG k _ _)
  · intro i d S1 s1 A Q E o hd h0 h1 hA ho oi q
    obtain ⟨v, hv, r⟩ := rl.get hd
    refine wpAny_pyNext_tuple_item (it := s.heap.objs.size) (t := a) (i := i) (x := v) ⟨o, ho, oi.1, oi.2⟩ (TupAt.is (isTup_le ht h0) h1) (by simpa using hv) fun h' hit' hs' => ?_
    obtain ⟨o', ho', c', d'⟩ := hit'
    exact q v h' s1.toks o' (Rd.le h0 _ _ r) ho' ⟨c', d'⟩ fun b o hb e => hs'.extBut b o hb e
  · intro S1 s1 A Q E o h0 h1 hA ho oi q
    have hz : vs.size = l.length := by rw [← rl.length, Array.length_toList]
    exact wpAny_pyNext_tuple_end (it := s.heap.objs.size) (t := a) (i := l.length) hA.hd ⟨o, ho, oi.1, oi.2⟩ (TupAt.is (isTup_le ht h0) h1) (by rw [← hz]; simp) fun h' he' => q h' s1.toks he'
/-- what a range gives -/
def rngL (a b c : Int) : List D := (List.range (Builtin.Range.rangeSize a b c).toNat).map fun i => .int (a + (i : Nat) * c)
theorem Itb.rng {G : Gx} {n : Nat} {a b c : Int} (hsm : Builtin.Range.small a b c = true) : Itb G n (.rng a b c) (rngL a b c) := by
  intro S s x A Q E g k r hA q
  unfold Rd at r
  obtain ⟨r, rfl, t, u, v, hr⟩ := r
  have h0 : 0 ≤ Builtin.Range.rangeSize a b c := by
    unfold Builtin.Range.rangeSize
    have nn : ∀ x y : Int, 0 ≤ x → 0 ≤ y → 0 ≤ x / y + 1 := fun x y hx hy => by have := Int.ediv_nonneg hx hy; omega
    split <;> split <;> first | omega | (apply nn <;> omega)
  refine wpAny_pyIter_range (k _ _ hr) hsm ?_
  have hL : (rngL a b c).length = (Builtin.Range.rangeSize a b c).toNat := by unfold rngL; rw [List.length_map, List.length_range]
  refine q _ [s.heap.objs.size] [] _ S _ (Iter.mk1 (S₀ := S) (items := rngL a b c) (OI := fun i o => o = { cls := .type "range_iterator", dict := none, data := .fields #[rawInt (a + (i : Nat) * c), rawInt (Builtin.Range.rangeSize a b c - (i : Nat)), rawInt c], slots := #[] })
      (fun i o h its kk => by subst h; intro z; cases z) ?_ ?_ (fun i o h => ⟨_, by subst h; rfl, by decide⟩))
    ⟨0, _, rfl, Nat.zero_le _, HLe.refl _, none_new k, Heap.get?_push_size _ rfl, by simp⟩ (by simp; exact get_new) (by simp) (Ext.pushG k _ _)
  · intro i d S1 s1 A Q E o hd h0' h1 hA ho oi q
    subst oi
    have hi : i < (Builtin.Range.rangeSize a b c).toNat := by
      have := List.getElem?_eq_some_iff.mp hd
      obtain ⟨h, _⟩ := this
      omega
    refine wpAny_pyNext_range_item (it := s.heap.objs.size) ho (by omega) fun h' hit' hs' => ?_
    refine q _ h' _ _ ?_ hit' ?_ fun b o hb e => hs'.extBut b o hb e
    · unfold rngL at hd
      rw [List.getElem?_map, List.getElem?_range hi] at hd
      cases hd
      exact Rd.int
    · have e1 : a + (i : Int) * c + c = a + ((i + 1 : Nat) : Int) * c := by push_cast; rw [Int.add_mul, Int.one_mul, Int.add_assoc]
      have e2 : Builtin.Range.rangeSize a b c - (i : Int) - 1 = Builtin.Range.rangeSize a b c - ((i + 1 : Nat) : Int) := by push_cast; omega
      rw [e1, e2]
  · intro S1 s1 A Q E o h0' h1 hA ho oi q
    subst oi
    exact wpAny_pyNext_range_end (it := s.heap.objs.size) hA.hd ho (by rw [hL]; omega) fun h' he' => q h' s1.toks he'
end Mine
open PySem PySem.W PyProof.Rows PySem.Calls PySem.SeqAt
set_option Elab.async false
set_option maxRecDepth 100000
set_option linter.unusedVariables false
namespace Mine
/-! equality of data -/
def deqL (f : D → D → Option Bool) : List D → List D → Option Bool
  | [], [] => some true
  | [], _ :: _ => some false
  | _ :: _, [] => some false
  | a :: l, b :: m => match f a b, deqL f l m with
    | some x, some y => some (x && y)
    | _, _ => none
def deq : Nat → D → D → Option Bool
  | 0, _, _ => none
  | k + 1, .int a, .int b => some (a == b)
  | k + 1, .str a, .str b => some (a == b)
  | k + 1, .bool a, .bool b => some (a == b)
  | k + 1, .tup l, .tup m => deqL (deq k) l m
  | k + 1, .lst l, .lst m => deqL (deq k) l m
  | k + 1, .lst l, .none => some false
  | k + 1, _, _ => none
theorem TupAt.det {S : Gh} {a : Addr} {v w : Array Value} (x : TupAt S a v) (y : TupAt S a w) : v = w := by
  obtain ⟨o, e, _, n, d⟩ := x
  obtain ⟨o', e', _, n', d'⟩ := y
  rw [e] at e'; cases e'
  rw [d] at d'; cases d'; rfl
theorem LstAt.det {S : Gh} {a : Addr} {v w : Array Value} (x : LstAt S a v) (y : LstAt S a w) : v = w := by
  obtain ⟨o, e, _, n, d⟩ := x
  obtain ⟨o', e', _, n', d'⟩ := y
  rw [e] at e'; cases e'
  rw [d] at d'; cases d'; rfl
theorem tup_lst {S : Gh} {a : Addr} {v w : Array Value} (x : TupAt S a v) (y : LstAt S a w) : False := by
  obtain ⟨o, e, c, _⟩ := x
  obtain ⟨o', e', c', _⟩ := y
  rw [e] at e'; cases e'
  rw [c] at c'
  exact absurd (Value.type.inj c') (by decide)
theorem deqL_len {f : D → D → Option Bool} : ∀ {l m : List D} {c : Bool}, deqL f l m = some c → l.length ≠ m.length → c = false
  | [], [], _, _, h => (h rfl).elim
  | [], _ :: _, _, h, _ => by simp [deqL] at h; exact h
  | _ :: _, [], _, h, _ => by simp [deqL] at h; exact h
  | a :: l, b :: m, c, h, hn => by
    unfold deqL at h
    split at h
    · rename_i x y e1 e2
      cases h
      rw [deqL_len e2 (by simpa using hn), Bool.and_false]
    · cases h
def dkind : D → Nat
  | .int _ => 1
  | .str _ => 2
  | .bool _ => 3
  | .tup _ => 4
  | .lst _ => 5
  | _ => 0
theorem deq_kind {k : Nat} {d d' : D} {c : Bool} (h : deq k d d' = some c) : dkind d ≠ 0 := by
  cases k with
  | zero => simp [deq] at h
  | succ k => cases d <;> simp [deq, dkind] at h ⊢
theorem deqL_cons {f : D → D → Option Bool} {a b : D} {l m : List D} {c : Bool} (h : deqL f (a :: l) (b :: m) = some c) : ∃ x y, f a b = some x ∧ deqL f l m = some y ∧ c = (x && y) := by
  unfold deqL at h
  split at h
  · rename_i x y e1 e2
    cases h
    exact ⟨x, y, e1, e2, rfl⟩
  · cases h
theorem deq_same {G : Gx} {S : Gh} : ∀ (k : Nat) {d d' : D} {v : Value} {c : Bool}, Rd G S d v → Rd G S d' v → deq k d d' = some c → c = true := by
  intro k
  induction k with
  | zero => intro d d' v c _ _ h; simp [deq] at h
  | succ k ih =>
    have ihL : ∀ {l m : List D} {vs : List Value} {c : Bool}, RdL G S l vs → RdL G S m vs → deqL (deq k) l m = some c → c = true := by
      intro l
      induction l with
      | nil =>
        intro m vs c h1 h2 h
        unfold RdL at h1; subst h1
        cases m with
        | nil => simp [deqL] at h; exact h
        | cons b m => unfold RdL at h2; obtain ⟨_, _, e, _⟩ := h2; cases e
      | cons a l ihl =>
        intro m vs c h1 h2 h
        unfold RdL at h1
        obtain ⟨v, r, rfl, ra, rl⟩ := h1
        cases m with
        | nil => unfold RdL at h2; cases h2
        | cons b m =>
          unfold RdL at h2
          obtain ⟨v', r', e, rb, rm⟩ := h2
          cases e
          obtain ⟨x, y, e1, e2, rfl⟩ := deqL_cons h
          rw [ih ra rb e1, ihl rl rm e2]; rfl
    intro d d' v c h1 h2 h
    cases d <;> cases d' <;> simp only [deq, Option.some.injEq, reduceCtorEq] at h
    case bool.bool a b => rw [← h]; unfold Rd at h1 h2; rw [h1] at h2; cases h2; exact beq_self_eq_true _
    case int.int a b =>
      rw [← h]; unfold Rd at h1 h2
      obtain ⟨t, e⟩ := h1
      obtain ⟨u, e'⟩ := h2
      rw [e] at e'; cases e'; exact beq_self_eq_true _
    case str.str a b =>
      rw [← h]; unfold Rd at h1 h2
      obtain ⟨t, e⟩ := h1
      obtain ⟨u, e'⟩ := h2
      rw [e] at e'; cases e'; exact beq_self_eq_true _
    case tup.tup a b =>
      unfold Rd at h1 h2
      obtain ⟨x, vs, e, t, r⟩ := h1
      obtain ⟨x', vs', e', t', r'⟩ := h2
      rw [e] at e'; cases e'
      rw [t.det t'] at r
      exact ihL r r' h
    case lst.lst a b =>
      unfold Rd at h1 h2
      obtain ⟨x, vs, e, t, r⟩ := h1
      obtain ⟨x', vs', e', t', r'⟩ := h2
      rw [e] at e'; cases e'
      rw [t.det t'] at r
      exact ihL r r' h
    case lst.none a =>
      unfold Rd at h1 h2
      obtain ⟨x, vs, e, t, r⟩ := h1
      rw [h2] at e; cases e
theorem deq_cons {G : Gx} {S : Gh} : ∀ (k : Nat) {d d' dx : D} {v : Value} {c c' : Bool}, Rd G S d v → Rd G S d' v → deq k d dx = some c → deq k d' dx = some c' → c = c' := by
  intro k
  induction k with
  | zero => intro d d' dx v c c' _ _ h; simp [deq] at h
  | succ k ih =>
    have ihL : ∀ {l l' m : List D} {vs : List Value} {c c' : Bool}, RdL G S l vs → RdL G S l' vs → deqL (deq k) l m = some c → deqL (deq k) l' m = some c' → c = c' := by
      intro l
      induction l with
      | nil =>
        intro l' m vs c c' h1 h2 h h'
        unfold RdL at h1; subst h1
        cases l' with
        | nil => rw [h] at h'; cases h'; rfl
        | cons b m => unfold RdL at h2; obtain ⟨_, _, e, _⟩ := h2; cases e
      | cons a l ihl =>
        intro l' m vs c c' h1 h2 h h'
        unfold RdL at h1
        obtain ⟨v, r, rfl, ra, rl⟩ := h1
        cases l' with
        | nil => unfold RdL at h2; cases h2
        | cons b l' =>
          unfold RdL at h2
          obtain ⟨v', r', e, rb, rm⟩ := h2
          cases e
          cases m with
          | nil => simp [deqL] at h h'; rw [h, h']
          | cons x m =>
            obtain ⟨p, q, e1, e2, rfl⟩ := deqL_cons h
            obtain ⟨p', q', e1', e2', rfl⟩ := deqL_cons h'
            rw [ih ra rb e1 e1', ihl rl rm e2 e2']
    intro d d' dx v c c' h1 h2 h h'
    have key : d = d' ∨ (∃ l l', d = .tup l ∧ d' = .tup l') ∨ (∃ l l', d = .lst l ∧ d' = .lst l') := by
      have z := deq_kind h
      have z' := deq_kind h'
      clear h h'
      cases d <;> cases d' <;> first | exact (z rfl).elim | exact (z' rfl).elim | skip
      all_goals unfold Rd at h1 h2
      all_goals try exact .inr (.inl ⟨_, _, rfl, rfl⟩)
      all_goals try exact .inr (.inr ⟨_, _, rfl, rfl⟩)
      case bool.bool => rw [h1] at h2; cases h2; exact .inl rfl
      case int.int => obtain ⟨t, e⟩ := h1; obtain ⟨u, e'⟩ := h2; rw [e] at e'; cases e'; exact .inl rfl
      case str.str => obtain ⟨t, e⟩ := h1; obtain ⟨u, e'⟩ := h2; rw [e] at e'; cases e'; exact .inl rfl
      all_goals first
        | (obtain ⟨t, e⟩ := h1; obtain ⟨u, e'⟩ := h2; rw [e] at e'; cases e'; done)
        | (obtain ⟨t, e⟩ := h1; rw [e] at h2; cases h2; done)
        | (obtain ⟨t, e⟩ := h2; rw [e] at h1; cases h1; done)
        | (obtain ⟨x, vs, e, t, r⟩ := h1; obtain ⟨u, e'⟩ := h2; rw [e] at e'; cases e'; done)
        | (obtain ⟨x, vs, e, t, r⟩ := h2; obtain ⟨u, e'⟩ := h1; rw [e] at e'; cases e'; done)
        | (obtain ⟨x, vs, e, t, r⟩ := h2; rw [e] at h1; cases h1; done)
        | (obtain ⟨x, vs, e, t, r⟩ := h1; rw [e] at h2; cases h2; done)
        | (obtain ⟨x, vs, e, t, r⟩ := h1; obtain ⟨x', vs', e', t', r'⟩ := h2; rw [e] at e'; cases e'; first | exact (tup_lst t t').elim | exact (tup_lst t' t).elim)
    rcases key with rfl | ⟨l, l', rfl, rfl⟩ | ⟨l, l', rfl, rfl⟩
    · rw [h] at h'; cases h'; rfl
    · unfold Rd at h1 h2
      obtain ⟨x, vs, e, t, r⟩ := h1
      obtain ⟨x', vs', e', t', r'⟩ := h2
      rw [e] at e'; cases e'
      rw [t.det t'] at r
      cases dx <;> simp only [deq, reduceCtorEq] at h h'
      exact ihL r r' h h'
    · unfold Rd at h1 h2
      obtain ⟨x, vs, e, t, r⟩ := h1
      obtain ⟨x', vs', e', t', r'⟩ := h2
      rw [e] at e'; cases e'
      rw [t.det t'] at r
      cases dx <;> simp only [deq, reduceCtorEq] at h h'
      · cases h; cases h'; rfl
      · exact ihL r r' h h'
theorem deqL_at {G : Gx} {S : Gh} {f : D → D → Option Bool} : ∀ {l m : List D} {c : Bool} {vs ws : List Value}, deqL f l m = some c → RdL G S l vs → RdL G S m ws →
    ∃ e : Nat → Bool, ((List.range (min vs.length ws.length)).all e && vs.length == ws.length) = c ∧ ∀ j v w, vs[j]? = some v → ws[j]? = some w → ∃ a b, l[j]? = some a ∧ m[j]? = some b ∧ f a b = some (e j) ∧ Rd G S a v ∧ Rd G S b w
  | [], [], c, vs, ws, h, r1, r2 => by
    unfold RdL at r1 r2; subst r1 r2
    simp [deqL] at h; subst h
    exact ⟨fun _ => true, by simp, by simp⟩
  | [], b :: m, c, vs, ws, h, r1, r2 => by
    unfold RdL at r1 r2; subst r1
    obtain ⟨v, r, rfl, _, _⟩ := r2
    simp [deqL] at h; subst h
    exact ⟨fun _ => true, by simp, by simp⟩
  | a :: l, [], c, vs, ws, h, r1, r2 => by
    unfold RdL at r1 r2; subst r2
    obtain ⟨v, r, rfl, _, _⟩ := r1
    simp [deqL] at h; subst h
    exact ⟨fun _ => true, by simp, by simp⟩
  | a :: l, b :: m, c, vs, ws, h, r1, r2 => by
    unfold RdL at r1 r2
    obtain ⟨v, r, rfl, ra, rl⟩ := r1
    obtain ⟨w, r', rfl, rb, rm⟩ := r2
    obtain ⟨x, y, e1, e2, rfl⟩ := deqL_cons h
    obtain ⟨e, he, hj⟩ := deqL_at e2 rl rm
    refine ⟨fun j => match j with | 0 => x | j + 1 => e j, ?_, ?_⟩
    · rw [← he]
      simp only [List.length_cons, Nat.succ_min_succ, List.range_succ_eq_map, List.all_cons, List.all_map]
      have : (r.length + 1 == r'.length + 1) = (r.length == r'.length) := by
        by_cases q : r.length = r'.length
        · rw [q]; simp
        · simp [q]
      rw [this, Bool.and_assoc]
      rfl
    · intro j v' w' hv hw
      cases j with
      | zero =>
        simp at hv hw; subst hv hw
        exact ⟨a, b, rfl, rfl, e1, ra, rb⟩
      | succ j =>
        simp at hv hw
        obtain ⟨a', b', p, q, r, s, t⟩ := hj j v' w' hv hw
        exact ⟨a', b', by simpa using p, by simpa using q, r, s, t⟩
theorem deq_at {G : Gx} {S : Gh} {s : Shared} (hS : HLe S s.heap.get?) : ∀ (k : Nat) {A : Around} {d d' : D} {v w : Value} {c : Bool}, A.units + k < cLine → Rd G S d v → Rd G S d' w → deq k d d' = some c → EqAt A s v w c ∧ (∀ l b, v = .ref l → w = .ref b → RcAt A s v w c ∧ RcNeAt A s v w (!c)) := by
  intro k
  induction k with
  | zero => intro A d d' v w c _ _ _ h; simp [deq] at h
  | succ k ih =>
    intro A d d' v w c hu h1 h2 h
    have hu' : A.units < cLine := by omega
    cases d <;> cases d' <;> simp only [deq, Option.some.injEq, reduceCtorEq] at h
    case bool.bool a b =>
      unfold Rd at h1 h2; subst h1 h2 h
      exact ⟨EqAt.bool_bool a b, fun _ _ e => by cases e⟩
    case int.int a b =>
      unfold Rd at h1 h2
      obtain ⟨t, rfl⟩ := h1
      obtain ⟨u, rfl⟩ := h2
      subst h
      exact ⟨EqAt.int_int a t b u, fun _ _ e => by cases e⟩
    case str.str a b =>
      unfold Rd at h1 h2
      obtain ⟨t, rfl⟩ := h1
      obtain ⟨u, rfl⟩ := h2
      subst h
      exact ⟨EqAt.str_str a t b u, fun _ _ e => by cases e⟩
    case lst.none a =>
      unfold Rd at h1 h2
      obtain ⟨x, vs, rfl, t, r⟩ := h1
      subst h2 h
      exact ⟨EqAt.list_none (t.is hS) hu', fun _ _ _ e => by cases e⟩
    case tup.tup l m =>
      have hsame := fun e : v = w => deq_same (k + 1) (d := .tup l) (d' := .tup m) (c := c) h1 (by rw [e]; exact h2) (by simp only [deq]; exact h)
      unfold Rd at h1 h2
      obtain ⟨x, vs, rfl, t, r⟩ := h1
      obtain ⟨y, ws, rfl, t', r'⟩ := h2
      obtain ⟨e, he, hj⟩ := deqL_at h r r'
      have hu1 : A.in1.units + k < cLine := by show A.units + 1 + k < cLine; omega
      have items : ∀ j (h1 : j < vs.size) (h2 : j < ws.size), EqAt A.in1 s vs[j] ws[j] (e j) := fun j q1 q2 => by
        obtain ⟨a, b, _, _, hf, ra, rb⟩ := hj j vs[j] ws[j] (by simp [q1]) (by simp [q2])
        exact (ih hu1 ra rb hf).1
      have rc := RcAt.tuples (t.is hS) (t'.is hS) hu' items
      have rn := RcNeAt.tuples (t.is hS) (t'.is hS) hu' items
      rw [show ((List.range (min vs.size ws.size)).all e && vs.size == ws.size) = c from by rw [← he]; simp] at rc rn
      refine ⟨?_, fun _ _ _ _ => ⟨rc, rn⟩⟩
      by_cases q : x = y
      · subst q
        rw [hsame rfl]
        exact EqAt.same _
      · exact EqAt.of_refs q rc
    case lst.lst l m =>
      have hsame := fun e : v = w => deq_same (k + 1) (d := .lst l) (d' := .lst m) (c := c) h1 (by rw [e]; exact h2) (by simp only [deq]; exact h)
      unfold Rd at h1 h2
      obtain ⟨x, vs, rfl, t, r⟩ := h1
      obtain ⟨y, ws, rfl, t', r'⟩ := h2
      obtain ⟨e, he, hj⟩ := deqL_at h r r'
      have hu1 : A.in1.units + k < cLine := by show A.units + 1 + k < cLine; omega
      have items : ∀ j (h1 : j < vs.size) (h2 : j < ws.size), EqAt A.in1 s vs[j] ws[j] (e j) := fun j q1 q2 => by
        obtain ⟨a, b, _, _, hf, ra, rb⟩ := hj j vs[j] ws[j] (by simp [q1]) (by simp [q2])
        exact (ih hu1 ra rb hf).1
      have both : RcAt A s (.ref x) (.ref y) c ∧ RcNeAt A s (.ref x) (.ref y) (!c) := by
        by_cases hz : vs.size = ws.size
        · have rc := RcAt.lists (t.is hS) (t'.is hS) hz hu' items
          have rn := RcNeAt.lists (t.is hS) (t'.is hS) hz hu' items
          have hc : (List.range vs.size).all e = c := by rw [← he]; simp [hz]
          rw [hc] at rc rn
          exact ⟨rc, rn⟩
        · have hz' : (vs.size != ws.size) = true := by simpa using hz
          have hc : c = false := deqL_len h (by rw [← r.len, ← r'.len, Array.length_toList, Array.length_toList]; exact hz)
          subst hc
          exact ⟨RcAt.lists_lengths (t.is hS) (t'.is hS) hz' hu', RcNeAt.lists_lengths (t.is hS) (t'.is hS) hz' hu'⟩
      refine ⟨?_, fun _ _ _ _ => both⟩
      by_cases q : x = y
      · subst q
        rw [hsame rfl]
        exact EqAt.same _
      · exact EqAt.of_refs q both.1
section
variable {G : Gx} {n : Nat}
theorem Amb.eq {A : Around} {k : Nat} (a : Amb n A) (h : k < 90) : A.units + k < cLine := by have := a.units; show _ < 9900; omega
theorem C2.eqTup {l m : List D} {c : Bool} (h : deq 80 (.tup l) (.tup m) = some c) : C2 G n .Eq (.tup l) (.tup m) c := by
  intro S s a b g k ra rb A Q E hA q
  have := (deq_at k 80 (hA.eq (by decide)) ra rb h).2
  unfold Rd at ra rb
  obtain ⟨x, vs, rfl, t, r⟩ := ra
  obtain ⟨y, ws, rfl, t', r'⟩ := rb
  exact (this x y rfl rfl).1 _ _ _ _ (q _ S s (Ext.refl k) rfl)
theorem C2.neTup {l m : List D} {c : Bool} (h : deq 80 (.tup l) (.tup m) = some c) : C2 G n .NotEq (.tup l) (.tup m) (!c) := by
  intro S s a b g k ra rb A Q E hA q
  have := (deq_at k 80 (hA.eq (by decide)) ra rb h).2
  unfold Rd at ra rb
  obtain ⟨x, vs, rfl, t, r⟩ := ra
  obtain ⟨y, ws, rfl, t', r'⟩ := rb
  exact (this x y rfl rfl).2 _ _ _ _ (q _ S s (Ext.refl k) rfl)
theorem C2.eqLst {l m : List D} {c : Bool} (h : deq 80 (.lst l) (.lst m) = some c) : C2 G n .Eq (.lst l) (.lst m) c := by
  intro S s a b g k ra rb A Q E hA q
  have := (deq_at k 80 (hA.eq (by decide)) ra rb h).2
  unfold Rd at ra rb
  obtain ⟨x, vs, rfl, t, r⟩ := ra
  obtain ⟨y, ws, rfl, t', r'⟩ := rb
  exact (this x y rfl rfl).1 _ _ _ _ (q _ S s (Ext.refl k) rfl)
theorem C2.neLst {l m : List D} {c : Bool} (h : deq 80 (.lst l) (.lst m) = some c) : C2 G n .NotEq (.lst l) (.lst m) (!c) := by
  intro S s a b g k ra rb A Q E hA q
  have := (deq_at k 80 (hA.eq (by decide)) ra rb h).2
  unfold Rd at ra rb
  obtain ⟨x, vs, rfl, t, r⟩ := ra
  obtain ⟨y, ws, rfl, t', r'⟩ := rb
  exact (this x y rfl rfl).2 _ _ _ _ (q _ S s (Ext.refl k) rfl)
/-- what is in a row -/
def dmem (d : D) (l : List D) : Bool := l.any fun y => deq 80 y d == some true
open Classical in
theorem mem_items {S : Gh} {s : Shared} (hS : HLe S s.heap.get?) {A : Around} (hA : Amb n A) {l : List D} {vs : List Value} {d : D} {x : Value} (rl : RdL G S l vs) (rx : Rd G S d x) (h : ∀ y ∈ l, (deq 80 y d).isSome = true) :
    ∃ e : Value → Bool, (∀ y, y ∈ vs → EqAt A.in1 s y x (e y)) ∧ vs.any e = dmem d l := by
  have hu1 : A.in1.units + 80 < cLine := by show A.units + 1 + 80 < 9900; have := hA.units; omega
  refine ⟨fun v => decide (∃ y, y ∈ l ∧ Rd G S y v ∧ deq 80 y d = some true), fun v hv => ?_, ?_⟩
  · obtain ⟨i, hi⟩ := List.getElem?_of_mem hv
    have hlt : i < l.length := by
      have := (List.getElem?_eq_some_iff.mp hi).1
      rw [rl.len] at this; exact this
    obtain ⟨v', hv', ry⟩ := rl.get (List.getElem?_eq_getElem hlt)
    rw [hi] at hv'; cases hv'
    have hm := h _ (List.getElem_mem hlt)
    obtain ⟨c, hc⟩ := Option.isSome_iff_exists.mp hm
    have key : decide (∃ y, y ∈ l ∧ Rd G S y v ∧ deq 80 y d = some true) = c := by
      cases c with
      | true => exact decide_eq_true ⟨_, List.getElem_mem hlt, ry, hc⟩
      | false =>
        refine decide_eq_false fun ⟨y, hy, ry', e⟩ => ?_
        have := deq_cons 80 ry' ry e hc
        cases this
    show EqAt A.in1 s v x (decide (∃ y, y ∈ l ∧ Rd G S y v ∧ deq 80 y d = some true))
    rw [key]
    exact (deq_at hS 80 hu1 ry rx hc).1
  · unfold dmem
    rw [Bool.eq_iff_iff, List.any_eq_true, List.any_eq_true]
    constructor
    · rintro ⟨v, hv, e⟩
      obtain ⟨y, hy, _, e⟩ := of_decide_eq_true e
      exact ⟨y, hy, by rw [e]; rfl⟩
    · rintro ⟨y, hy, e⟩
      obtain ⟨i, hi⟩ := List.getElem?_of_mem hy
      obtain ⟨v, hv, ry⟩ := rl.get hi
      exact ⟨v, List.mem_of_getElem? hv, decide_eq_true ⟨y, hy, ry, by simpa using e⟩⟩
theorem C2.inTup {d : D} {l : List D} (h : ∀ y ∈ l, (deq 80 y d).isSome = true) : C2 G n .In d (.tup l) (dmem d l) := by
  intro S s a b g k ra rb A Q E hA q
  unfold Rd at rb
  obtain ⟨x, vs, rfl, t, r⟩ := rb
  obtain ⟨e, he, hh⟩ := mem_items k hA r ra h
  refine in_tupleAt e (t.is k) (fun y hy => he y (by simpa using hy)) (q _ S s (Ext.refl k) ?_)
  rw [← hh, ← Array.any_toList]
theorem C2.inLst {d : D} {l : List D} (h : ∀ y ∈ l, (deq 80 y d).isSome = true) : C2 G n .In d (.lst l) (dmem d l) := by
  intro S s a b g k ra rb A Q E hA q
  unfold Rd at rb
  obtain ⟨x, vs, rfl, t, r⟩ := rb
  obtain ⟨e, he, hh⟩ := mem_items k hA r ra h
  refine in_listAt e (t.is k) (fun y hy => he y (by simpa using hy)) (q _ S s (Ext.refl k) ?_)
  rw [← hh, ← Array.any_toList]
theorem C2.notInTup {d : D} {l : List D} (h : ∀ y ∈ l, (deq 80 y d).isSome = true) : C2 G n .NotIn d (.tup l) (!dmem d l) := by
  intro S s a b g k ra rb A Q E hA q
  unfold Rd at rb
  obtain ⟨x, vs, rfl, t, r⟩ := rb
  obtain ⟨e, he, hh⟩ := mem_items k hA r ra h
  refine notIn_tupleAt e (t.is k) (fun y hy => he y (by simpa using hy)) (q _ S s (Ext.refl k) ?_)
  rw [← hh, ← Array.any_toList]
theorem C2.notInLst {d : D} {l : List D} (h : ∀ y ∈ l, (deq 80 y d).isSome = true) : C2 G n .NotIn d (.lst l) (!dmem d l) := by
  intro S s a b g k ra rb A Q E hA q
  unfold Rd at rb
  obtain ⟨x, vs, rfl, t, r⟩ := rb
  obtain ⟨e, he, hh⟩ := mem_items k hA r ra h
  refine notIn_listAt e (t.is k) (fun y hy => he y (by simpa using hy)) (q _ S s (Ext.refl k) ?_)
  rw [← hh, ← Array.any_toList]
end
end Mine
open PySem PySem.W PyProof.Rows PySem.Calls
set_option Elab.async false
set_option maxRecDepth 100000
set_option linter.unusedVariables false
namespace Mine
/-- the top's run over a tree of objects -/
def topRunT (tb : String → Option Builtin) (p : Program) (w : World) (n₀ : Nat) (ann : Option Value) : Nat → SharedT → Thread → Option SharedT
  | 0, _, _ => none
  | n + 1, s, t => match through t with
    | true => some s
    | false => match stepOk n₀ ann t with
      | false => none
      | true => match stepT (denote tb) p w s t with
        | some (s', t') => topRunT tb p w n₀ ann n s' t'
        | none => none
theorem topRunT_of {tb : String → Option Builtin} {p : Program} {w : World} {n₀ : Nat} {ann : Option Value} : ∀ {n : Nat} {s s' : SharedT} {t : Thread}, topRunT tb p w n₀ ann n s t = some s' → topRun tb p w n₀ ann n s.abs t = some s'.abs
  | 0, _, _, _, h => by cases h
  | n + 1, s, s', t, h => by
    unfold topRunT at h
    unfold topRun
    cases he : through t with
    | true => rw [he] at h; cases h; rfl
    | false =>
      rw [he] at h
      cases hk : stepOk n₀ ann t with
      | false => rw [hk] at h; cases h
      | true =>
        rw [hk] at h
        cases hs : stepT (denote tb) p w s t with
        | none => rw [hs] at h; cases h
        | some r =>
          obtain ⟨s₂, t₂⟩ := r
          rw [hs] at h
          dsimp only
          rw [stepT_spec hs]
          exact topRunT_of h
noncomputable def bootTree (P : Params) : BT :=
  [boot_o_0 P, boot_o_1 P, boot_o_2 P, boot_o_3 P, boot_o_4 P, boot_o_5 P, boot_o_6 P, boot_o_7 P, boot_o_8 P, boot_o_9 P, boot_o_10 P].foldl (fun (x : BT × Nat) o => (x.1.ins x.2 o, x.2 + 1)) (BT.nil, 0) |>.1
noncomputable def S0 (P : Params) (os : OsState) : SharedT := ⟨bootTree P, 11, {}, Array.mk [], boot_drawn, boot_toks, os⟩
theorem S0_abs (P : Params) (os : OsState) : (S0 P os).abs = ⟨boot_heap P, Array.mk [], boot_drawn, boot_toks, os⟩ := by kernel_rfl
theorem boot_size (P : Params) : ((boot_heap P).isNs mainGlobals && (Array.mk ([] : List GenState)).size == 0, (boot_heap P).objs.size, (boot_heap P).nsMap mainGlobals "__annotations__") = (true, 11, some (.ref 6)) := by kernel_rfl
theorem LeftO.tree {p q : Program} {loose : List Str} {Xt : Shared → Bool} {α : Type} {Yf : Shared → α} {Ya : World → α} {N : Nat} {g0 : Bool}
    (e : opening p = plainProg p.main.scope.names) (hN : Nat.ble 600 N = true) (f : ∀ s, fenceModules? p s = some s)
    (run : ∀ (w : World) (os : OsState), (topRunT treeTable p w 11 (some (.ref 6)) N (S0 w.params os) (topStub p)).map (fun s => ((staticsOk (importedModules p.main.body) (boot_heap w.params) s.abs.heap && namesBound p s.abs.heap && gensDone s.abs && laidKept (boot_heap w.params) s.abs.heap),
      openSeen q loose (importedModules p.main.body) Xt g0 s.abs, Yf s.abs)) = some (true, openGood q loose, Ya w)) : LeftO p q loose Xt Yf Ya N g0 := fun w => by
  obtain ⟨s0, hs0, hv⟩ := Option.map_eq_some_iff.mp (boot_open (N := N) e hN f w)
  obtain ⟨h, gs, d, k, os⟩ := s0
  obtain ⟨rfl, rfl, rfl, rfl⟩ : h = boot_heap w.params ∧ gs = Array.mk [] ∧ d = boot_drawn ∧ k = boot_toks := by simpa using hv
  obtain ⟨s1, r1, hl⟩ := Option.map_eq_some_iff.mp (run w os)
  obtain ⟨l1, l2, l3⟩ : _ ∧ _ ∧ _ := by simpa only [Prod.mk.injEq] using hl
  obtain ⟨z1, z2, z3⟩ : _ ∧ _ ∧ _ := by simpa only [Prod.mk.injEq] using boot_size w.params
  have r := topRunT_of r1
  rw [S0_abs] at r
  have t : topFrom treeTable p w N ⟨boot_heap w.params, Array.mk [], boot_drawn, boot_toks, os⟩ = some s1.abs := by
    unfold topFrom
    dsimp only
    rw [z1, z2, z3, r]
    show (match staticsOk (importedModules p.main.body) (boot_heap w.params) s1.abs.heap && namesBound p s1.abs.heap && gensDone s1.abs && laidKept (boot_heap w.params) s1.abs.heap with | true => _ | false => _) = _
    rw [l1]
  unfold openEnds
  rw [hs0]
  show (topFrom treeTable p w N _).map _ = _
  rw [t]
  show some (_, _) = _
  rw [l2, l3]
end Mine
open PySem PySem.W PyProof.Rows PySem.Calls
set_option Elab.async false
set_option maxRecDepth 100000
set_option linter.unusedVariables false
namespace Mine
noncomputable def topRunF (tb : String → Option Builtin) (p : Program) (w : World) (n₀ : Nat) (ann : Option Value) : Nat → SharedT → Thread → Option SharedT
  | 0, _, _ => none
  | n + 1, s, t => match through t with
    | true => some s
    | false => match PySem.W.Fast.tw6613529449190102663 n₀ ann t with
      | false => none
      | true => match PySem.W.Fast.tw10156331382660048174 (PySem.W.Fast.tw11892475500146522536 tb) p w s t with
        | some (s', t') => topRunF tb p w n₀ ann n s' t'
        | none => none
theorem topRunF_eq {tb : String → Option Builtin} {p : Program} {w : World} {n₀ : Nat} {ann : Option Value} : ∀ (n : Nat) (s : SharedT) (t : Thread), topRunT tb p w n₀ ann n s t = topRunF tb p w n₀ ann n s t
  | 0, _, _ => rfl
  | n + 1, s, t => by
    unfold topRunT topRunF
    rw [← PySem.W.Fast.te6613529449190102663, ← PySem.W.Fast.te10156331382660048174, ← PySem.W.Fast.te11892475500146522536]
    cases through t with
    | true => rfl
    | false =>
      cases stepOk n₀ ann t with
      | false => rfl
      | true =>
        cases stepT (denote tb) p w s t with
        | none => rfl
        | some r => exact topRunF_eq n r.1 r.2
end Mine
open PySem PySem.W PyProof.Rows PySem.Calls
set_option Elab.async false
set_option maxRecDepth 100000
set_option linter.unusedVariables false
namespace Mine
theorem intBits_le {a : Int} {k : Nat} (h : a.natAbs < 2 ^ k) : Builtin.Int.intBits a ≤ k := by
  unfold Builtin.Int.intBits
  split
  · exact Nat.zero_le _
  · rename_i hz
    have : a.natAbs ≠ 0 := by intro q; apply hz; simpa using Int.natAbs_eq_zero.mp q
    have := (Nat.log2_lt this).mpr h
    omega
theorem or_xor_add (a b : Nat) : (a ||| b) + (a &&& b) = a + b ∧ (a ^^^ b) + 2 * (a &&& b) = a + b := by
  induction a using Nat.strongRecOn generalizing b with
  | _ a ih =>
    by_cases ha : a = 0
    · subst ha; simp
    · obtain ⟨h1, h2⟩ := ih (a / 2) (by omega) (b / 2)
      have o1 : (a ||| b) / 2 = a / 2 ||| b / 2 := Nat.or_div_two
      have o2 : (a &&& b) / 2 = a / 2 &&& b / 2 := Nat.and_div_two
      have o3 : (a ^^^ b) / 2 = a / 2 ^^^ b / 2 := Nat.xor_div_two
      have m1 : (a ||| b) % 2 = 1 ↔ a % 2 = 1 ∨ b % 2 = 1 := Nat.or_mod_two_eq_one
      have m2 : (a &&& b) % 2 = 1 ↔ a % 2 = 1 ∧ b % 2 = 1 := Nat.and_mod_two_eq_one
      have m3 : (a ^^^ b) % 2 = 1 ↔ ¬ (a % 2 = 1 ↔ b % 2 = 1) := Nat.xor_mod_two_eq_one
      rw [← o1, ← o2] at h1
      rw [← o3, ← o2] at h2
      generalize a ||| b = x at *
      generalize a &&& b = y at *
      generalize a ^^^ b = z at *
      by_cases p : a % 2 = 1 <;> by_cases q : b % 2 = 1 <;> simp only [p, q, true_or, or_true, or_self, and_self, and_false, false_and, iff_true, iff_false, not_true, not_false_iff, true_iff, false_iff] at m1 m2 m3 <;> omega
section
variable {G : Gx} {n : Nat} {env : Env} {Γ : Cx}
theorem Ev.to {e : Expr} {d d' : D} (h : Ev G n env Γ e d) (q : d = d') : Ev G n env Γ e d' := q ▸ h
theorem Ev.toN {e : Expr} {a b : Nat} (h : Ev G n env Γ e (.int a)) (q : a = b) : Ev G n env Γ e (.int b) := q ▸ h
theorem Ev.toB {e : Expr} {a b : Bool} (h : Ev G n env Γ e (.bool a)) (q : a = b) : Ev G n env Γ e (.bool b) := q ▸ h
theorem Tv.to {e : Expr} {a b : Bool} (h : Tv G n env Γ e a) (q : a = b) : Tv G n env Γ e b := q ▸ h
/-- a whole number that is written -/
theorem Ev.lit {i : Nat} {k : Nat} {pos : Pos} : Ev G n env Γ (.Constant (.int (Int.ofNat i)) k pos) (.int (i : Int)) := Ev.int
/-! whole numbers that are not negative -/
theorem B2.to {f : Value → Value → Sem Value} {a b d d' : D} (h : B2 G n f a b d) (q : d = d') : B2 G n f a b d' := q ▸ h
section
variable {a b : Nat}
theorem B2.addN : B2 G n (binaryOp .Add) (.int a) (.int b) (.int (a + b : Nat)) := B2.add.to (by rw [Int.natCast_add])
theorem B2.subN (h : b ≤ a) : B2 G n (binaryOp .Sub) (.int a) (.int b) (.int (a - b : Nat)) := B2.sub.to (by rw [Int.natCast_sub h])
theorem B2.mulN (h : a < 2 ^ 200 ∧ b < 2 ^ 200) : B2 G n (binaryOp .Mult) (.int a) (.int b) (.int (a * b : Nat)) :=
  (B2.mul (IntMulOk.of_bits (Nat.le_trans (intBits_le (k := 200) (by rw [Int.natAbs_natCast]; exact h.1)) (by decide)) (Nat.le_trans (intBits_le (k := 200) (by rw [Int.natAbs_natCast]; exact h.2)) (by decide)))).to (by rw [Int.natCast_mul])
theorem B2.modN (hb : 0 < b) : B2 G n (binaryOp .Mod) (.int a) (.int b) (.int (a % b : Nat)) := (B2.mod (by omega)).to (by rw [Int.fmod_eq_emod_of_nonneg _ (by omega)]; rfl)
theorem B2.andN : B2 G n (binaryOp .BitAnd) (.int a) (.int b) (.int (a &&& b : Nat)) := B2.and.to (by rw [bitAnd_pp (by omega) (by omega)]; simp)
theorem bitOr_nn (a b : Nat) : Builtin.bitOr (a : Int) b = ((a ||| b : Nat) : Int) := by
  rw [bitOr_and, bitAnd_pp (by omega) (by omega)]
  have := (or_xor_add a b).1
  simp only [Int.toNat_natCast]
  omega
theorem bitXor_nn (a b : Nat) : Builtin.bitXor (a : Int) b = ((a ^^^ b : Nat) : Int) := by
  unfold Builtin.bitXor
  rw [bitOr_nn, bitAnd_pp (by omega) (by omega)]
  have := (or_xor_add a b).1
  have := (or_xor_add a b).2
  simp only [Int.toNat_natCast]
  omega
theorem B2.orN : B2 G n (binaryOp .BitOr) (.int a) (.int b) (.int (a ||| b : Nat)) := B2.or.to (by rw [bitOr_nn])
theorem B2.xorN : B2 G n (binaryOp .BitXor) (.int a) (.int b) (.int (a ^^^ b : Nat)) := B2.xor.to (by rw [bitXor_nn])
theorem B2.shlN (h : a < 2 ^ 200 ∧ b ≤ 1000) : B2 G n (binaryOp .LShift) (.int a) (.int b) (.int (a * 2 ^ b : Nat)) :=
  (B2.shl (by omega) (by
    have := intBits_le (a := (a : Int)) (k := 200) (by rw [Int.natAbs_natCast]; exact h.1)
    have := h.2
    omega)).to (by rw [Int.toNat_natCast, Int.natCast_mul, Int.natCast_pow]; rfl)
theorem B2.shrN : B2 G n (binaryOp .RShift) (.int a) (.int b) (.int (a / 2 ^ b : Nat)) := (B2.shr (by omega)).to (by
  rw [Int.toNat_natCast, Int.fdiv_eq_ediv_of_nonneg _ (by exact_mod_cast Nat.zero_le _)]
  rw [Int.natCast_ediv, Int.natCast_pow]; rfl)
theorem B2.powN (h : Builtin.Int.intBits a * b ≤ 2 ^ 27) : B2 G n (binaryOp .Pow) (.int a) (.int b) (.int (a ^ b : Nat)) :=
  (B2.pow (by omega) (by exact_mod_cast h)).to (by rw [Int.toNat_natCast, Int.natCast_pow])
theorem B2.div {a b : Int} (hb : b ≠ 0) (hp : b.natAbs.log2 < 9000) : B2 G n (binaryOp .FloorDiv) (.int a) (.int b) (.int (a.fdiv b)) := .of_int fun _ _ _ _ _ _ _ h => floordiv_int hb h (.inl (PyProof.noPylong_of_log2 hp))
theorem B2.divN (hb : 0 < b) (hp : b < 2 ^ 8000) : B2 G n (binaryOp .FloorDiv) (.int a) (.int b) (.int (a / b : Nat)) := (B2.div (by omega) (by
    rw [Int.natAbs_natCast]
    have := (Nat.log2_lt (n := b) (k := 8000) (by omega)).mpr hp
    omega)).to (by rw [Int.fdiv_eq_ediv_of_nonneg _ (by omega)]; rfl)
theorem C2.eqN : C2 G n .Eq (.int a) (.int b) (a == b) := by have := C2.eq (G := G) (n := n) (a := a) (b := b); rw [show ((a : Int) == (b : Int)) = (a == b) from by rw [Bool.eq_iff_iff]; simp; omega] at this; exact this
theorem C2.neN : C2 G n .NotEq (.int a) (.int b) (a != b) := by have := C2.ne (G := G) (n := n) (a := a) (b := b); rw [show ((a : Int) != (b : Int)) = (a != b) from by rw [Bool.eq_iff_iff]; simp; omega] at this; exact this
theorem C2.ltN : C2 G n .Lt (.int a) (.int b) (decide (a < b)) := by have := C2.lt (G := G) (n := n) (a := a) (b := b); rw [show decide ((a : Int) < (b : Int)) = decide (a < b) from by simp] at this; exact this
theorem C2.leN : C2 G n .LtE (.int a) (.int b) (decide (a ≤ b)) := by have := C2.le (G := G) (n := n) (a := a) (b := b); rw [show decide ((a : Int) ≤ (b : Int)) = decide (a ≤ b) from by simp] at this; exact this
theorem C2.gtN : C2 G n .Gt (.int a) (.int b) (decide (b < a)) := by have := C2.gt (G := G) (n := n) (a := a) (b := b); rw [show decide ((b : Int) < (a : Int)) = decide (b < a) from by simp] at this; exact this
theorem C2.geN : C2 G n .GtE (.int a) (.int b) (decide (b ≤ a)) := by have := C2.ge (G := G) (n := n) (a := a) (b := b); rw [show decide ((b : Int) ≤ (a : Int)) = decide (b ≤ a) from by simp] at this; exact this
theorem Tr.intN : Tr G n (.int a) (a != 0) := by have := Tr.int (G := G) (n := n) (a := a); rw [show ((a : Int) != 0) = (a != 0) from by rw [Bool.eq_iff_iff]; simp] at this; exact this
end
/-! the same where the name is told anew -/
variable {a b : Int}
theorem I2.add : B2 G n (inplaceOp .Add) (.int a) (.int b) (.int (a + b)) := .of_int fun _ _ _ _ _ _ _ h => PyProof.Rows.iadd_int h
theorem I2.sub : B2 G n (inplaceOp .Sub) (.int a) (.int b) (.int (a - b)) := .of_int fun _ _ _ _ _ _ _ h => PyProof.Rows.isub_int h
theorem I2.mul (hm : IntMulOk a b) : B2 G n (inplaceOp .Mult) (.int a) (.int b) (.int (a * b)) := .of_int fun _ _ _ _ _ _ _ h => PyProof.Rows.imul_int h
theorem I2.and : B2 G n (inplaceOp .BitAnd) (.int a) (.int b) (.int (Builtin.bitAnd a b)) := .of_int fun _ _ _ _ _ _ _ h => iand_int h
theorem I2.or : B2 G n (inplaceOp .BitOr) (.int a) (.int b) (.int (Builtin.bitOr a b)) := .of_int fun _ _ _ _ _ _ _ h => ior_int h
theorem I2.xor : B2 G n (inplaceOp .BitXor) (.int a) (.int b) (.int (Builtin.bitXor a b)) := .of_int fun _ _ _ _ _ _ _ h => ixor_int h
section
variable {a b : Nat}
theorem I2.addN : B2 G n (inplaceOp .Add) (.int a) (.int b) (.int (a + b : Nat)) := I2.add.to (by rw [Int.natCast_add])
theorem I2.andN : B2 G n (inplaceOp .BitAnd) (.int a) (.int b) (.int (a &&& b : Nat)) := I2.and.to (by rw [bitAnd_pp (by omega) (by omega)]; simp)
theorem I2.orN : B2 G n (inplaceOp .BitOr) (.int a) (.int b) (.int (a ||| b : Nat)) := I2.or.to (by rw [bitOr_nn])
theorem I2.xorN : B2 G n (inplaceOp .BitXor) (.int a) (.int b) (.int (a ^^^ b : Nat)) := I2.xor.to (by rw [bitXor_nn])
end
end
end Mine
namespace Mine
theorem Ev.litN {G : Gx} {n : Nat} {env : Env} {Γ : Cx} {j k : Nat} {pos : Pos} : Ev G n env Γ (.Constant (.int (OfNat.ofNat j : Int)) k pos) (.int ((OfNat.ofNat j : Nat) : Int)) := Ev.int
end Mine
open PySem PySem.W PyProof.Rows PySem.Calls
set_option Elab.async false
set_option maxRecDepth 100000
set_option linter.unusedVariables false
namespace Mine
section
variable {G : Gx} {n : Nat} {env : Env} {Γ Γ1 : Cx} {P : Out → Prop} {rest : List Stmt}
theorem Ex.done (h : Ex G n env Γ rest P) : Ex G n env Γ [] (Then G n env rest P) := Ex.nil h
theorem Cx.Sub.refl (Γ : Cx) (h : ∀ x l, Γ.own = some (x, l) → Γ.vars.lookup x = none := by intro x l h; cases h) : Γ.Sub Γ := ⟨fun _ _ h => h, fun x l e => ⟨e, h x l e⟩⟩
theorem Cx.set_sub {x : Str} {d : D} (h : Γ.vars.lookup x = some d) (ho : Γ.own = none) : (Γ.set x d).Sub Γ := by
  refine ⟨fun y e hy => ?_, fun y l hy => ?_⟩
  · by_cases q : y = x
    · subst q
      rw [show (Γ.set y d).vars.lookup y = some d from lookup_cons_self] at hy
      cases hy; exact h
    · rw [show (Γ.set x d).vars.lookup y = Γ.vars.lookup y from lookup_cons_ne (beq_eq_false_iff_ne.mpr q)] at hy
      exact hy
  · unfold Cx.set at hy
    rw [ho] at hy
    cases hy
theorem Ex.recast {x : Str} {d d' : D} (h : Γ.vars.lookup x = some d) (e : d = d') (ho : Γ.own = none) (k : Ex G n env (Γ.set x d') rest P) : Ex G n env Γ rest P := by
  subst e
  exact Ex.sub k (Cx.set_sub h ho)
/-- a test that decides whether a number grows -/
theorem Ex.ifAug {t e : Expr} {x : Str} {px p1 pos : Pos} {c : Bool} {a k : Int} (ht : Tv G n env Γ t c) (hx : Γ.vars.lookup x = some (.int a)) (ho : Γ.own = none) (he : Ev G n env Γ e (.int k)) (kk : Ex G n env (Γ.set x (.int (if c = true then a + k else a))) rest P)
    (hk : Kind env x := by first | exact .inl rfl | exact .inr rfl) : Ex G n env Γ (.If t [.AugAssign (.Name x px) .Add e p1] [] pos :: rest) P := by
  refine Ex.ite ht (fun h => ?_) fun h => ?_
  · rw [h] at kk
    exact Ex.aug hx he I2.add (Ex.done kk) hk
  · rw [h] at kk
    exact Ex.done (Ex.sub kk (Cx.set_sub hx ho))
end
end Mine
open PySem PySem.W PyProof.Rows PySem.Calls
set_option Elab.async false
set_option linter.unusedVariables false
namespace Mine
/-- a cell's number: its place on its level, and how many levels there are below it -/
def cid (m p : Nat) : Nat := (2 * p + 1) * 4 ^ m
theorem four_pow (m : Nat) : 4 ^ m = 2 ^ (2 * m) := by rw [Nat.pow_mul]
theorem pow4_pos (m : Nat) : 0 < 4 ^ m := Nat.pow_pos (by decide)
theorem cid_pos (m p : Nat) : 0 < cid m p := Nat.mul_pos (by omega) (pow4_pos m)
/-- x & (x - 1) -/
theorem and_pred (q k : Nat) : ((2 * q + 1) * 2 ^ k) &&& ((2 * q + 1) * 2 ^ k - 1) = 2 * q * 2 ^ k := by
  have hk : 0 < 2 ^ k := Nat.pow_pos (by decide)
  have e1 : (2 * q + 1) * 2 ^ k - 1 = 2 ^ k * (2 * q) + (2 ^ k - 1) := by
    rw [Nat.add_mul, Nat.one_mul, Nat.mul_comm]; omega
  have e2 : (2 * q + 1) * 2 ^ k = 2 ^ k * (2 * q + 1) + 0 := by rw [Nat.mul_comm]; rfl
  rw [e1, e2]
  apply Nat.eq_of_testBit_eq
  intro i
  rw [Nat.testBit_and, Nat.testBit_two_pow_mul_add _ (by omega), Nat.testBit_two_pow_mul_add _ (by omega), Nat.mul_comm (2 * q), Nat.testBit_two_pow_mul]
  by_cases h : i < k
  · rw [if_pos h, if_pos h]
    have : ¬ i ≥ k := by omega
    simp [this]
  · rw [if_neg h, if_neg h]
    have h' : i ≥ k := by omega
    simp only [h', decide_true, Bool.true_and]
    cases hj : i - k with
    | zero => simp
    | succ j =>
      rw [Nat.testBit_succ, Nat.testBit_succ, show (2 * q + 1) / 2 = q by omega, show 2 * q / 2 = q by omega, Bool.and_self]
theorem lsb_nat {x k q : Nat} (h : x = (2 * q + 1) * 2 ^ k) : Builtin.bitAnd (x : Int) (-(x : Int)) = ((2 ^ k : Nat) : Int) := by
  have hx : 0 < x := by rw [h]; exact Nat.mul_pos (by omega) (Nat.pow_pos (by decide))
  rw [bitAnd_pn (by omega) (by omega)]
  have e : (Builtin.bitNot (-(x : Int))).toNat = x - 1 := by
    unfold Builtin.bitNot
    omega
  rw [e, Int.toNat_natCast, h, and_pred]
  rw [Nat.add_mul, Nat.one_mul]
  omega
theorem cid_lsb (m p : Nat) : Builtin.bitAnd (cid m p : Int) (-(cid m p : Int)) = ((4 ^ m : Nat) : Int) := by
  rw [four_pow]
  exact lsb_nat (q := p) (by unfold cid; rw [four_pow])
/-- x & -2^k -/
theorem and_neg_pow (x k : Nat) : Builtin.bitAnd (x : Int) (-((2 ^ k : Nat) : Int)) = ((x - x % 2 ^ k : Nat) : Int) := by
  have hk : 0 < 2 ^ k := Nat.pow_pos (by decide)
  rw [bitAnd_pn (by omega) (by omega)]
  have e : (Builtin.bitNot (-((2 ^ k : Nat) : Int))).toNat = 2 ^ k - 1 := by
    unfold Builtin.bitNot
    omega
  rw [e, Int.toNat_natCast, Nat.and_two_pow_sub_one_eq_mod]
  have := Nat.mod_le x (2 ^ k)
  omega
theorem cid_div (m p j : Nat) (h : 2 * m < j) : cid m p / 2 ^ j = p / 2 ^ (j - 2 * m - 1) := by
  unfold cid
  rw [four_pow]
  have e : j = 2 * m + (1 + (j - 2 * m - 1)) := by omega
  rw [e, Nat.pow_add, ← Nat.div_div_eq_div_mul, Nat.mul_div_cancel _ (Nat.pow_pos (by decide)), Nat.pow_add, ← Nat.div_div_eq_div_mul]
  congr 1
  · omega
  · congr 1; omega
theorem cid_parent {m M p : Nat} (h : m ≤ M) : ((cid m p - cid m p % 4 ^ M) ||| 4 ^ M) = cid M (p / 4 ^ (M - m)) := by
  have hM := pow4_pos M
  have e1 : cid m p - cid m p % 4 ^ M = 2 ^ (2 * M) * (cid m p / 4 ^ M) := by
    rw [← four_pow]
    have := Nat.div_add_mod (cid m p) (4 ^ M)
    omega
  have e2 : (4 : Nat) ^ M = 2 ^ (2 * M) * 1 := by rw [← four_pow]; omega
  have e3 : cid m p / 4 ^ M ||| 1 = 2 * (p / 4 ^ (M - m)) + 1 := by
    have hq : cid m p / 4 ^ M / 2 = p / 4 ^ (M - m) := by
      rw [Nat.div_div_eq_div_mul, four_pow, ← Nat.pow_succ, cid_div m p _ (by omega), four_pow]
      congr 2; omega
    have o1 : (cid m p / 4 ^ M ||| 1) / 2 = cid m p / 4 ^ M / 2 ||| 1 / 2 := Nat.or_div_two
    have o2 : (cid m p / 4 ^ M ||| 1) % 2 = 1 := Nat.or_mod_two_eq_one.mpr (.inr rfl)
    rw [hq] at o1
    simp at o1
    omega
  rw [e1]
  have e4 : (2 ^ (2 * M) * (cid m p / 4 ^ M) ||| 4 ^ M) = 2 ^ (2 * M) * (cid m p / 4 ^ M ||| 1) := by
    rw [e2]
    apply Nat.eq_of_testBit_eq
    intro i
    rw [Nat.testBit_or, Nat.testBit_two_pow_mul, Nat.testBit_two_pow_mul, Nat.testBit_two_pow_mul, Nat.testBit_or]
    cases decide (i ≥ 2 * M) <;> simp
  rw [e4, e3]
  show _ = (2 * (p / 4 ^ (M - m)) + 1) * 4 ^ M
  rw [Nat.mul_comm, ← four_pow]
theorem cid_face {m p : Nat} (h : m ≤ 30) : cid m p / 2 ^ 61 = p / 4 ^ (30 - m) := by
  rw [cid_div m p 61 (by omega), four_pow]
  congr 2; omega
theorem cid_lt {m p : Nat} (h : m ≤ 30) (hp : p < 6 * 4 ^ (30 - m)) : cid m p < 6 * 2 ^ 61 := by
  have e : 6 * 2 ^ 61 = (2 * (6 * 4 ^ (30 - m))) * 4 ^ m := by
    have : 4 ^ (30 - m) * 4 ^ m = 4 ^ 30 := by rw [← Nat.pow_add]; congr 1; omega
    have e2 : (2 * (6 * 4 ^ (30 - m))) * 4 ^ m = 12 * (4 ^ (30 - m) * 4 ^ m) := by
      rw [← Nat.mul_assoc, Nat.mul_assoc]
    rw [e2, this]
  rw [e]
  exact Nat.mul_lt_mul_of_pos_right (by omega) (pow4_pos m)
theorem cid_leaf (m p : Nat) : ((cid m p &&& 1) != 0) = (m == 0) := by
  rw [Nat.and_one_is_mod]
  cases m with
  | zero =>
    have : cid 0 p % 2 = 1 := by unfold cid; omega
    rw [this]; rfl
  | succ m =>
    have : cid (m + 1) p % 2 = 0 := by
      unfold cid
      rw [Nat.pow_succ, ← Nat.mul_assoc]
      omega
    rw [this]; rfl
theorem cid_zero_mod {m p k : Nat} (h : k ≤ m) : cid m p % 4 ^ k = 0 := by
  unfold cid
  have : 4 ^ m = 4 ^ (m - k) * 4 ^ k := by rw [← Nat.pow_add]; congr 1; omega
  rw [this, ← Nat.mul_assoc]
  exact Nat.mul_mod_left _ _
theorem cid_mod_ne {m p k : Nat} (h : m < k) : cid m p % 4 ^ k ≠ 0 := by
  intro e
  have d := Nat.dvd_of_mod_eq_zero e
  obtain ⟨c, hc⟩ := d
  have : 4 ^ k = 4 ^ m * 4 ^ (k - m) := by rw [← Nat.pow_add]; congr 1; omega
  unfold cid at hc
  rw [this, Nat.mul_comm, Nat.mul_assoc] at hc
  have := Nat.eq_of_mul_eq_mul_left (pow4_pos m) hc
  have e4 : 4 ^ (k - m) = 4 * 4 ^ (k - m - 1) := by rw [← Nat.pow_succ']; congr 1; omega
  rw [e4, Nat.mul_assoc] at this
  omega
theorem cid_isface {m p : Nat} (h : m ≤ 30) : ((cid m p &&& (4 ^ 30 - 1)) == 0) = (m == 30) := by
  have e : (4 : Nat) ^ 30 = 2 ^ 60 := by decide
  rw [e, Nat.and_two_pow_sub_one_eq_mod, ← e]
  by_cases hm : m = 30
  · subst hm
    rw [cid_zero_mod (Nat.le_refl _)]; rfl
  · have := cid_mod_ne (p := p) (show m < 30 by omega)
    rw [beq_eq_false_iff_ne.mpr this, beq_eq_false_iff_ne.mpr hm]
theorem cid_child {m p k : Nat} (h : 0 < m) : (cid m p : Int) + (2 * (k : Int) + 1 - 4) * ((4 ^ m / 2 ^ 2 : Nat) : Int) = (cid (m - 1) (4 * p + k) : Int) := by
  obtain ⟨m, rfl⟩ : ∃ j, m = j + 1 := ⟨m - 1, by omega⟩
  have e : 4 ^ (m + 1) / 2 ^ 2 = 4 ^ m := by rw [Nat.pow_succ]; omega
  rw [e]
  unfold cid
  rw [Nat.add_sub_cancel, Nat.pow_succ]
  push_cast
  generalize (4 : Int) ^ m = x
  have h1 : (2 * (p : Int) + 1) * (x * 4) = (8 * p + 4) * x := by
    rw [Int.mul_comm x 4, ← Int.mul_assoc]; congr 1; omega
  rw [h1, ← Int.add_mul]
  congr 1; omega
end Mine
namespace Mine
theorem bits_at : ∀ k < 16, ((4 ^ k &&& 21845) != 0) = decide (k < 8) ∧ ((4 ^ k &&& 5570645) != 0) = decide (k % 8 < 4) ∧ ((4 ^ k &&& 84215045) != 0) = decide (k % 4 < 2) ∧ ((4 ^ k &&& 286331153) != 0) = decide (k % 2 < 1) := by decide +kernel
theorem cid_low {m p : Nat} (h : m < 16) : ∃ q, (cid m p &&& 4294967295) = (2 * q + 1) * 4 ^ m := by
  have e : (4294967295 : Nat) = 2 ^ 32 - 1 := by decide
  rw [e, Nat.and_two_pow_sub_one_eq_mod]
  have e2 : (2 : Nat) ^ 32 = 4 ^ m * (2 * (2 * 4 ^ (15 - m))) := by
    have : (2 : Nat) ^ 32 = 4 ^ 16 := by decide
    rw [this, show (16 : Nat) = m + (1 + (15 - m)) by omega, Nat.pow_add, Nat.pow_add]
    rw [show (4 : Nat) ^ 1 = 2 * 2 by decide, Nat.mul_assoc 2 2]
  rw [e2]
  unfold cid
  rw [Nat.mul_comm (2 * p + 1), Nat.mul_mod_mul_left, Nat.mul_comm]
  refine ⟨p % (2 * 4 ^ (15 - m)), ?_⟩
  congr 1
  have hy : 0 < 2 * 4 ^ (15 - m) := Nat.mul_pos (by decide) (pow4_pos (15 - m))
  generalize 2 * 4 ^ (15 - m) = y at *
  have := Nat.div_add_mod p y
  have hlt : p % y < y := Nat.mod_lt _ (by omega)
  have : 2 * p + 1 = (2 * (p % y) + 1) + (2 * y) * (p / y) := by
    rw [Nat.mul_assoc]; omega
  rw [this, Nat.add_mul_mod_self_left, Nat.mod_eq_of_lt (by omega)]
theorem cid_low0 {m p : Nat} (h : 16 ≤ m) : (cid m p &&& 4294967295) = 0 := by
  have e : (4294967295 : Nat) = 2 ^ 32 - 1 := by decide
  rw [e, Nat.and_two_pow_sub_one_eq_mod, show (2 : Nat) ^ 32 = 4 ^ 16 by decide]
  exact cid_zero_mod h
theorem cid_high {m p : Nat} (h : 16 ≤ m) : cid m p / 2 ^ 32 = cid (m - 16) p := by
  unfold cid
  have : 4 ^ m = 4 ^ (m - 16) * 2 ^ 32 := by rw [show (2 : Nat) ^ 32 = 4 ^ 16 by decide, ← Nat.pow_add]; congr 1; omega
  rw [this, ← Nat.mul_assoc, Nat.mul_div_cancel _ (by decide)]
theorem lsb_of {x k q : Nat} (h : x = (2 * q + 1) * 4 ^ k) : Builtin.bitAnd (x : Int) (-(x : Int)) = ((4 ^ k : Nat) : Int) := by
  rw [four_pow] at h ⊢
  exact lsb_nat h
end Mine
namespace Mine
theorem B2.andNeg {G : Gx} {n a k : Nat} : B2 G n (binaryOp .BitAnd) (.int (a : Int)) (.int (-((4 ^ k : Nat) : Int))) (.int ((a - a % 4 ^ k : Nat) : Int)) := by
  refine B2.and.to ?_
  rw [four_pow, and_neg_pow]
theorem face_lt {m p : Nat} (hp : p < 6 * 4 ^ (30 - m)) : p / 4 ^ (30 - m) < 6 := (Nat.div_lt_iff_lt_mul (pow4_pos _)).mpr hp
theorem up_ok {m p M : Nat} (h : m ≤ M) (hM : M ≤ 30) (hp : p < 6 * 4 ^ (30 - m)) : p / 4 ^ (M - m) < 6 * 4 ^ (30 - M) := by
  refine (Nat.div_lt_iff_lt_mul (pow4_pos _)).mpr ?_
  rw [Nat.mul_assoc, ← Nat.pow_add, show 30 - M + (M - m) = 30 - m by omega]
  exact hp
theorem down_ok {m p k : Nat} (h : 0 < m) (hm : m ≤ 30) (hk : k < 4) (hp : p < 6 * 4 ^ (30 - m)) : 4 * p + k < 6 * 4 ^ (30 - (m - 1)) := by
  rw [show 30 - (m - 1) = (30 - m) + 1 by omega, Nat.pow_succ]
  omega
theorem pow4_lt {m : Nat} (h : m ≤ 40) : 4 ^ m < 2 ^ 100 := by
  have : 4 ^ m ≤ 4 ^ 40 := Nat.pow_le_pow_right (by decide) h
  have e : (4 : Nat) ^ 40 < 2 ^ 100 := by decide
  omega
end Mine
open PySem PySem.W PyProof.Rows PySem.Calls
set_option Elab.async false
set_option linter.unusedVariables false
namespace Mine
/-! the curve, one bit of i and of j at a time -/
/-- in orientation o: the quarter of (x, y) -/
def dig (o x y : Nat) : Nat := match o, x, y with
  | 0, 0, 0 => 0 | 0, 0, _ => 1 | 0, _, 0 => 3 | 0, _, _ => 2
  | 1, 0, 0 => 0 | 1, 0, _ => 3 | 1, _, 0 => 1 | 1, _, _ => 2
  | 2, 0, 0 => 2 | 2, 0, _ => 3 | 2, _, 0 => 1 | 2, _, _ => 0
  | _, 0, 0 => 2 | _, 0, _ => 1 | _, _, 0 => 3 | _, _, _ => 0
/-- the orientation of a quarter, told from its parent's -/
def ori (o d : Nat) : Nat := match d with
  | 0 => o ^^^ 1
  | 3 => o ^^^ 3
  | _ => o
def hil : Nat → Nat → Nat → Nat → Nat × Nat
  | 0, o, _, _ => (0, o)
  | b + 1, o, i, j =>
    let d := dig o (i / 2 ^ b % 2) (j / 2 ^ b % 2)
    let r := hil b (ori o d) i j
    (d * 4 ^ b + r.1, r.2)
theorem dig_lt (o x y : Nat) : dig o x y < 4 := by
  unfold dig; split <;> decide
theorem xor_small {o k : Nat} (ho : o < 4) (hk : k < 4) : o ^^^ k < 4 := Nat.xor_lt_two_pow (n := 2) ho hk
theorem ori_lt {o d : Nat} (h : o < 4) : ori o d < 4 := by
  unfold ori
  split
  · exact xor_small h (by decide)
  · exact xor_small h (by decide)
  · exact h
theorem hil_lt : ∀ (b : Nat) {o : Nat} (i j : Nat), o < 4 → (hil b o i j).1 < 4 ^ b ∧ (hil b o i j).2 < 4
  | 0, o, i, j, h => ⟨by show 0 < 1; decide, h⟩
  | b + 1, o, i, j, h => by
    have hd := dig_lt o (i / 2 ^ b % 2) (j / 2 ^ b % 2)
    obtain ⟨h1, h2⟩ := hil_lt b i j (ori_lt (d := dig o (i / 2 ^ b % 2) (j / 2 ^ b % 2)) h)
    refine ⟨?_, h2⟩
    show dig o (i / 2 ^ b % 2) (j / 2 ^ b % 2) * 4 ^ b + _ < 4 ^ (b + 1)
    rw [Nat.pow_succ]
    have : dig o (i / 2 ^ b % 2) (j / 2 ^ b % 2) * 4 ^ b ≤ 3 * 4 ^ b := Nat.mul_le_mul_right _ (by omega)
    omega
theorem div_pow_div (i a b : Nat) : i / 2 ^ b / 2 ^ a = i / 2 ^ (a + b) := by
  rw [Nat.div_div_eq_div_mul, ← Nat.pow_add, Nat.add_comm]
/-- the high bits first, then the rest -/
theorem hil_app : ∀ (a b o i j : Nat), hil (a + b) o i j = ((hil a o (i / 2 ^ b) (j / 2 ^ b)).1 * 4 ^ b + (hil b (hil a o (i / 2 ^ b) (j / 2 ^ b)).2 i j).1, (hil b (hil a o (i / 2 ^ b) (j / 2 ^ b)).2 i j).2)
  | 0, b, o, i, j => by
    rw [Nat.zero_add]
    show _ = (0 * 4 ^ b + (hil b o i j).1, (hil b o i j).2)
    rw [Nat.zero_mul, Nat.zero_add]
  | a + 1, b, o, i, j => by
    rw [show a + 1 + b = (a + b) + 1 by omega]
    have ih := hil_app a b (ori o (dig o (i / 2 ^ (a + b) % 2) (j / 2 ^ (a + b) % 2))) i j
    show (dig o (i / 2 ^ (a + b) % 2) (j / 2 ^ (a + b) % 2) * 4 ^ (a + b) + (hil (a + b) _ i j).1, (hil (a + b) _ i j).2) = _
    rw [ih]
    show _ = ((dig o (i / 2 ^ b / 2 ^ a % 2) (j / 2 ^ b / 2 ^ a % 2) * 4 ^ a + (hil a _ (i / 2 ^ b) (j / 2 ^ b)).1) * 4 ^ b + _, _)
    have hs : (hil (a + 1) o (i / 2 ^ b) (j / 2 ^ b)).2 = (hil a (ori o (dig o (i / 2 ^ (a + b) % 2) (j / 2 ^ (a + b) % 2))) (i / 2 ^ b) (j / 2 ^ b)).2 := by
      rw [← div_pow_div i a b, ← div_pow_div j a b]
      rfl
    rw [hs, div_pow_div, div_pow_div, Nat.add_mul, Nat.mul_assoc, ← Nat.pow_add, Nat.add_assoc]
/-- only the low bits count -/
theorem hil_mod : ∀ (b o i j : Nat), hil b o i j = hil b o (i % 2 ^ b) (j % 2 ^ b) := by
  have key : ∀ (b c o i j : Nat), b ≤ c → hil b o i j = hil b o (i % 2 ^ c) (j % 2 ^ c) := by
    intro b
    induction b with
    | zero => intro c o i j _; rfl
    | succ b ih =>
      intro c o i j h
      have e : ∀ x : Nat, x % 2 ^ c / 2 ^ b % 2 = x / 2 ^ b % 2 := fun x => by
        have : 2 ^ c = 2 ^ b * 2 ^ (c - b) := by rw [← Nat.pow_add]; congr 1; omega
        rw [this, Nat.mod_mul_right_div_self]
        have h2 : 2 ^ (c - b) = 2 * 2 ^ (c - b - 1) := by rw [← Nat.pow_succ']; congr 1; omega
        rw [h2, Nat.mod_mul_right_mod]
      show (dig o (i / 2 ^ b % 2) (j / 2 ^ b % 2) * 4 ^ b + (hil b _ i j).1, (hil b _ i j).2) = (dig o (i % 2 ^ c / 2 ^ b % 2) (j % 2 ^ c / 2 ^ b % 2) * 4 ^ b + (hil b _ (i % 2 ^ c) (j % 2 ^ c)).1, (hil b _ (i % 2 ^ c) (j % 2 ^ c)).2)
      rw [e, e, ih c _ i j (by omega)]
  intro b o i j
  exact key b b o i j (Nat.le_refl _)
/-- two leading zeros change nothing where the orientation is none or swapped -/
theorem hil_zeros' {b o i j : Nat} (ho : o < 2) (hi : i < 2 ^ b) (hj : j < 2 ^ b) : hil (2 + b) o i j = hil b o i j := by
  have h := hil_app 2 b o i j
  rw [Nat.div_eq_of_lt hi, Nat.div_eq_of_lt hj] at h
  have z : hil 2 o 0 0 = (0, o) := by
    rcases (show o = 0 ∨ o = 1 by omega) with rfl | rfl <;> decide
  rw [h, z]
  show (0 * 4 ^ b + (hil b o i j).1, (hil b o i j).2) = _
  rw [Nat.zero_mul, Nat.zero_add]
theorem hil_zeros {o i j : Nat} (ho : o < 2) (hi : i < 2 ^ 30) (hj : j < 2 ^ 30) : hil 32 o i j = hil 30 o i j := hil_zeros' (b := 30) ho hi hj
theorem or_low {n x c k : Nat} (hn : n = 2 ^ (8 * (k + 1)) * c) (hx : x < 256) : n ||| x * 2 ^ (k * 8) = n + x * 2 ^ (k * 8) := by
  have hlt : x * 2 ^ (k * 8) < 2 ^ (8 * (k + 1)) := by
    rw [show 8 * (k + 1) = 8 + k * 8 by omega, Nat.pow_add]
    exact Nat.mul_lt_mul_of_pos_right hx (Nat.pow_pos (by decide))
  rw [hn, Nat.two_pow_add_eq_or_of_lt hlt]
end Mine
open PySem PySem.W PyProof.Rows PySem.Calls
set_option Elab.async false
set_option linter.unusedVariables false
namespace Mine
/-- the quarter's place, told from its number -/
def und (o d : Nat) : Nat × Nat := match o, d with
  | 0, 0 => (0, 0) | 0, 1 => (0, 1) | 0, 2 => (1, 1) | 0, _ => (1, 0)
  | 1, 0 => (0, 0) | 1, 1 => (1, 0) | 1, 2 => (1, 1) | 1, _ => (0, 1)
  | 2, 0 => (1, 1) | 2, 1 => (1, 0) | 2, 2 => (0, 0) | 2, _ => (0, 1)
  | _, 0 => (1, 1) | _, 1 => (0, 1) | _, 2 => (0, 0) | _, _ => (1, 0)
def lih : Nat → Nat → Nat → Nat × Nat × Nat
  | 0, o, _ => (0, 0, o)
  | b + 1, o, q =>
    let d := q / 4 ^ b % 4
    let r := lih b (ori o d) q
    ((und o d).1 * 2 ^ b + r.1, (und o d).2 * 2 ^ b + r.2.1, r.2.2)
theorem und_lt (o d : Nat) : (und o d).1 < 2 ∧ (und o d).2 < 2 := by
  unfold und; split <;> decide
theorem und_dig : ∀ o < 4, ∀ x < 2, ∀ y < 2, und o (dig o x y) = (x, y) := by decide
theorem dig_und : ∀ o < 4, ∀ d < 4, dig o (und o d).1 (und o d).2 = d := by decide
theorem lih_lt : ∀ (b : Nat) {o : Nat} (q : Nat), o < 4 → (lih b o q).1 < 2 ^ b ∧ (lih b o q).2.1 < 2 ^ b ∧ (lih b o q).2.2 < 4
  | 0, o, q, h => ⟨by show 0 < 1; decide, by show 0 < 1; decide, h⟩
  | b + 1, o, q, h => by
    obtain ⟨u1, u2⟩ := und_lt o (q / 4 ^ b % 4)
    obtain ⟨h1, h2, h3⟩ := lih_lt b q (ori_lt (d := q / 4 ^ b % 4) h)
    refine ⟨?_, ?_, h3⟩
    · show (und o (q / 4 ^ b % 4)).1 * 2 ^ b + _ < 2 ^ (b + 1)
      rw [Nat.pow_succ]
      have : (und o (q / 4 ^ b % 4)).1 * 2 ^ b ≤ 1 * 2 ^ b := Nat.mul_le_mul_right _ (by omega)
      omega
    · show (und o (q / 4 ^ b % 4)).2 * 2 ^ b + _ < 2 ^ (b + 1)
      rw [Nat.pow_succ]
      have : (und o (q / 4 ^ b % 4)).2 * 2 ^ b ≤ 1 * 2 ^ b := Nat.mul_le_mul_right _ (by omega)
      omega
theorem div_pow4_div (q a b : Nat) : q / 4 ^ b / 4 ^ a = q / 4 ^ (a + b) := by
  rw [Nat.div_div_eq_div_mul, ← Nat.pow_add, Nat.add_comm]
theorem lih_app : ∀ (a b o q : Nat), lih (a + b) o q = ((lih a o (q / 4 ^ b)).1 * 2 ^ b + (lih b (lih a o (q / 4 ^ b)).2.2 q).1, (lih a o (q / 4 ^ b)).2.1 * 2 ^ b + (lih b (lih a o (q / 4 ^ b)).2.2 q).2.1, (lih b (lih a o (q / 4 ^ b)).2.2 q).2.2)
  | 0, b, o, q => by
    rw [Nat.zero_add]
    show _ = (0 * 2 ^ b + (lih b o q).1, 0 * 2 ^ b + (lih b o q).2.1, (lih b o q).2.2)
    rw [Nat.zero_mul, Nat.zero_add, Nat.zero_add]
  | a + 1, b, o, q => by
    rw [show a + 1 + b = (a + b) + 1 by omega]
    have ih := lih_app a b (ori o (q / 4 ^ (a + b) % 4)) q
    show ((und o (q / 4 ^ (a + b) % 4)).1 * 2 ^ (a + b) + (lih (a + b) (ori o (q / 4 ^ (a + b) % 4)) q).1, (und o (q / 4 ^ (a + b) % 4)).2 * 2 ^ (a + b) + (lih (a + b) (ori o (q / 4 ^ (a + b) % 4)) q).2.1, (lih (a + b) (ori o (q / 4 ^ (a + b) % 4)) q).2.2) = _
    have hs : lih (a + 1) o (q / 4 ^ b) = ((und o (q / 4 ^ (a + b) % 4)).1 * 2 ^ a + (lih a (ori o (q / 4 ^ (a + b) % 4)) (q / 4 ^ b)).1, (und o (q / 4 ^ (a + b) % 4)).2 * 2 ^ a + (lih a (ori o (q / 4 ^ (a + b) % 4)) (q / 4 ^ b)).2.1, (lih a (ori o (q / 4 ^ (a + b) % 4)) (q / 4 ^ b)).2.2) := by
      rw [← div_pow4_div q a b]
      rfl
    rw [ih, hs]
    dsimp only
    rw [Nat.add_mul, Nat.mul_assoc, ← Nat.pow_add, Nat.add_assoc, Nat.add_mul, Nat.mul_assoc, ← Nat.pow_add, Nat.add_assoc]
theorem lih_mod : ∀ (b o q : Nat), lih b o q = lih b o (q % 4 ^ b) := by
  have key : ∀ (b c o q : Nat), b ≤ c → lih b o q = lih b o (q % 4 ^ c) := by
    intro b
    induction b with
    | zero => intro c o q _; rfl
    | succ b ih =>
      intro c o q h
      have e : q % 4 ^ c / 4 ^ b % 4 = q / 4 ^ b % 4 := by
        have : 4 ^ c = 4 ^ b * 4 ^ (c - b) := by rw [← Nat.pow_add]; congr 1; omega
        rw [this, Nat.mod_mul_right_div_self]
        have h2 : 4 ^ (c - b) = 4 * 4 ^ (c - b - 1) := by rw [← Nat.pow_succ']; congr 1; omega
        rw [h2, Nat.mod_mul_right_mod]
      show ((und o (q / 4 ^ b % 4)).1 * 2 ^ b + (lih b (ori o (q / 4 ^ b % 4)) q).1, (und o (q / 4 ^ b % 4)).2 * 2 ^ b + (lih b (ori o (q / 4 ^ b % 4)) q).2.1, (lih b (ori o (q / 4 ^ b % 4)) q).2.2) =
        ((und o (q % 4 ^ c / 4 ^ b % 4)).1 * 2 ^ b + (lih b (ori o (q % 4 ^ c / 4 ^ b % 4)) (q % 4 ^ c)).1, (und o (q % 4 ^ c / 4 ^ b % 4)).2 * 2 ^ b + (lih b (ori o (q % 4 ^ c / 4 ^ b % 4)) (q % 4 ^ c)).2.1, (lih b (ori o (q % 4 ^ c / 4 ^ b % 4)) (q % 4 ^ c)).2.2)
      rw [e, ih c _ q (by omega)]
  intro b o q
  exact key b b o q (Nat.le_refl _)
theorem lih_zeros' {b o q : Nat} (ho : o < 2) (hq : q < 4 ^ b) : lih (2 + b) o q = lih b o q := by
  have h := lih_app 2 b o q
  rw [Nat.div_eq_of_lt hq] at h
  have z : lih 2 o 0 = (0, 0, o) := by
    rcases (show o = 0 ∨ o = 1 by omega) with rfl | rfl <;> decide
  rw [h, z]
  show (0 * 2 ^ b + (lih b o q).1, 0 * 2 ^ b + (lih b o q).2.1, (lih b o q).2.2) = _
  rw [Nat.zero_mul, Nat.zero_add, Nat.zero_add]
theorem lih_zeros {o q : Nat} (ho : o < 2) (hq : q < 4 ^ 30) : lih 32 o q = lih 30 o q := lih_zeros' (b := 30) ho hq
/-- there and back -/
theorem lih_hil : ∀ (b : Nat) {o : Nat} (i j : Nat), o < 4 → lih b o (hil b o i j).1 = (i % 2 ^ b, j % 2 ^ b, (hil b o i j).2)
  | 0, o, i, j, h => by rw [Nat.pow_zero, Nat.mod_one, Nat.mod_one]; rfl
  | b + 1, o, i, j, h => by
    have hd := dig_lt o (i / 2 ^ b % 2) (j / 2 ^ b % 2)
    have ho := ori_lt (d := dig o (i / 2 ^ b % 2) (j / 2 ^ b % 2)) h
    obtain ⟨h1, h2⟩ := hil_lt b i j ho
    have ih := lih_hil b i j ho
    generalize hD : dig o (i / 2 ^ b % 2) (j / 2 ^ b % 2) = D at *
    have hh : hil (b + 1) o i j = (D * 4 ^ b + (hil b (ori o D) i j).1, (hil b (ori o D) i j).2) := by rw [← hD]; rfl
    rw [hh]
    dsimp only
    have hp := pow4_pos b
    have hq : (D * 4 ^ b + (hil b (ori o D) i j).1) / 4 ^ b % 4 = D := by
      rw [Nat.add_comm, Nat.add_mul_div_right _ _ hp, Nat.div_eq_of_lt h1, Nat.zero_add, Nat.mod_eq_of_lt hd]
    show ((und o ((D * 4 ^ b + (hil b (ori o D) i j).1) / 4 ^ b % 4)).1 * 2 ^ b + (lih b (ori o ((D * 4 ^ b + (hil b (ori o D) i j).1) / 4 ^ b % 4)) (D * 4 ^ b + (hil b (ori o D) i j).1)).1,
      (und o ((D * 4 ^ b + (hil b (ori o D) i j).1) / 4 ^ b % 4)).2 * 2 ^ b + (lih b (ori o ((D * 4 ^ b + (hil b (ori o D) i j).1) / 4 ^ b % 4)) (D * 4 ^ b + (hil b (ori o D) i j).1)).2.1,
      (lih b (ori o ((D * 4 ^ b + (hil b (ori o D) i j).1) / 4 ^ b % 4)) (D * 4 ^ b + (hil b (ori o D) i j).1)).2.2) = _
    rw [hq]
    have hm : (D * 4 ^ b + (hil b (ori o D) i j).1) % 4 ^ b = (hil b (ori o D) i j).1 := by
      rw [Nat.add_comm, Nat.add_mul_mod_self_right, Nat.mod_eq_of_lt h1]
    rw [lih_mod b, hm, ih]
    have hu : und o D = (i / 2 ^ b % 2, j / 2 ^ b % 2) := by
      rw [← hD]
      exact und_dig o h _ (Nat.mod_lt _ (by decide)) _ (Nat.mod_lt _ (by decide))
    rw [hu]
    have hx : ∀ x : Nat, x / 2 ^ b % 2 * 2 ^ b + x % 2 ^ b = x % 2 ^ (b + 1) := fun x => by
      rw [Nat.pow_succ, Nat.mod_mul, Nat.mul_comm, Nat.add_comm]
    rw [hx, hx]
theorem hil_lih : ∀ (b : Nat) {o : Nat} (q : Nat), o < 4 → hil b o (lih b o q).1 (lih b o q).2.1 = (q % 4 ^ b, (lih b o q).2.2)
  | 0, o, q, h => by rw [Nat.pow_zero, Nat.mod_one]; rfl
  | b + 1, o, q, h => by
    have hd : q / 4 ^ b % 4 < 4 := Nat.mod_lt _ (by decide)
    have ho := ori_lt (d := q / 4 ^ b % 4) h
    obtain ⟨u1, u2⟩ := und_lt o (q / 4 ^ b % 4)
    obtain ⟨h1, h2, h3⟩ := lih_lt b q ho
    have ih := hil_lih b q ho
    have hg := dig_und o h _ hd
    generalize hD : q / 4 ^ b % 4 = D at *
    have hh : lih (b + 1) o q = ((und o D).1 * 2 ^ b + (lih b (ori o D) q).1, (und o D).2 * 2 ^ b + (lih b (ori o D) q).2.1, (lih b (ori o D) q).2.2) := by rw [← hD]; rfl
    rw [hh]
    dsimp only
    have hp : 0 < 2 ^ b := Nat.pow_pos (by decide)
    have e : ∀ u r : Nat, u < 2 → r < 2 ^ b → (u * 2 ^ b + r) / 2 ^ b % 2 = u ∧ (u * 2 ^ b + r) % 2 ^ b = r := fun u r hu hr => by
      rw [Nat.add_comm, Nat.add_mul_div_right _ _ hp, Nat.div_eq_of_lt hr, Nat.zero_add, Nat.mod_eq_of_lt hu, Nat.add_mul_mod_self_right, Nat.mod_eq_of_lt hr]
      exact ⟨rfl, rfl⟩
    obtain ⟨e1, e2⟩ := e _ _ u1 h1
    obtain ⟨e3, e4⟩ := e _ _ u2 h2
    show (dig o (((und o D).1 * 2 ^ b + (lih b (ori o D) q).1) / 2 ^ b % 2) (((und o D).2 * 2 ^ b + (lih b (ori o D) q).2.1) / 2 ^ b % 2) * 4 ^ b + (hil b (ori o (dig o (((und o D).1 * 2 ^ b + (lih b (ori o D) q).1) / 2 ^ b % 2) (((und o D).2 * 2 ^ b + (lih b (ori o D) q).2.1) / 2 ^ b % 2))) _ _).1,
      (hil b (ori o (dig o (((und o D).1 * 2 ^ b + (lih b (ori o D) q).1) / 2 ^ b % 2) (((und o D).2 * 2 ^ b + (lih b (ori o D) q).2.1) / 2 ^ b % 2))) _ _).2) = _
    rw [e1, e3, hg, hil_mod b, e2, e4, ih]
    have : D * 4 ^ b + q % 4 ^ b = q % 4 ^ (b + 1) := by
      rw [Nat.pow_succ, Nat.mod_mul, ← hD, Nat.mul_comm, Nat.add_comm]
    rw [this]
end Mine
open PySem PySem.W PyProof.Rows PySem.Calls
set_option Elab.async false
set_option linter.unusedVariables false
namespace Mine
def tfX (o q t : Nat) : Nat := (lih (4 * t) o (q / 4 ^ (32 - 4 * t))).1 * 2 ^ (32 - 4 * t)
def tfY (o q t : Nat) : Nat := (lih (4 * t) o (q / 4 ^ (32 - 4 * t))).2.1 * 2 ^ (32 - 4 * t)
def tfB (o q t : Nat) : Nat := (lih (4 * t) o (q / 4 ^ (32 - 4 * t))).2.2
theorem tf_step {o q t : Nat} (ht : t < 8) (ho : o < 4) : ∃ v, v < 1024 ∧
    v = (lih 4 (tfB o q t) (q / 4 ^ (4 * (7 - t)) % 256)).1 * 64 + (lih 4 (tfB o q t) (q / 4 ^ (4 * (7 - t)) % 256)).2.1 * 4 + (lih 4 (tfB o q t) (q / 4 ^ (4 * (7 - t)) % 256)).2.2 ∧
    tfX o q t + v / 64 * 2 ^ (4 * (7 - t)) = tfX o q (t + 1) ∧ tfY o q t + v / 4 % 16 * 2 ^ (4 * (7 - t)) = tfY o q (t + 1) ∧ v % 4 = tfB o q (t + 1) := by
  have hb : tfB o q t < 4 := (lih_lt _ _ ho).2.2
  obtain ⟨h1, h2, h3⟩ := lih_lt 4 (q / 4 ^ (4 * (7 - t)) % 256) hb
  have happ := lih_app (4 * t) 4 o (q / 4 ^ (4 * (7 - t)))
  rw [Nat.div_div_eq_div_mul, ← Nat.pow_add, show 4 * (7 - t) + 4 = 32 - 4 * t by omega] at happ
  have hmod := lih_mod 4 (tfB o q t) (q / 4 ^ (4 * (7 - t)))
  rw [show (4 : Nat) ^ 4 = 256 from rfl] at hmod
  change lih (4 * t + 4) o _ = (_ * 2 ^ 4 + (lih 4 (tfB o q t) _).1, _ * 2 ^ 4 + (lih 4 (tfB o q t) _).2.1, (lih 4 (tfB o q t) _).2.2) at happ
  rw [hmod] at happ
  refine ⟨_, by omega, rfl, ?_, ?_, ?_⟩
  · rw [show ∀ a b c : Nat, b < 2 ^ 4 → c < 4 → (a * 64 + b * 4 + c) / 64 = a from fun a b c _ _ => by omega, ]
    · unfold tfX
      rw [show 32 - 4 * (t + 1) = 4 * (7 - t) by omega, show 4 * (t + 1) = 4 * t + 4 by omega, happ]
      dsimp only
      rw [Nat.add_mul, Nat.mul_assoc, ← Nat.pow_add, show 4 + 4 * (7 - t) = 32 - 4 * t by omega]
    · exact h2
    · exact h3
  · rw [show ∀ a b c : Nat, b < 2 ^ 4 → c < 4 → (a * 64 + b * 4 + c) / 4 % 16 = b from fun a b c _ _ => by omega, ]
    · unfold tfY
      rw [show 32 - 4 * (t + 1) = 4 * (7 - t) by omega, show 4 * (t + 1) = 4 * t + 4 by omega, happ]
      dsimp only
      rw [Nat.add_mul, Nat.mul_assoc, ← Nat.pow_add, show 4 + 4 * (7 - t) = 32 - 4 * t by omega]
    · exact h2
    · exact h3
  · rw [show ∀ a b c : Nat, c < 4 → (a * 64 + b * 4 + c) % 4 = c from fun a b c _ => by omega]
    · unfold tfB
      rw [show 32 - 4 * (t + 1) = 4 * (7 - t) by omega, show 4 * (t + 1) = 4 * t + 4 by omega, happ]
      rfl
    · exact h3
/-- the chunk that the loop cuts out -/
theorem chunk {x t : Nat} (ht : t < 8) : (x / 2 ^ ((7 - t) * 2 * 4 + 1) &&& (1 * 2 ^ (2 * (if t = 0 then 2 else 4)) - 1)) = x / 2 % 4 ^ 30 / 4 ^ (4 * (7 - t)) % 256 := by
  rw [Nat.one_mul, Nat.and_two_pow_sub_one_eq_mod, show (7 - t) * 2 * 4 + 1 = 1 + 8 * (7 - t) by omega, Nat.pow_add, ← Nat.div_div_eq_div_mul, Nat.pow_one, four_pow, four_pow]
  rw [show 2 * (4 * (7 - t)) = 8 * (7 - t) by omega]
  generalize x / 2 = y
  have e : (2 : Nat) ^ (2 * 30) = 2 ^ (8 * (7 - t)) * 2 ^ (60 - 8 * (7 - t)) := by rw [← Nat.pow_add]; congr 1; omega
  rw [e, Nat.mod_mul_right_div_self]
  generalize y / 2 ^ (8 * (7 - t)) = z
  by_cases h : t = 0
  · subst h
    show z % 16 = z % 16 % 256
    omega
  · rw [if_neg h]
    have h2 : (2 : Nat) ^ (60 - 8 * (7 - t)) = 256 * 2 ^ (52 - 8 * (7 - t)) := by
      rw [show (256 : Nat) = 2 ^ 8 from rfl, ← Nat.pow_add]; congr 1; omega
    rw [h2, Nat.mod_mul_right_mod]
/-- the orientation of a cell, told from its middle leaf's -/
def tfO (m b : Nat) : Nat := if m ≠ 0 ∧ m % 2 = 0 then b ^^^ 1 else b
theorem lsb_swap : ∀ m < 31, ((4 ^ m &&& 1229782938247303440) != 0) = decide (m ≠ 0 ∧ m % 2 = 0) := by decide +kernel
end Mine
open PySem PySem.W PyProof.Rows PySem.Calls
set_option Elab.async false
set_option linter.unusedVariables false
namespace Mine
def tfF (m p : Nat) : Nat := p / 4 ^ (30 - m)
def tfQ (m p : Nat) : Nat := cid m p / 2 % 4 ^ 30
/-- face, place and orientation of a cell's middle leaf -/
def tfR (m p : Nat) : Nat × Nat × Nat := lih 30 (tfF m p % 2) (tfQ m p)
/-- place and orientation of a cell on its own level -/
def cR (m p : Nat) : Nat × Nat × Nat := lih (30 - m) (tfF m p % 2) (p % 4 ^ (30 - m))
theorem tfQ_eq {m p : Nat} (h : m ≤ 30) (h0 : 0 < m) : tfQ m p = p % 4 ^ (30 - m) * 4 ^ m + 2 * 4 ^ (m - 1) := by
  obtain ⟨k, rfl⟩ : ∃ k, m = k + 1 := ⟨m - 1, by omega⟩
  unfold tfQ cid
  rw [Nat.add_sub_cancel]
  have hk := pow4_pos k
  have e1 : (2 * p + 1) * 4 ^ (k + 1) / 2 = p * 4 ^ (k + 1) + 2 * 4 ^ k := by
    rw [Nat.pow_succ]
    have : (2 * p + 1) * (4 ^ k * 4) = 2 * (p * (4 ^ k * 4) + 2 * 4 ^ k) := by
      rw [Nat.add_mul, Nat.mul_assoc, Nat.mul_add]; omega
    rw [this, Nat.mul_div_cancel_left _ (by decide)]
  rw [e1]
  have e2 : 4 ^ 30 = 4 ^ (k + 1) * 4 ^ (30 - (k + 1)) := by rw [← Nat.pow_add]; congr 1; omega
  rw [e2, Nat.mod_mul, Nat.mul_comm p (4 ^ (k + 1)), Nat.mul_add_mod, Nat.mul_add_div (pow4_pos _)]
  have hlt : 2 * 4 ^ k < 4 ^ (k + 1) := by rw [Nat.pow_succ]; omega
  rw [Nat.mod_eq_of_lt hlt, Nat.div_eq_of_lt hlt, Nat.add_comm, Nat.mul_comm (4 ^ (k + 1)), Nat.add_zero]
theorem tfQ_zero (p : Nat) : tfQ 0 p = p % 4 ^ 30 := by
  unfold tfQ cid
  rw [Nat.pow_zero, Nat.mul_one]
  congr 1; omega
/-- only first quarters -/
theorem lih_none : ∀ (k : Nat) {o : Nat}, o < 4 → lih k o 0 = (if o < 2 then 0 else 2 ^ k - 1, if o < 2 then 0 else 2 ^ k - 1, if k % 2 = 0 then o else o ^^^ 1)
  | 0, o, h => by
    show (0, 0, o) = _
    simp
  | k + 1, o, h => by
    have ho : ori o 0 = o ^^^ 1 := rfl
    have hx := xor_small h (show 1 < 4 by decide)
    have ih := lih_none k hx
    show ((und o (0 / 4 ^ k % 4)).1 * 2 ^ k + (lih k (ori o (0 / 4 ^ k % 4)) 0).1, (und o (0 / 4 ^ k % 4)).2 * 2 ^ k + (lih k (ori o (0 / 4 ^ k % 4)) 0).2.1, (lih k (ori o (0 / 4 ^ k % 4)) 0).2.2) = _
    rw [Nat.zero_div, show 0 % 4 = 0 from rfl, ho, ih]
    have hk : 0 < 2 ^ k := Nat.pow_pos (by decide)
    have hs : 2 ^ (k + 1) = 2 * 2 ^ k := by rw [Nat.pow_succ]; omega
    have c : o = 0 ∨ o = 1 ∨ o = 2 ∨ o = 3 := by omega
    rw [hs]
    generalize 2 ^ k = y at *
    have hpar : (k + 1) % 2 = 0 ↔ ¬ k % 2 = 0 := by omega
    by_cases hp : k % 2 = 0
    · have hp' : ¬ (k + 1) % 2 = 0 := by omega
      rw [if_pos hp, if_neg hp']
      rcases c with rfl | rfl | rfl | rfl <;> simp [und] <;> omega
    · have hp' : (k + 1) % 2 = 0 := by omega
      rw [if_neg hp, if_pos hp']
      rcases c with rfl | rfl | rfl | rfl <;> simp [und] <;> omega
theorem ori_two (o : Nat) : ori o 2 = o := rfl
/-- how far a cell's middle leaf lies within it -/
def mid (m o : Nat) : Nat := if m = 0 then 0 else if o < 2 then 2 ^ (m - 1) else 2 ^ (m - 1) - 1
theorem lih_mid {m o : Nat} (h0 : 0 < m) (ho : o < 4) : lih m o (2 * 4 ^ (m - 1)) = (mid m o, mid m o, if m % 2 = 0 then o ^^^ 1 else o) := by
  obtain ⟨k, rfl⟩ : ∃ k, m = k + 1 := ⟨m - 1, by omega⟩
  rw [Nat.add_sub_cancel]
  have e1 : 2 * 4 ^ k / 4 ^ k % 4 = 2 := by rw [Nat.mul_div_cancel _ (pow4_pos k)]
  show ((und o (2 * 4 ^ k / 4 ^ k % 4)).1 * 2 ^ k + (lih k (ori o (2 * 4 ^ k / 4 ^ k % 4)) (2 * 4 ^ k)).1, (und o (2 * 4 ^ k / 4 ^ k % 4)).2 * 2 ^ k + (lih k (ori o (2 * 4 ^ k / 4 ^ k % 4)) (2 * 4 ^ k)).2.1, (lih k (ori o (2 * 4 ^ k / 4 ^ k % 4)) (2 * 4 ^ k)).2.2) = _
  rw [e1, ori_two, lih_mod k, Nat.mul_mod_left, lih_none k ho]
  unfold mid
  rw [if_neg (show ¬ k + 1 = 0 by omega), Nat.add_sub_cancel]
  have hk : 0 < 2 ^ k := Nat.pow_pos (by decide)
  have c : o = 0 ∨ o = 1 ∨ o = 2 ∨ o = 3 := by omega
  have hp : k % 2 = 0 ↔ ¬ (k + 1) % 2 = 0 := by omega
  by_cases hq : k % 2 = 0
  · rw [if_pos hq, if_neg (hp.mp hq)]
    rcases c with rfl | rfl | rfl | rfl <;> simp [und]
  · rw [if_neg hq, if_pos (show (k + 1) % 2 = 0 by omega)]
    rcases c with rfl | rfl | rfl | rfl <;> simp [und]
theorem tfR_eq {m p : Nat} (h : m ≤ 30) : (tfR m p).1 = (cR m p).1 * 2 ^ m + mid m (cR m p).2.2 ∧ (tfR m p).2.1 = (cR m p).2.1 * 2 ^ m + mid m (cR m p).2.2 ∧ tfO m (tfR m p).2.2 = (cR m p).2.2 := by
  have ho : tfF m p % 2 < 2 := Nat.mod_lt _ (by decide)
  by_cases h0 : m = 0
  · subst h0
    have : tfR 0 p = cR 0 p := by
      unfold tfR cR
      rw [tfQ_zero]
    rw [this]
    refine ⟨?_, ?_, rfl⟩ <;> (unfold mid; rw [if_pos rfl, Nat.pow_zero, Nat.mul_one, Nat.add_zero])
  · have hm : 0 < m := by omega
    have hc : (cR m p).2.2 < 4 := (lih_lt _ _ (by omega)).2.2
    have happ := lih_app (30 - m) m (tfF m p % 2) (tfQ m p)
    rw [show 30 - m + m = 30 by omega] at happ
    have hlt : 2 * 4 ^ (m - 1) < 4 ^ m := by
      obtain ⟨k, rfl⟩ : ∃ k, m = k + 1 := ⟨m - 1, by omega⟩
      rw [Nat.add_sub_cancel, Nat.pow_succ]
      have := pow4_pos k
      omega
    have hd : tfQ m p / 4 ^ m = p % 4 ^ (30 - m) := by
      rw [tfQ_eq h hm, Nat.add_comm, Nat.add_mul_div_right _ _ (pow4_pos m), Nat.div_eq_of_lt hlt, Nat.zero_add]
    have hmd : tfQ m p % 4 ^ m = 2 * 4 ^ (m - 1) := by
      rw [tfQ_eq h hm, Nat.add_comm, Nat.add_mul_mod_self_right, Nat.mod_eq_of_lt hlt]
    rw [hd, lih_mod m, hmd] at happ
    change tfR m p = ((cR m p).1 * 2 ^ m + (lih m (cR m p).2.2 _).1, (cR m p).2.1 * 2 ^ m + (lih m (cR m p).2.2 _).2.1, (lih m (cR m p).2.2 _).2.2) at happ
    rw [lih_mid hm hc] at happ
    rw [happ]
    refine ⟨rfl, rfl, ?_⟩
    unfold tfO
    dsimp only
    by_cases hp : m % 2 = 0
    · rw [if_pos ⟨h0, hp⟩, if_pos hp, Nat.xor_assoc, Nat.xor_self, Nat.xor_zero]
    · rw [if_neg (fun q => hp q.2), if_neg hp]
/-- the middle, twice as fine -/
theorem mid_delta {m p a o : Nat} (h0 : 0 < m) : 2 * (a * 2 ^ m + mid m o) + (if ((a * 2 ^ m + mid m o) ^^^ cid m p / 2 ^ 2) &&& 1 ≠ 0 then 2 else 0) = (2 * a + 1) * 2 ^ m := by
  obtain ⟨k, rfl⟩ : ∃ k, m = k + 1 := ⟨m - 1, by omega⟩
  have e : cid (k + 1) p / 2 ^ 2 = (2 * p + 1) * 4 ^ k := by
    unfold cid
    rw [Nat.pow_succ, ← Nat.mul_assoc, Nat.mul_div_cancel _ (by decide)]
  have hk : 0 < 2 ^ k := Nat.pow_pos (by decide)
  have hi : a * 2 ^ (k + 1) + mid (k + 1) o = 2 * (a * 2 ^ k) + (if o < 2 then 2 ^ k else 2 ^ k - 1) := by
    unfold mid
    rw [if_neg (show ¬ k + 1 = 0 by omega), Nat.add_sub_cancel, Nat.pow_succ, ← Nat.mul_assoc, Nat.mul_comm (a * 2 ^ k)]
  have hr : (2 * a + 1) * 2 ^ (k + 1) = 2 * (2 * (a * 2 ^ k)) + 2 * 2 ^ k := by
    rw [Nat.pow_succ, Nat.add_mul, Nat.mul_assoc 2 a, ← Nat.mul_assoc a]; omega
  have hpar : k = 0 ∧ (2 : Nat) ^ k = 1 ∧ ((2 * p + 1) * 4 ^ k) % 2 = 1 ∨ (∃ z, (2 : Nat) ^ k = 2 * z) ∧ ((2 * p + 1) * 4 ^ k) % 2 = 0 := by
    cases k with
    | zero => left; refine ⟨rfl, rfl, ?_⟩; rw [Nat.pow_zero, Nat.mul_one]; omega
    | succ j =>
      right
      refine ⟨⟨2 ^ j, by rw [Nat.pow_succ]; omega⟩, ?_⟩
      rw [Nat.pow_succ, ← Nat.mul_assoc]; omega
  rw [e, hi, hr, Nat.and_one_is_mod]
  clear e hi hr
  generalize (2 * p + 1) * 4 ^ k = c at *
  generalize 2 ^ k = y at *
  generalize a * y = z at *
  have hx : ∀ i : Nat, ((i ^^^ c) % 2 ≠ 0) ↔ ¬ (i % 2 = 1 ↔ c % 2 = 1) := fun i => by
    rw [← Nat.xor_mod_two_eq_one]; omega
  by_cases ho : o < 2
  · rw [if_pos ho]
    have hx' := hx (2 * z + y)
    rw [if_neg]
    · omega
    · rw [hx']
      rcases hpar with ⟨_, h1, h2⟩ | ⟨⟨u, h1⟩, h2⟩ <;> omega
  · rw [if_neg ho]
    have hx' := hx (2 * z + (y - 1))
    rw [if_pos]
    · omega
    · rw [hx']
      rcases hpar with ⟨_, h1, h2⟩ | ⟨⟨u, h1⟩, h2⟩ <;> omega
theorem mid_delta2 {m p a b o : Nat} (h0 : 0 < m) : 2 * (b * 2 ^ m + mid m o) + (if ((a * 2 ^ m + mid m o) ^^^ cid m p / 2 ^ 2) &&& 1 ≠ 0 then 2 else 0) = (2 * b + 1) * 2 ^ m := by
  rw [← mid_delta (p := p) (a := b) (o := o) h0]
  obtain ⟨k, rfl⟩ : ∃ k, m = k + 1 := ⟨m - 1, by omega⟩
  have e : ∀ x : Nat, (x * 2 ^ (k + 1) + mid (k + 1) o) % 2 = mid (k + 1) o % 2 := fun x => by
    rw [Nat.pow_succ, ← Nat.mul_assoc]; omega
  have ha := e a
  have hb := e b
  generalize a * 2 ^ (k + 1) + mid (k + 1) o = x at *
  generalize b * 2 ^ (k + 1) + mid (k + 1) o = y at *
  generalize cid (k + 1) p / 2 ^ 2 = c
  have hx : (x ^^^ c) % 2 = 1 ↔ ¬ (x % 2 = 1 ↔ c % 2 = 1) := Nat.xor_mod_two_eq_one
  have hy : (y ^^^ c) % 2 = 1 ↔ ¬ (y % 2 = 1 ↔ c % 2 = 1) := Nat.xor_mod_two_eq_one
  rw [Nat.and_one_is_mod, Nat.and_one_is_mod]
  have : (x ^^^ c) % 2 = (y ^^^ c) % 2 := by
    rw [ha, ← hb] at hx
    by_cases q : (y ^^^ c) % 2 = 1
    · rw [q, hx]; exact hy.mp q
    · have := mt hx.mp (fun z => q (hy.mpr z))
      omega
  rw [this]
end Mine
open PySem PySem.W PyProof.Rows PySem.Calls
set_option Elab.async false
set_option maxRecDepth 100000
set_option linter.unusedVariables false
namespace Mine
theorem lookup_mem {l : List (Str × D)} {x : Str} {d : D} (h : l.lookup x = some d) : (x, d) ∈ l := by
  induction l with
  | nil => cases h
  | cons p l ih =>
    obtain ⟨y, e⟩ := p
    rw [List.lookup_cons] at h
    split at h
    · rename_i q
      cases h
      rw [eq_of_beq q]
      exact List.mem_cons_self
    · exact List.mem_cons_of_mem _ (ih h)
theorem Cx.sub_of {l : List (Str × D)} {Γ : Cx} (h : ∀ p ∈ l, Γ.vars.lookup p.1 = some p.2) : (⟨l, none⟩ : Cx).Sub Γ :=
  ⟨fun x d e => h (x, d) (lookup_mem e), fun x l e => by cases e⟩
theorem all_nil {Γ : Cx} : ∀ p ∈ ([] : List (Str × D)), Γ.vars.lookup p.1 = some p.2 := fun p h => by cases h
theorem all_cons {Γ : Cx} {x : Str} {d : D} {l : List (Str × D)} (h : Γ.vars.lookup x = some d) (k : ∀ p ∈ l, Γ.vars.lookup p.1 = some p.2) : ∀ p ∈ (x, d) :: l, Γ.vars.lookup p.1 = some p.2 := fun p hp => by
  rcases List.mem_cons.mp hp with rfl | hp
  · exact h
  · exact k p hp
section
variable {G : Gx} {n : Nat} {env : Env} {Γ : Cx}
theorem Ev.range3 {px pos : Pos} {args : List Expr} {a b c : Int} (e : nsIn G.K mainGlobals "range" = some none) (hc : c ≠ 0) (hp : Builtin.divisionGoesByPylong (b - a) c = false) (hs : Builtin.Range.small a b c = true)
    (ha : Al G n env Γ pos args [.int a, .int b, .int c]) (hx : env.kindOf "range" = some .globalImplicit) (hplain : (backTo pos (starEach args env)).any (·.1) = false) :
    Iv G n env Γ (.Call (.Name "range" px) args [] pos) (rngL a b c) :=
  Iv.of (Ev.callB e (by rfl) (.type _) (.range3 hc hp) ha hx (by decide) (by decide) hplain) (Itb.rng hs)
theorem Ev.range1 {px pos : Pos} {args : List Expr} {a : Int} (e : nsIn G.K mainGlobals "range" = some none) (hs : Builtin.Range.small 0 a 1 = true)
    (ha : Al G n env Γ pos args [.int a]) (hx : env.kindOf "range" = some .globalImplicit) (hplain : (backTo pos (starEach args env)).any (·.1) = false) :
    Iv G n env Γ (.Call (.Name "range" px) args [] pos) (rngL 0 a 1) :=
  Iv.of (Ev.callB e (by rfl) (.type _) .range1 ha hx (by decide) (by decide) hplain) (Itb.rng hs)
theorem rngL_up (k : Nat) : rngL 0 (k : Int) 1 = (List.range k).map fun i => .int ((i : Nat) : Int) := by
  unfold rngL
  have : (Builtin.Range.rangeSize 0 (k : Int) 1).toNat = k := by
    rw [rangeSize_one]; split <;> omega
  rw [this]
  simp
theorem rngL_down (k : Nat) : rngL ((k : Int) - 1) (-1) (-1) = (List.range k).map fun i => .int ((k : Int) - 1 - (i : Nat)) := by
  unfold rngL
  have : (Builtin.Range.rangeSize ((k : Int) - 1) (-1) (-1)).toNat = k := by
    unfold Builtin.Range.rangeSize
    simp only [show ¬ ((-1 : Int) > 0) by decide, if_false, show (- (-1) : Int) = 1 by decide, Int.ediv_one]
    split <;> omega
  rw [this]
  refine List.map_congr_left fun i _ => ?_
  congr 1; omega
theorem Ex.iteTo {P : Out → Prop} {rest body orelse : List Stmt} {t : Expr} {pos : Pos} {c : Bool} {Γ' : Cx} (ht : Tv G n env Γ t c) (k1 : c = true → Ex G n env Γ body fun o => ∃ Γ'', o = .next Γ'' ∧ Γ'.Sub Γ'') (k2 : c = false → Ex G n env Γ orelse fun o => ∃ Γ'', o = .next Γ'' ∧ Γ'.Sub Γ'') (k : Ex G n env Γ' rest P) :
    Ex G n env Γ (.If t body orelse pos :: rest) P :=
  Ex.ite ht (fun h => (k1 h).mono fun o ⟨Γ'', e, q⟩ => by subst e; exact Ex.sub k q) (fun h => (k2 h).mono fun o ⟨Γ'', e, q⟩ => by subst e; exact Ex.sub k q)
theorem Ex.assign2 {P : Out → Prop} {rest : List Stmt} {elts : List Expr} {k₁ : Nat} {tpos pos : Pos} {e : Expr} {x y : Str} {d1 d2 : D} (he : Ev G n env Γ e (.tup [d1, d2])) (hw : swappedStores [.Tuple elts k₁ tpos] e env = pure (some [x, y]))
    (k : Ex G n env ((Γ.set y d2).set x d1) rest P) (hx : Kind env x := by first | exact .inl rfl | exact .inr rfl) (hy : Kind env y := by first | exact .inl rfl | exact .inr rfl) (hs : swapsWithSole [.Tuple elts k₁ tpos] e pos.line env = pure false := by rfl) :
    Ex G n env Γ (.Assign [.Tuple elts k₁ tpos] e pos :: rest) P :=
  Ex.assignS he hw rfl (AsN.cons (AsN.cons AsN.nil hx) hy) k hs
/-- rows of numbers -/
def dnums (l : List Int) : D := .lst (l.map D.int)
theorem It.nums {l : List Int} {k v : Nat} (h : l[k]? = some (v : Int)) (hk : k < 2 ^ 63) : It G n (dnums l) (.int (k : Int)) (.int (v : Int)) :=
  It.lst (by omega) (by omega) (by rw [Int.toNat_natCast, List.getElem?_map, h]; rfl)
end
end Mine
open PySem PySem.W PyProof.Rows PySem.Calls
set_option Elab.async false
set_option linter.unusedVariables false
namespace Mine
/-- the place within a square, as the orientation sees it -/
def can (b o I J : Nat) : Nat × Nat :=
  let x := if o < 2 then I else 2 ^ b - 1 - I
  let y := if o < 2 then J else 2 ^ b - 1 - J
  if o % 2 = 0 then (x, y) else (y, x)
/-- what the law's own loop makes of a place -/
def cstep (b : Nat) (s : Nat × Nat) : Nat × Nat :=
  let i := s.1 % 2 ^ b
  let j := s.2 % 2 ^ b
  if s.2 / 2 ^ b = 0 then (if s.1 / 2 ^ b = 1 then (2 ^ b - 1 - j, 2 ^ b - 1 - i) else (j, i)) else (i, j)
theorem can_lt {b o I J : Nat} (hI : I < 2 ^ b) (hJ : J < 2 ^ b) : (can b o I J).1 < 2 ^ b ∧ (can b o I J).2 < 2 ^ b := by
  unfold can
  dsimp only
  split <;> split <;> constructor <;> dsimp only <;> omega
theorem can_step {b o I J : Nat} (ho : o < 4) (hI : I < 2 ^ (b + 1)) (hJ : J < 2 ^ (b + 1)) :
    (3 * ((can (b + 1) o I J).1 / 2 ^ b) ^^^ (can (b + 1) o I J).2 / 2 ^ b) = dig o (I / 2 ^ b) (J / 2 ^ b) ∧ cstep b (can (b + 1) o I J) = can b (ori o (dig o (I / 2 ^ b) (J / 2 ^ b))) (I % 2 ^ b) (J % 2 ^ b) := by
  have hy : 0 < 2 ^ b := Nat.pow_pos (by decide)
  rw [Nat.pow_succ] at hI hJ
  have e1 : I / 2 ^ b < 2 := (Nat.div_lt_iff_lt_mul hy).mpr (by omega)
  have e2 : J / 2 ^ b < 2 := (Nat.div_lt_iff_lt_mul hy).mpr (by omega)
  have f1 := Nat.div_add_mod I (2 ^ b)
  have f2 := Nat.div_add_mod J (2 ^ b)
  have g1 : I % 2 ^ b < 2 ^ b := Nat.mod_lt _ hy
  have g2 : J % 2 ^ b < 2 ^ b := Nat.mod_lt _ hy
  have hs : 2 ^ (b + 1) = 2 * 2 ^ b := by rw [Nat.pow_succ]; omega
  have lo : ∀ z, z < 2 ^ b → z / 2 ^ b = 0 ∧ z % 2 ^ b = z := fun z h => ⟨Nat.div_eq_of_lt h, Nat.mod_eq_of_lt h⟩
  have up : ∀ z, z < 2 ^ b → (2 ^ b + z) / 2 ^ b = 1 ∧ (2 ^ b + z) % 2 ^ b = z := fun z h => by
    rw [Nat.add_comm, Nat.add_div_right _ hy, Nat.add_mod_right, Nat.div_eq_of_lt h, Nat.mod_eq_of_lt h]
    exact ⟨rfl, rfl⟩
  generalize hx : I / 2 ^ b = x at *
  generalize hz : J / 2 ^ b = z at *
  generalize hi : I % 2 ^ b = i at *
  generalize hj : J % 2 ^ b = j at *
  have eI : I = 2 ^ b * x + i := f1.symm
  have eJ : J = 2 ^ b * z + j := f2.symm
  have ri : 2 ^ b - 1 - i < 2 ^ b := by omega
  have rj : 2 ^ b - 1 - j < 2 ^ b := by omega
  have cx : x = 0 ∨ x = 1 := by omega
  have cz : z = 0 ∨ z = 1 := by omega
  have co : o = 0 ∨ o = 1 ∨ o = 2 ∨ o = 3 := by omega
  unfold can cstep
  rw [hs, eI, eJ]
  have n1 : 2 * 2 ^ b - 1 - i = 2 ^ b + (2 ^ b - 1 - i) := by omega
  have n2 : 2 * 2 ^ b - 1 - (2 ^ b + i) = 2 ^ b - 1 - i := by omega
  have n3 : 2 * 2 ^ b - 1 - j = 2 ^ b + (2 ^ b - 1 - j) := by omega
  have n4 : 2 * 2 ^ b - 1 - (2 ^ b + j) = 2 ^ b - 1 - j := by omega
  have m1 : 2 ^ b * 0 + i = i := by omega
  have m2 : 2 ^ b * 1 + i = 2 ^ b + i := by omega
  have m3 : 2 ^ b * 0 + j = j := by omega
  have m4 : 2 ^ b * 1 + j = 2 ^ b + j := by omega
  have k1 : 2 ^ b - 1 - (2 ^ b - 1 - i) = i := by omega
  have k2 : 2 ^ b - 1 - (2 ^ b - 1 - j) = j := by omega
  obtain ⟨a1, a2⟩ := lo i g1
  obtain ⟨a3, a4⟩ := lo j g2
  obtain ⟨b1, b2⟩ := up i g1
  obtain ⟨b3, b4⟩ := up j g2
  obtain ⟨c1, c2⟩ := lo _ ri
  obtain ⟨c3, c4⟩ := lo _ rj
  obtain ⟨d1, d2⟩ := up _ ri
  obtain ⟨d3, d4⟩ := up _ rj
  rcases co with rfl | rfl | rfl | rfl <;> rcases cx with rfl | rfl <;> rcases cz with rfl | rfl <;>
    simp only [n1, n2, n3, n4, m1, m2, m3, m4, k1, k2, a1, a2, a3, a4, b1, b2, b3, b4, c1, c2, c3, c4, d1, d2, d3, d4, dig, ori, show (0 : Nat) < 2 by decide, show (1 : Nat) < 2 by decide, show ¬ (2 : Nat) < 2 by decide, show ¬ (3 : Nat) < 2 by decide, if_true, if_false, Nat.zero_mod, show 1 % 2 = 1 by decide, show 2 % 2 = 0 by decide, show 3 % 2 = 1 by decide, Nat.one_ne_zero, show (0 : Nat) ^^^ 1 = 1 by decide, show (1 : Nat) ^^^ 1 = 0 by decide, show (2 : Nat) ^^^ 1 = 3 by decide, show (3 : Nat) ^^^ 1 = 2 by decide, show (0 : Nat) ^^^ 3 = 3 by decide, show (1 : Nat) ^^^ 3 = 2 by decide, show (2 : Nat) ^^^ 3 = 1 by decide, show (3 : Nat) ^^^ 3 = 0 by decide, show (0 : Nat) = 1 ↔ False by decide, show (1 : Nat) = 0 ↔ False by decide, true_and, and_true] <;> first | decide | trivial | rfl
theorem small_down : ∀ k < 40, Builtin.Range.small ((k : Nat) - 1 : Int) (-1) (-1) = true := by decide +kernel
end Mine
open PySem PySem.W PyProof.Rows PySem.Calls
set_option Elab.async false
set_option maxRecDepth 100000
set_option linter.unusedVariables false
namespace Mine
section
variable {G : Gx} {n : Nat} {env : Env} {Γ : Cx}
/-- tuple of a tuple -/
theorem BuOk.tupTup {ds : List D} : BuOk G n (.type "tuple") [.tup ds] (.tup ds) := by
  intro S s vs g k r A Q E hA q
  unfold RdL at r
  obtain ⟨v, w, rfl, ro, r⟩ := r
  unfold RdL at r; subst r
  have ro' := ro
  unfold Rd at ro
  obtain ⟨a, vs, rfl, ht, rl⟩ := ro
  exact call_tuple_same (ht.is k) (q _ S _ (Ext.refl k) ro')
end
end Mine
namespace Mine
section
variable {prog : Program} {w : World} {A : Around} {E : Value → Shared → Prop} {s : Shared}
theorem adjust_to (k n : Nat) (h : k ≤ n) : Builtin.Slice.sliceAdjust none (some (k : Int)) 1 (n : Int) = (0, (k : Int)) := by
  unfold Builtin.Slice.sliceAdjust
  have h1 : ¬ ((1 : Int) < 0) := by omega
  have h2 : ¬ ((k : Int) < 0) := by omega
  simp only [h1, h2, if_false]
  congr 1
  omega
theorem places_to (k : Nat) : Builtin.Slice.slicePlaces 0 (k : Int) 1 = k := by
  unfold Builtin.Slice.slicePlaces
  have h1 : (1 : Int) > 0 := by omega
  simp only [h1, if_true, Int.ediv_one]
  split <;> omega
theorem applied_to {sl : Addr} {k n : Nat} {u : Tok} {Q : Int × Int × Nat → Shared → Prop} (hs : s.heap.IsSliceOf sl .none (.int k u) .none) (hk : k ≤ n) (h : Q (0, 1, k) s) :
    wpAny (model prog w) A (Builtin.Slice.sliceApplied (.ref sl) (pure (n : Int))) Q E s := by
  obtain ⟨os, hos, hcs, hds⟩ := id hs
  unfold Builtin.Slice.sliceApplied Builtin.Slice.sliceFields
  refine wpAny_bind (wpAny_bind (wpAny_field hos hds (x := .none) rfl (wpAny_bind (wpAny_field hos hds (x := .int k u) rfl (wpAny_bind (wpAny_field hos hds (x := .none) rfl (wpAny_pure ?_)))))))
  refine wpAny_bind (slicePart_none ?_)
  show wpAny _ _ (if ((1 : Int) == 0) = true then _ else _) _ _ s
  rw [if_neg (by decide)]
  refine wpAny_bind (slicePart_none (wpAny_bind (slicePart_int (wpAny_bind (wpAny_pure ?_)))))
  show wpAny _ _ (match Builtin.Slice.sliceAdjust none (some (k : Int)) 1 (n : Int) with | (lo, hi) => pure (lo, (1 : Int), Builtin.Slice.slicePlaces lo hi 1)) _ _ s
  rw [adjust_to k n hk]
  show wpAny _ _ (pure ((0 : Int), (1 : Int), Builtin.Slice.slicePlaces 0 (k : Int) 1)) _ _ s
  rw [places_to]
  exact wpAny_pure h
theorem pick_to (xs : Array Value) (k : Nat) (h : k ≤ xs.size) : ((List.range k).filterMap fun (i : Nat) => xs[((0 : Int) + (i : Int) * 1).toNat]?).toArray = (xs.toList.take k).toArray := by
  congr 1
  have e : ∀ k, k ≤ xs.size → (List.range k).filterMap (fun (i : Nat) => xs[((0 : Int) + (i : Int) * 1).toNat]?) = xs.toList.take k := by
    intro k
    induction k with
    | zero => intro _; rfl
    | succ k ih =>
      intro hk
      have hlt : k < xs.toList.length := by rw [Array.length_toList]; omega
      have hj : ((0 : Int) + (k : Int) * 1).toNat = k := by omega
      have hx : xs[k]? = some xs.toList[k] := by simp [show k < xs.size by omega]
      rw [List.range_succ, List.filterMap_append, ih (by omega), List.take_succ_eq_append_getElem hlt]
      congr 1
      simp only [List.filterMap_cons, List.filterMap_nil, hj, hx]
  exact e k h
theorem getItem_tup_to {t sl : Addr} {items : Array Value} {k : Nat} {u : Tok} {Q : Value → Shared → Prop} (ht : IsTup s.heap t items) (hs : s.heap.IsSliceOf sl .none (.int k u) .none) (hk : k < items.size)
    (h : Q (.ref s.heap.objs.size) { s with heap := s.heap.push { cls := .type "tuple", data := .seq (items.toList.take k).toArray } })
    (hsz : items.size ≤ sizeLine) : wpAny (model prog w) A (getItem (.ref t) (.ref sl)) Q E s := by
  have htake : sizeOk (.seq (items.toList.take k).toArray) := by
    show (items.toList.take k).toArray.size ≤ sizeLine
    rw [List.size_toArray, List.length_take, Array.length_toList]
    omega
  obtain ⟨os, hos, hcs, hds⟩ := id hs
  have hTs : s.TypeIs (.ref sl) "slice" := ⟨os, hos, hcs⟩
  unfold getItem
  try with_reducible refine wpAny_holding ?_
  first | refine wpAny_bind (wpAny_pure ?_) | skip
  refine wpAny_bind (wpAny_sequenceKey ht.typeIs (by decide) ?_)
  refine wpAny_bind (wpAny_callSpecial?_slot (name := Str.ofString "__getitem__") ht.typeIs slot_tuple_getitem
    (wpAny_call_entry slot_tuple_getitem ht.typeIs entry_tuple_getitem ?_ (args_tuple_getitem _ _)))
  show wpAny _ _ (Builtin.Tuple.tupleItemsOf (.ref t) >>= _) _ _ s
  refine wpAny_bind (tupleItemsOf_ ht ?_)
  refine wpAny_bind (wpAny_typeOf hTs ?_)
  rw [if_pos (by decide)]
  refine wpAny_bind (applied_to hs (Nat.le_of_lt hk) ?_)
  have hno : ¬ (((0 : Int) == 0 && (1 : Int) == 1 && k == items.size) = true) := by
    have : (k == items.size) = false := by rw [beq_eq_false_iff_ne]; omega
    rw [this]; simp
  show wpAny _ _ (if ((0 : Int) == 0 && (1 : Int) == 1 && k == items.size) = true then _ else _) _ _ s
  rw [if_neg hno, pick_to items k (Nat.le_of_lt hk)]
  first
    | exact wpAny_bind (m := Builtin.Tuple.tupleExact _) (wpAny_newObj_type (wpAny_pure ⟨_, rfl, wpAny_pure h⟩) htake)
    | exact wpAny_bind (m := Builtin.Tuple.tupleExact _) (wpAny_newObj_type (wpAny_bind (wpAny_pure (wpAny_pure ⟨_, rfl, wpAny_pure h⟩))) htake)
    | exact wpAny_bind (wpAny_bind (m := Builtin.Tuple.tupleExact _) (wpAny_newObj_type (wpAny_pure (wpAny_pure ⟨_, rfl, wpAny_pure h⟩)) htake))
    | exact wpAny_bind (wpAny_bind (m := Builtin.Tuple.tupleExact _) (wpAny_newObj_type (wpAny_pure ⟨_, rfl, wpAny_pure h⟩) htake))
end
section
variable {G : Gx} {n : Nat} {env : Env} {Γ : Cx}
theorem RdL.take {S : Gh} : ∀ (k : Nat) {ds : List D} {vs : List Value}, RdL G S ds vs → RdL G S (ds.take k) (vs.take k)
  | 0, _, _, _ => by rw [List.take_zero, List.take_zero]; exact RdL.nil
  | k + 1, [], vs, h => by unfold RdL at h; subst h; exact RdL.nil
  | k + 1, d :: ds, vs, h => by
    unfold RdL at h
    obtain ⟨v, r, rfl, a, b⟩ := h
    exact RdL.cons a (RdL.take k b)
/-- the first items of a tuple -/
theorem Ev.tupTo {v e : Expr} {p pos : Pos} {ds : List D} {k : Nat} (hv : Ev G n env Γ v (.tup ds)) (he : Ev G n env Γ e (.int (k : Int))) (hk : k < ds.length) (hsz : ds.length ≤ sizeLine) :
    Ev G n env Γ (.Subscript v (.Slice none (some e) none p) pos) (.tup (ds.take k)) := by
  intro h₀ S s F A Q E hA q
  refine Subscript_ (hv h₀ S s F A _ E hA fun o S1 s1 X1 ro => ?_)
  refine wpAny_Slice ?_
  rw [evalPart_none, evalPart_some]
  refine wpAny_pure (he h₀ S1 s1 (F.ext X1) A _ E hA fun i S2 s2 X2 ri => wpAny_pure ?_)
  have ro2 := Rd.le X2.le _ _ ro
  unfold Rd at ro2
  obtain ⟨a, vs, rfl, ht, rl⟩ := ro2
  obtain ⟨u, rfl⟩ := ri
  have P := Ext.pushG X2.sub { cls := .type "slice", data := .fields #[.none, .int (k : Int) u, .none] } s2.toks
  have T := ht.is P.sub
  have hz : vs.size = ds.length := by rw [← rl.length, Array.length_toList]
  refine tail_any T.typeIs slot_tuple_getitem.lookup (getItem_tup_to (k := k) T ⟨_, Heap.get?_push_size _ rfl, rfl, rfl⟩ (by rw [hz]; exact hk) ?_ (by rw [hz]; exact hsz)) rfl
  refine newSeq P.sub (P := Q) fun S' s' X' ⟨o, e, t⟩ => q _ S' s' ((X1.trans X2).trans (P.trans X')) ?_
  unfold Rd
  exact ⟨_, _, rfl, ⟨o, e, t⟩, by simpa using RdL.le X'.le _ _ (rl.take k)⟩
end
end Mine
open PySem PySem.W PyProof.Rows PySem.Calls
set_option Elab.async false
set_option linter.unusedVariables false
namespace Mine
/-- the place of a square on its level -/
def lpos (f l I J : Nat) : Nat := f * 4 ^ l + (hil l (f % 2) I J).1
theorem lpos_lt {f l I J : Nat} (hf : f < 6) : lpos f l I J < 6 * 4 ^ l := by
  unfold lpos
  have := (hil_lt l (o := f % 2) I J (by omega)).1
  have : f * 4 ^ l ≤ 5 * 4 ^ l := Nat.mul_le_mul_right _ (by omega)
  omega
theorem lpos_face {f l I J : Nat} : lpos f l I J / 4 ^ l = f := by
  unfold lpos
  have := (hil_lt l (o := f % 2) I J (by omega)).1
  rw [Nat.add_comm, Nat.add_mul_div_right _ _ (pow4_pos l), Nat.div_eq_of_lt this, Nat.zero_add]
theorem lpos_up {f a b I J : Nat} : lpos f (a + b) I J / 4 ^ b = lpos f a (I / 2 ^ b) (J / 2 ^ b) := by
  have hb := (hil_lt b (o := (hil a (f % 2) (I / 2 ^ b) (J / 2 ^ b)).2) I J (hil_lt a _ _ (by omega)).2).1
  unfold lpos
  rw [hil_app a b]
  dsimp only
  rw [Nat.pow_add, ← Nat.mul_assoc, ← Nat.add_assoc, ← Nat.add_mul, Nat.add_comm, Nat.add_mul_div_right _ _ (pow4_pos b), Nat.div_eq_of_lt hb, Nat.zero_add]
theorem lpos_down {f l a b k : Nat} (hk : k < 4) : 4 * lpos f l a b + k = lpos f (l + 1) (2 * a + (und (hil l (f % 2) a b).2 k).1) (2 * b + (und (hil l (f % 2) a b).2 k).2) := by
  have ho := (hil_lt l (o := f % 2) a b (by omega)).2
  obtain ⟨u1, u2⟩ := und_lt (hil l (f % 2) a b).2 k
  have hd := dig_und _ ho k hk
  unfold lpos
  rw [hil_app l 1]
  have e : ∀ a x : Nat, x < 2 → (2 * a + x) / 2 ^ 1 = a ∧ (2 * a + x) / 2 ^ 0 % 2 = x := fun a x h => by
    rw [Nat.pow_one, Nat.pow_zero, Nat.div_one]; omega
  obtain ⟨e1, e2⟩ := e a _ u1
  obtain ⟨e3, e4⟩ := e b _ u2
  rw [e1, e3]
  dsimp only
  have h1 : (hil 1 (hil l (f % 2) a b).2 (2 * a + (und (hil l (f % 2) a b).2 k).1) (2 * b + (und (hil l (f % 2) a b).2 k).2)).1 = k := by
    show dig _ _ _ * 4 ^ 0 + 0 = k
    rw [e2, e4, hd, Nat.pow_zero, Nat.mul_one, Nat.add_zero]
  rw [h1, Nat.pow_succ, ← Nat.mul_assoc f]
  omega
theorem cR_lpos {f l a b : Nat} (hl : l ≤ 30) (ha : a < 2 ^ l) (hb : b < 2 ^ l) : tfF (30 - l) (lpos f l a b) = f ∧ cR (30 - l) (lpos f l a b) = (a, b, (hil l (f % 2) a b).2) := by
  have e : 30 - (30 - l) = l := by omega
  have hF : tfF (30 - l) (lpos f l a b) = f := by
    unfold tfF
    rw [e, lpos_face]
  refine ⟨hF, ?_⟩
  unfold cR
  rw [hF, e]
  have hm : lpos f l a b % 4 ^ l = (hil l (f % 2) a b).1 := by
    unfold lpos
    rw [Nat.add_comm, Nat.add_mul_mod_self_right, Nat.mod_eq_of_lt (hil_lt l a b (by omega)).1]
  rw [hm, lih_hil l a b (by omega), Nat.mod_eq_of_lt ha, Nat.mod_eq_of_lt hb]
theorem mid_lt (m o : Nat) : mid m o < 2 ^ m := by
  unfold mid
  have hm : 0 < 2 ^ m := Nat.pow_pos (by decide)
  split
  · exact hm
  · rename_i h
    obtain ⟨k, rfl⟩ : ∃ k, m = k + 1 := ⟨m - 1, by omega⟩
    rw [Nat.add_sub_cancel]
    have hk : 0 < 2 ^ k := Nat.pow_pos (by decide)
    rw [Nat.pow_succ]
    split <;> omega
theorem B2.modI {G : Gx} {n : Nat} {x : Int} {k : Nat} (hk : 0 < k) : B2 G n (binaryOp .Mod) (.int x) (.int (k : Int)) (.int (((x % (k : Int)).toNat : Nat) : Int)) := (B2.mod (by omega)).to (by
  have := Int.emod_nonneg x (show (k : Int) ≠ 0 by omega)
  rw [Int.fmod_eq_emod_of_nonneg _ (by omega), Int.toNat_of_nonneg this])
theorem modI_lt {x : Int} {k : Nat} (hk : 0 < k) : (x % (k : Int)).toNat < k := by
  have := Int.emod_nonneg x (show (k : Int) ≠ 0 by omega)
  have := Int.emod_lt_of_pos x (show (0 : Int) < k by omega)
  omega
end Mine
open PySem PySem.W PyProof.Rows PySem.Calls
set_option Elab.async false
set_option linter.unusedVariables false
namespace Mine
section
variable {G : Gx} {n : Nat} {env : Env} {Γ : Cx} {P : Out → Prop} {rest : List Stmt}
/-- a check that isn't met: go on -/
theorem Ex.chk {t : Expr} {body : List Stmt} {pos : Pos} (h : Tv G n env Γ t false) (k : Ex G n env Γ rest P) : Ex G n env Γ (.If t body [] pos :: rest) P :=
  Ex.ite h (fun e => by cases e) (fun _ => Ex.done k)
theorem TvA.orF {x : Expr} {es : List Expr} (h : Tv G n env Γ x false) (k : TvA G n env Γ .Or es false) : TvA G n env Γ .Or (x :: es) false := TvA.or (b := false) h fun _ => k
theorem Tv.notF {e : Expr} {pos : Pos} (h : Tv G n env Γ e true) : Tv G n env Γ (.UnaryOp .Not e pos) false := Tv.not h
theorem neF {α : Type} [BEq α] [LawfulBEq α] {a b : α} (h : a = b) : (a != b) = false := by rw [h]; exact bne_self_eq_false b
theorem C2.of_bool {op : CmpOp} {a b : Bool} {c : Bool}
    (h : ∀ (A : Around) (Q : Value → Shared → Prop) (E : Value → Shared → Prop) (s : Shared), Q (.bool c) s → wpAny (model G.prog G.w) A (compareOp op (.bool a) (.bool b)) Q E s) :
    C2 G n op (.bool a) (.bool b) c := by
  intro S s va vb g hs ra rb A Q E hA q
  obtain rfl : va = .bool a := ra
  obtain rfl : vb = .bool b := rb
  exact h A Q E s (q _ S _ (Ext.refl hs) rfl)
theorem C2.eqB {a b : Bool} : C2 G n .Eq (.bool a) (.bool b) (a == b) := .of_bool fun _ _ _ _ h => eq_bool h
theorem C2.neB {a b : Bool} : C2 G n .NotEq (.bool a) (.bool b) (a != b) := .of_bool fun _ _ _ _ h => ne_bool h
theorem C2.to {op : CmpOp} {a b : D} {c c' : Bool} (h : C2 G n op a b c) (q : c = c') : C2 G n op a b c' := q ▸ h
theorem deq_nat {k a b : Nat} : deq (k + 1) (.int (a : Int)) (.int (b : Int)) = some (a == b) := by
  show some ((a : Int) == (b : Int)) = _
  congr 1
  rw [Bool.eq_iff_iff]; simp; omega
theorem deq2 {a b a' b' : Nat} : deq 80 (.tup [.int (a : Int), .int (b : Int)]) (.tup [.int (a' : Int), .int (b' : Int)]) = some (a == a' && b == b') := by
  show deqL (deq 79) _ _ = _
  unfold deqL
  rw [deq_nat]
  unfold deqL
  rw [deq_nat]
  simp [deqL]
theorem deq3 {a b c a' b' c' : Nat} : deq 80 (.tup [.int (a : Int), .int (b : Int), .int (c : Int)]) (.tup [.int (a' : Int), .int (b' : Int), .int (c' : Int)]) = some (a == a' && b == b' && c == c') := by
  show deqL (deq 79) _ _ = _
  unfold deqL
  rw [deq_nat]
  unfold deqL
  rw [deq_nat]
  unfold deqL
  rw [deq_nat]
  simp [deqL, Bool.and_assoc]
theorem C2.ne2 {a b a' b' : Nat} : C2 G n .NotEq (.tup [.int (a : Int), .int (b : Int)]) (.tup [.int (a' : Int), .int (b' : Int)]) (!(a == a' && b == b')) := C2.neTup deq2
theorem C2.ne3 {a b c a' b' c' : Nat} : C2 G n .NotEq (.tup [.int (a : Int), .int (b : Int), .int (c : Int)]) (.tup [.int (a' : Int), .int (b' : Int), .int (c' : Int)]) (!(a == a' && b == b' && c == c')) := C2.neTup deq3
theorem C2.notIn4 {o : Nat} (h : o < 4) : C2 G n .NotIn (.int (o : Int)) (.tup [.int ((0 : Nat) : Int), .int ((1 : Nat) : Int), .int ((2 : Nat) : Int), .int ((3 : Nat) : Int)]) false := by
  refine C2.to (C2.notInTup (fun y hy => ?_)) ?_
  · simp only [List.mem_cons, List.not_mem_nil, or_false] at hy
    rcases hy with rfl | rfl | rfl | rfl <;> rfl
  · unfold dmem
    simp only [List.any_cons, List.any_nil, deq_nat]
    have : o = 0 ∨ o = 1 ∨ o = 2 ∨ o = 3 := by omega
    rcases this with rfl | rfl | rfl | rfl <;> rfl
end
end Mine
open PySem PySem.W PyProof.Rows PySem.Calls
set_option Elab.async false
set_option maxRecDepth 100000
set_option maxHeartbeats 0
set_option linter.unusedVariables false
namespace Mine
open PySem.Challenge
noncomputable def pp : Program := pw_lp0001_11
/-! the program's parts, by their places -/
noncomputable def stAt (i : Nat) : Stmt := pp.main.body.getD i (.Pass default)
noncomputable def stIn (i j : Nat) : Stmt := match stAt i with
  | .ClassDef _ _ _ body _ _ _ _ _ _ _ => body.getD j (.Pass default)
  | s => s
def fnAt (st : Stmt) (name qual : Str) (dV kV doc pm : Value) (an : Option Addr) (cdv ct : Value) : FuncData := match st with
  | .FunctionDef _ params body _ _ _ scope _ _ _ => fnOf name qual params body scope dV kV doc pm an cdv ct
  | _ => fnOf name qual ⟨[], [], none, [], [], none, []⟩ [] default dV kV doc pm an cdv ct
def intsOf : PySem.Expr → List Int
  | .List es _ => es.map fun e => match e with | .Constant (.int i) _ _ => i | _ => 0
  | _ => []
noncomputable def rowAt (i : Nat) : List Int := match stAt i with
  | .Assign _ v _ => intsOf v
  | _ => []
noncomputable def rowIn (i j : Nat) : List Int := match stAt i with
  | .Assign _ (.List es _) _ => (es[j]?.map intsOf).getD []
  | _ => []
def toksFrom : Nat → List Int → List Value
  | _, [] => []
  | t, i :: l => .int i t :: toksFrom (t + 1) l
def en (P : Params) (x : Str) (t : Nat) (v : Value) : DictEntry := ⟨PyData.keyHash P x, .str x t, v⟩
noncomputable def o2 (P : Params) : Obj := { cls := .none, data := .dict #[] }
noncomputable def o3 (P : Params) : Obj := { cls := .type "dict", data := .dict #[(en P "__name__" 165 <| .str "law_lp0001_11" 2864), (en P "__doc__" 166 <| .none), (en P "__package__" 167 <| .none), (en P "__loader__" 168 <| .builtin "__main__.__loader__#opaque"), (en P "__spec__" 169 <| .none), (en P "__annotations__" 170 <| .ref 6), (en P "__builtins__" 171 <| .ref 4), (en P "__file__" 173 <| .str "/claim/cut.py" 172), (en P "__cached__" 174 <| .none), (en P "_wall" 193 <| .ref 21), (en P "LOOKUP_BITS" 197 <| .int 4 196), (en P "SWAP_MASK" 199 <| .int 1 198), (en P "INVERT_MASK" 201 <| .int 2 200), (en P "POS_TO_ORIENTATION" 206 <| .ref 22), (en P "LOOKUP_POS" 1231 <| .ref 31), (en P "LOOKUP_IJ" 2256 <| .ref 40), (en P "CellId" 2863 <| .ref 444), (en P "_law_number" 2873 <| .ref 455), (en P "_law_pick" 2882 <| .ref 462), (en P "_law_place" 2897 <| .ref 469), (en P "_law_id" 2907 <| .ref 476), (en P "law" 2930 <| .ref 483)] 22 }
noncomputable def o22 : Obj := ⟨(.type "list"), none, .seq (toksFrom 202 (rowAt 5)).toArray 0, #[]⟩
noncomputable def o23 : Obj := ⟨(.type "list"), none, .seq (toksFrom 207 (rowIn 6 0)).toArray 0, #[]⟩
noncomputable def o24 : Obj := ⟨(.type "list"), none, .seq (toksFrom 335 (rowIn 6 1)).toArray 0, #[]⟩
noncomputable def o25 : Obj := ⟨(.type "list"), none, .seq (toksFrom 463 (rowIn 6 2)).toArray 0, #[]⟩
noncomputable def o26 : Obj := ⟨(.type "list"), none, .seq (toksFrom 591 (rowIn 6 3)).toArray 0, #[]⟩
noncomputable def o27 : Obj := ⟨(.type "list"), none, .seq (toksFrom 719 (rowIn 6 4)).toArray 0, #[]⟩
noncomputable def o28 : Obj := ⟨(.type "list"), none, .seq (toksFrom 847 (rowIn 6 5)).toArray 0, #[]⟩
noncomputable def o29 : Obj := ⟨(.type "list"), none, .seq (toksFrom 975 (rowIn 6 6)).toArray 0, #[]⟩
noncomputable def o30 : Obj := ⟨(.type "list"), none, .seq (toksFrom 1103 (rowIn 6 7)).toArray 0, #[]⟩
noncomputable def o31 : Obj := ⟨(.type "list"), none, .seq #[(.ref 23), (.ref 24), (.ref 25), (.ref 26), (.ref 27), (.ref 28), (.ref 29), (.ref 30)] 0, #[]⟩
noncomputable def o32 : Obj := ⟨(.type "list"), none, .seq (toksFrom 1232 (rowIn 7 0)).toArray 0, #[]⟩
noncomputable def o33 : Obj := ⟨(.type "list"), none, .seq (toksFrom 1360 (rowIn 7 1)).toArray 0, #[]⟩
noncomputable def o34 : Obj := ⟨(.type "list"), none, .seq (toksFrom 1488 (rowIn 7 2)).toArray 0, #[]⟩
noncomputable def o35 : Obj := ⟨(.type "list"), none, .seq (toksFrom 1616 (rowIn 7 3)).toArray 0, #[]⟩
noncomputable def o36 : Obj := ⟨(.type "list"), none, .seq (toksFrom 1744 (rowIn 7 4)).toArray 0, #[]⟩
noncomputable def o37 : Obj := ⟨(.type "list"), none, .seq (toksFrom 1872 (rowIn 7 5)).toArray 0, #[]⟩
noncomputable def o38 : Obj := ⟨(.type "list"), none, .seq (toksFrom 2000 (rowIn 7 6)).toArray 0, #[]⟩
noncomputable def o39 : Obj := ⟨(.type "list"), none, .seq (toksFrom 2128 (rowIn 7 7)).toArray 0, #[]⟩
noncomputable def o40 : Obj := ⟨(.type "list"), none, .seq #[(.ref 32), (.ref 33), (.ref 34), (.ref 35), (.ref 36), (.ref 37), (.ref 38), (.ref 39)] 0, #[]⟩
noncomputable def o48 : Obj := ⟨(.type "tuple"), none, .seq #[(.int 0 2292)] 0, #[]⟩
noncomputable def o54 (P : Params) : Obj := { cls := .type "code", data := .fields #[.str "__init__" 2293, .str "CellId.__init__" 2294, .str "/claim/cut.py" 2295, .int 23 0, .int 2 0, .int 0 0, .int 0 0, .int 3 0, .ref 49, .bool true, .int 181 0, .ref 50, .none, .ref 51, .ref 52, .ref 53, .int 2298 0, .int 23 0, .str "/claim/cut.py" 2299] }
noncomputable def o55 : Obj := ⟨(.type "function"), none, .func (fnAt (stIn 8 10) "__init__" "CellId.__init__" (.ref 48) .none .none (.str "s2sphere.sphere" 194) none (.ref 54) .none), #[]⟩
noncomputable def o117 (P : Params) : Obj := { cls := .type "code", data := .fields #[.str "from_face_pos_level" 2363, .str "CellId.from_face_pos_level" 2364, .str "/claim/cut.py" 2365, .int 50 0, .int 4 0, .int 0 0, .int 0 0, .int 3 0, .ref 112, .bool true, .int 181 0, .ref 113, .none, .ref 114, .ref 115, .ref 116, .int 2370 0, .int 50 0, .str "/claim/cut.py" 2371] }
noncomputable def o118 : Obj := ⟨(.type "function"), none, .func (fnAt (stIn 8 19) "from_face_pos_level" "CellId.from_face_pos_level" .none .none .none (.str "s2sphere.sphere" 194) (some 121) (.ref 117) .none), #[]⟩
noncomputable def o120 (P : Params) : Obj := { cls := .type "classmethod", dict := some 119, data := .fields #[.ref 118, .bool false] }
noncomputable def o127 (P : Params) : Obj := { cls := .type "code", data := .fields #[.str "from_face_ij" 2385, .str "CellId.from_face_ij" 2386, .str "/claim/cut.py" 2387, .int 54 0, .int 4 0, .int 0 0, .int 0 0, .int 3 0, .ref 122, .bool true, .int 181 0, .ref 123, .none, .ref 124, .ref 125, .ref 126, .int 2396 0, .int 54 0, .str "/claim/cut.py" 2397] }
noncomputable def o128 : Obj := ⟨(.type "function"), none, .func (fnAt (stIn 8 20) "from_face_ij" "CellId.from_face_ij" .none .none .none (.str "s2sphere.sphere" 194) (some 131) (.ref 127) .none), #[]⟩
noncomputable def o130 (P : Params) : Obj := { cls := .type "classmethod", dict := some 129, data := .fields #[.ref 128, .bool false] }
noncomputable def o167 (P : Params) : Obj := { cls := .type "code", data := .fields #[.str "lsb_for_level" 2476, .str "CellId.lsb_for_level" 2477, .str "/claim/cut.py" 2478, .int 79 0, .int 2 0, .int 0 0, .int 0 0, .int 3 0, .ref 162, .bool true, .int 181 0, .ref 163, .none, .ref 164, .ref 165, .ref 166, .int 2481 0, .int 79 0, .str "/claim/cut.py" 2482] }
noncomputable def o168 : Obj := ⟨(.type "function"), none, .func (fnAt (stIn 8 24) "lsb_for_level" "CellId.lsb_for_level" .none .none .none (.str "s2sphere.sphere" 194) (some 171) (.ref 167) .none), #[]⟩
noncomputable def o170 (P : Params) : Obj := { cls := .type "classmethod", dict := some 169, data := .fields #[.ref 168, .bool false] }
noncomputable def o177 (P : Params) : Obj := { cls := .type "code", data := .fields #[.str "parent" 2496, .str "CellId.parent" 2497, .str "/claim/cut.py" 2498, .int 83 0, .int 1 0, .int 0 0, .int 0 0, .int 7 0, .ref 172, .bool true, .int 181 0, .ref 173, .none, .ref 174, .ref 175, .ref 176, .int 2503 0, .int 83 0, .str "/claim/cut.py" 2504] }
noncomputable def o178 : Obj := ⟨(.type "function"), none, .func (fnAt (stIn 8 25) "parent" "CellId.parent" .none .none .none (.str "s2sphere.sphere" 194) none (.ref 177) .none), #[]⟩
noncomputable def o184 (P : Params) : Obj := { cls := .type "code", data := .fields #[.str "child" 2506, .str "CellId.child" 2507, .str "/claim/cut.py" 2508, .int 96 0, .int 2 0, .int 0 0, .int 0 0, .int 3 0, .ref 179, .bool true, .int 181 0, .ref 180, .none, .ref 181, .ref 182, .ref 183, .int 2512 0, .int 96 0, .str "/claim/cut.py" 2513] }
noncomputable def o185 : Obj := ⟨(.type "function"), none, .func (fnAt (stIn 8 26) "child" "CellId.child" .none .none .none (.str "s2sphere.sphere" 194) none (.ref 184) .none), #[]⟩
noncomputable def o205 (P : Params) : Obj := { cls := .type "code", data := .fields #[.str "is_face" 2531, .str "CellId.is_face" 2532, .str "/claim/cut.py" 2533, .int 108 0, .int 1 0, .int 0 0, .int 0 0, .int 3 0, .ref 200, .bool true, .int 181 0, .ref 201, .none, .ref 202, .ref 203, .ref 204, .int 2535 0, .int 108 0, .str "/claim/cut.py" 2536] }
noncomputable def o206 : Obj := ⟨(.type "function"), none, .func (fnAt (stIn 8 29) "is_face" "CellId.is_face" .none .none .none (.str "s2sphere.sphere" 194) none (.ref 205) .none), #[]⟩
noncomputable def o212 (P : Params) : Obj := { cls := .type "code", data := .fields #[.str "id" 2538, .str "CellId.id" 2539, .str "/claim/cut.py" 2540, .int 111 0, .int 1 0, .int 0 0, .int 0 0, .int 3 0, .ref 207, .bool true, .int 181 0, .ref 208, .none, .ref 209, .ref 210, .ref 211, .int 2542 0, .int 111 0, .str "/claim/cut.py" 2543] }
noncomputable def o213 : Obj := ⟨(.type "function"), none, .func (fnAt (stIn 8 30) "id" "CellId.id" .none .none .none (.str "s2sphere.sphere" 194) none (.ref 212) .none), #[]⟩
noncomputable def o219 (P : Params) : Obj := { cls := .type "code", data := .fields #[.str "is_valid" 2545, .str "CellId.is_valid" 2546, .str "/claim/cut.py" 2547, .int 114 0, .int 1 0, .int 0 0, .int 0 0, .int 3 0, .ref 214, .bool true, .int 181 0, .ref 215, .none, .ref 216, .ref 217, .ref 218, .int 2549 0, .int 114 0, .str "/claim/cut.py" 2550] }
noncomputable def o220 : Obj := ⟨(.type "function"), none, .func (fnAt (stIn 8 31) "is_valid" "CellId.is_valid" .none .none .none (.str "s2sphere.sphere" 194) none (.ref 219) .none), #[]⟩
noncomputable def o226 (P : Params) : Obj := { cls := .type "code", data := .fields #[.str "lsb" 2552, .str "CellId.lsb" 2553, .str "/claim/cut.py" 2554, .int 117 0, .int 1 0, .int 0 0, .int 0 0, .int 3 0, .ref 221, .bool true, .int 181 0, .ref 222, .none, .ref 223, .ref 224, .ref 225, .int 2556 0, .int 117 0, .str "/claim/cut.py" 2557] }
noncomputable def o227 : Obj := ⟨(.type "function"), none, .func (fnAt (stIn 8 32) "lsb" "CellId.lsb" .none .none .none (.str "s2sphere.sphere" 194) none (.ref 226) .none), #[]⟩
noncomputable def o233 (P : Params) : Obj := { cls := .type "code", data := .fields #[.str "face" 2559, .str "CellId.face" 2560, .str "/claim/cut.py" 2561, .int 120 0, .int 1 0, .int 0 0, .int 0 0, .int 3 0, .ref 228, .bool true, .int 181 0, .ref 229, .none, .ref 230, .ref 231, .ref 232, .int 2563 0, .int 120 0, .str "/claim/cut.py" 2564] }
noncomputable def o234 : Obj := ⟨(.type "function"), none, .func (fnAt (stIn 8 33) "face" "CellId.face" .none .none .none (.str "s2sphere.sphere" 194) none (.ref 233) .none), #[]⟩
noncomputable def o240 (P : Params) : Obj := { cls := .type "code", data := .fields #[.str "pos" 2566, .str "CellId.pos" 2567, .str "/claim/cut.py" 2568, .int 123 0, .int 1 0, .int 0 0, .int 0 0, .int 3 0, .ref 235, .bool true, .int 181 0, .ref 236, .none, .ref 237, .ref 238, .ref 239, .int 2570 0, .int 123 0, .str "/claim/cut.py" 2571] }
noncomputable def o241 : Obj := ⟨(.type "function"), none, .func (fnAt (stIn 8 34) "pos" "CellId.pos" .none .none .none (.str "s2sphere.sphere" 194) none (.ref 240) .none), #[]⟩
noncomputable def o247 (P : Params) : Obj := { cls := .type "code", data := .fields #[.str "is_leaf" 2573, .str "CellId.is_leaf" 2574, .str "/claim/cut.py" 2575, .int 126 0, .int 1 0, .int 0 0, .int 0 0, .int 3 0, .ref 242, .bool true, .int 181 0, .ref 243, .none, .ref 244, .ref 245, .ref 246, .int 2577 0, .int 126 0, .str "/claim/cut.py" 2578] }
noncomputable def o248 : Obj := ⟨(.type "function"), none, .func (fnAt (stIn 8 35) "is_leaf" "CellId.is_leaf" .none .none .none (.str "s2sphere.sphere" 194) none (.ref 247) .none), #[]⟩
noncomputable def o254 (P : Params) : Obj := { cls := .type "code", data := .fields #[.str "level" 2580, .str "CellId.level" 2581, .str "/claim/cut.py" 2582, .int 129 0, .int 1 0, .int 0 0, .int 0 0, .int 3 0, .ref 249, .bool true, .int 181 0, .ref 250, .none, .ref 251, .ref 252, .ref 253, .int 2586 0, .int 129 0, .str "/claim/cut.py" 2587] }
noncomputable def o255 : Obj := ⟨(.type "function"), none, .func (fnAt (stIn 8 36) "level" "CellId.level" .none .none .none (.str "s2sphere.sphere" 194) none (.ref 254) .none), #[]⟩
noncomputable def o388 (P : Params) : Obj := { cls := .type "code", data := .fields #[.str "get_center_si_ti" 2770, .str "CellId.get_center_si_ti" 2771, .str "/claim/cut.py" 2772, .int 204 0, .int 1 0, .int 0 0, .int 0 0, .int 3 0, .ref 383, .bool true, .int 181 0, .ref 384, .none, .ref 385, .ref 386, .ref 387, .int 2779 0, .int 204 0, .str "/claim/cut.py" 2780] }
noncomputable def o389 : Obj := ⟨(.type "function"), none, .func (fnAt (stIn 8 53) "get_center_si_ti" "CellId.get_center_si_ti" .none .none .none (.str "s2sphere.sphere" 194) none (.ref 388) .none), #[]⟩
noncomputable def o395 (P : Params) : Obj := { cls := .type "code", data := .fields #[.str "to_face_ij_orientation" 2782, .str "CellId.to_face_ij_orientation" 2783, .str "/claim/cut.py" 2784, .int 214 0, .int 1 0, .int 0 0, .int 0 0, .int 3 0, .ref 390, .bool true, .int 181 0, .ref 391, .none, .ref 392, .ref 393, .ref 394, .int 2793 0, .int 214 0, .str "/claim/cut.py" 2794] }
noncomputable def o396 : Obj := ⟨(.type "function"), none, .func (fnAt (stIn 8 54) "to_face_ij_orientation" "CellId.to_face_ij_orientation" .none .none .none (.str "s2sphere.sphere" 194) none (.ref 395) .none), #[]⟩
noncomputable def o423 (P : Params) : Obj := { cls := .type "code", data := .fields #[.str "get_size_ij" 2819, .str "CellId.get_size_ij" 2820, .str "/claim/cut.py" 2821, .int 244 0, .int 1 0, .int 0 0, .int 0 0, .int 7 0, .ref 418, .bool true, .int 181 0, .ref 419, .none, .ref 420, .ref 421, .ref 422, .int 2825 0, .int 244 0, .str "/claim/cut.py" 2826] }
noncomputable def o424 : Obj := ⟨(.type "function"), none, .func (fnAt (stIn 8 58) "get_size_ij" "CellId.get_size_ij" .none .none .none (.str "s2sphere.sphere" 194) none (.ref 423) .none), #[]⟩
noncomputable def o443 (P : Params) : Obj := { cls := .type "dict", data := .dict #[(en P "__module__" 2264 <| .str "s2sphere.sphere" 194), (en P "__firstlineno__" 2268 <| .int 11 2267), (en P "LINEAR_PROJECTION" 2270 <| .int 0 2269), (en P "TAN_PROJECTION" 2272 <| .int 1 2271), (en P "QUADRATIC_PROJECTION" 2274 <| .int 2 2273), (en P "PROJECTION" 2275 <| .int 2 2273), (en P "FACE_BITS" 2277 <| .int 3 2276), (en P "NUM_FACES" 2279 <| .int 6 2278), (en P "MAX_LEVEL" 2281 <| .int 30 2280), (en P "POS_BITS" 2286 <| .int 61 2285), (en P "MAX_SIZE" 2289 <| .int 1073741824 2288), (en P "WRAP_OFFSET" 2291 <| .int 13835058055282163712 2290), (en P "__init__" 2300 <| .ref 55), (en P "__repr__" 2307 <| .ref 62), (en P "__hash__" 2314 <| .ref 69), (en P "__eq__" 2322 <| .ref 76), (en P "__ne__" 2330 <| .ref 83), (en P "__lt__" 2338 <| .ref 90), (en P "__le__" 2346 <| .ref 97), (en P "__gt__" 2354 <| .ref 104), (en P "__ge__" 2362 <| .ref 111), (en P "from_face_pos_level" 2384 <| .ref 120), (en P "from_face_ij" 2410 <| .ref 130), (en P "from_face_ij_wrap" 2432 <| .ref 140), (en P "from_face_ij_same" 2455 <| .ref 150), (en P "st_to_ij" 2475 <| .ref 160), (en P "lsb_for_level" 2495 <| .ref 170), (en P "parent" 2505 <| .ref 178), (en P "child" 2514 <| .ref 185), (en P "contains" 2522 <| .ref 192), (en P "intersects" 2530 <| .ref 199), (en P "is_face" 2537 <| .ref 206), (en P "id" 2544 <| .ref 213), (en P "is_valid" 2551 <| .ref 220), (en P "lsb" 2558 <| .ref 227), (en P "face" 2565 <| .ref 234), (en P "pos" 2572 <| .ref 241), (en P "is_leaf" 2579 <| .ref 248), (en P "level" 2588 <| .ref 255), (en P "child_begin" 2596 <| .ref 262), (en P "child_end" 2604 <| .ref 269), (en P "prev" 2611 <| .ref 276), (en P "next" 2618 <| .ref 283), (en P "children" 2626 <| .ref 290), (en P "range_min" 2633 <| .ref 297), (en P "range_max" 2640 <| .ref 304), (en P "begin" 2660 <| .ref 313), (en P "end" 2680 <| .ref 323), (en P "walk" 2700 <| .ref 333), (en P "walk_fast" 2720 <| .ref 343), (en P "none" 2739 <| .ref 353), (en P "prev_wrap" 2746 <| .ref 361), (en P "next_wrap" 2753 <| .ref 368), (en P "advance_wrap" 2761 <| .ref 375), (en P "advance" 2769 <| .ref 382), (en P "get_center_si_ti" 2781 <| .ref 389), (en P "to_face_ij_orientation" 2795 <| .ref 396), (en P "get_edge_neighbors" 2802 <| .ref 403), (en P "get_vertex_neighbors" 2810 <| .ref 410), (en P "get_all_neighbors" 2818 <| .ref 417), (en P "get_size_ij" 2827 <| .ref 424), (en P "to_token" 2834 <| .ref 431), (en P "from_token" 2854 <| .ref 440), (en P "__static_attributes__" 2856 <| .ref 442), (en P "__dict__" 2858 <| .ref 445), (en P "__weakref__" 2860 <| .ref 446), (en P "__doc__" 2861 <| .none)] 4 }
noncomputable def o444 (P : Params) : Obj := { cls := .type "type", data := .cls { name := "CellId", bases := [.type "object"], mro := [.ref 444, .type "object"], ns := 443, qualname := "CellId" }, slots := #[some (.ref 41), none, some (.str "CellId" 2257), some (.str "CellId" 2265), some (.builtin "object.__new__"), some (.bool true)] }
noncomputable def o454 (P : Params) : Obj := { cls := .type "code", data := .fields #[.str "_law_number" 2866, .str "_law_number" 2867, .str "/claim/cut.py" 2868, .int 258 0, .int 2 0, .int 0 0, .int 0 0, .int 3 0, .ref 449, .bool true, .int 181 0, .ref 450, .none, .ref 451, .ref 452, .ref 453, .int 2871 0, .int 258 0, .str "/claim/cut.py" 2872] }
noncomputable def o455 : Obj := ⟨(.type "function"), none, .func (fnAt (stAt 10) "_law_number" "_law_number" .none .none .none (.str "law_lp0001_11" 2864) none (.ref 454) .none), #[]⟩
noncomputable def o461 (P : Params) : Obj := { cls := .type "code", data := .fields #[.str "_law_pick" 2874, .str "_law_pick" 2875, .str "/claim/cut.py" 2876, .int 260 0, .int 2 0, .int 0 0, .int 0 0, .int 3 0, .ref 456, .bool true, .int 181 0, .ref 457, .none, .ref 458, .ref 459, .ref 460, .int 2880 0, .int 260 0, .str "/claim/cut.py" 2881] }
noncomputable def o462 : Obj := ⟨(.type "function"), none, .func (fnAt (stAt 11) "_law_pick" "_law_pick" .none .none .none (.str "law_lp0001_11" 2864) none (.ref 461) .none), #[]⟩
noncomputable def o468 (P : Params) : Obj := { cls := .type "code", data := .fields #[.str "_law_place" 2883, .str "_law_place" 2884, .str "/claim/cut.py" 2885, .int 267 0, .int 4 0, .int 0 0, .int 0 0, .int 3 0, .ref 463, .bool true, .int 181 0, .ref 464, .none, .ref 465, .ref 466, .ref 467, .int 2895 0, .int 267 0, .str "/claim/cut.py" 2896] }
noncomputable def o469 : Obj := ⟨(.type "function"), none, .func (fnAt (stAt 12) "_law_place" "_law_place" .none .none .none (.str "law_lp0001_11" 2864) none (.ref 468) .none), #[]⟩
noncomputable def o475 (P : Params) : Obj := { cls := .type "code", data := .fields #[.str "_law_id" 2898, .str "_law_id" 2899, .str "/claim/cut.py" 2900, .int 281 0, .int 4 0, .int 0 0, .int 0 0, .int 3 0, .ref 470, .bool true, .int 181 0, .ref 471, .none, .ref 472, .ref 473, .ref 474, .int 2905 0, .int 281 0, .str "/claim/cut.py" 2906] }
noncomputable def o476 : Obj := ⟨(.type "function"), none, .func (fnAt (stAt 13) "_law_id" "_law_id" .none .none .none (.str "law_lp0001_11" 2864) none (.ref 475) .none), #[]⟩
noncomputable def o482 (P : Params) : Obj := { cls := .type "code", data := .fields #[.str "law" 2908, .str "law" 2909, .str "/claim/cut.py" 2910, .int 283 0, .int 1 0, .int 0 0, .int 0 0, .int 3 0, .ref 477, .bool true, .int 181 0, .ref 478, .none, .ref 479, .ref 480, .ref 481, .int 2928 0, .int 283 0, .str "/claim/cut.py" 2929] }
noncomputable def o483 : Obj := ⟨(.type "function"), none, .func (fnAt (stAt 14) "law" "law" .none .none .none (.str "law_lp0001_11" 2864) none (.ref 482) .none), #[]⟩
noncomputable def KK (P : Params) : Frag := [(2, o2 P), (3, o3 P), (22, o22), (23, o23), (24, o24), (25, o25), (26, o26), (27, o27), (28, o28), (29, o29), (30, o30), (31, o31), (32, o32), (33, o33), (34, o34), (35, o35), (36, o36), (37, o37), (38, o38), (39, o39), (40, o40), (48, o48), (54, o54 P), (55, o55), (117, o117 P), (118, o118), (120, o120 P), (127, o127 P), (128, o128), (130, o130 P), (167, o167 P), (168, o168), (170, o170 P), (177, o177 P), (178, o178), (184, o184 P), (185, o185), (205, o205 P), (206, o206), (212, o212 P), (213, o213), (219, o219 P), (220, o220), (226, o226 P), (227, o227), (233, o233 P), (234, o234), (240, o240 P), (241, o241), (247, o247 P), (248, o248), (254, o254 P), (255, o255), (388, o388 P), (389, o389), (395, o395 P), (396, o396), (423, o423 P), (424, o424), (443, o443 P), (444, o444 P), (454, o454 P), (455, o455), (461, o461 P), (462, o462), (468, o468 P), (469, o469), (475, o475 P), (476, o476), (482, o482 P), (483, o483)]
noncomputable def kas : List Addr := [2, 3, 22, 23, 24, 25, 26, 27, 28, 29, 30, 31, 32, 33, 34, 35, 36, 37, 38, 39, 40, 48, 54, 55, 117, 118, 120, 127, 128, 130, 167, 168, 170, 177, 178, 184, 185, 205, 206, 212, 213, 219, 220, 226, 227, 233, 234, 240, 241, 247, 248, 254, 255, 388, 389, 395, 396, 423, 424, 443, 444, 454, 455, 461, 462, 468, 469, 475, 476, 482, 483]
theorem kas_eq (P : Params) : kas = (KK P).map (·.1) := by kernel_rfl
noncomputable def hk : Hook := kHook KK kas kas_eq
noncomputable def qq : Program := view pp [14]
def loose : List Str := ["_wall", "LOOKUP_BITS", "SWAP_MASK", "INVERT_MASK", "POS_TO_ORIENTATION", "LOOKUP_POS", "LOOKUP_IJ", "CellId", "_law_number", "_law_pick", "_law_place", "_law_id"]
theorem left : LeftO pp qq loose (fun s => xlAt qq [] s && recOk (RowW.records rw_lp0001_11.row.toRowW) s) (Hook.obs hk) (Hook.val hk) 12000 := by
  refine LeftO.tree (by kernel_rfl) (by rfl) (fun s => by kernel_rfl) fun w os => ?_
  rw [topRunF_eq]
  kernel_rfl
theorem head (hc : ∀ d kwd, defOf qq "law" = some (d, kwd) → WalkO qq loose (XL qq []) (Hook.says hk) rw_lp0001_11.row.toRowW d kwd fun f vs => PySem.call f vs) : rw_lp0001_11.Holds := by
  w_on; o_law
  refine holds_open (q := qq) (loose := loose) (Xt := fun s => xlAt qq [] s && recOk (RowW.records rw_lp0001_11.row.toRowW) s) (XP := XL qq []) (Yf := Hook.obs hk) (Ya := Hook.val hk) (YP := Hook.says hk) (N := 12000) left (Hook.of hk) (Hook.keeps hk) (fun s e => xl_of s (Bool.and_eq_true_iff.mp e).1) XL.keeps (by rfl) (by rfl) (by rfl) (fun s e => recFacts_of (Bool.and_eq_true_iff.mp e).2) (by rfl) (by first | assumption | decide +kernel) (by decide +kernel) ⟨rfl, rfl, rfl, rfl, rfl, by decide +kernel⟩ ?hw ?hc
  case hw => w_witness2
  case hc => exact hc _ _ rfl
end Mine
set_option maxHeartbeats 200000
namespace Mine
section
variable {w : World} {mg mb : Str → Option Value}
local macro_rules | `(tactic| walk_at "SIDE") => `(tactic| first | with_reducible assumption | omega | decide)
local macro_rules | `(tactic| walk_at "B2") => `(tactic| first
  | with_reducible exact B2.andNeg | with_reducible exact B2.addN | with_reducible exact B2.andN | with_reducible exact B2.orN | with_reducible exact B2.xorN | with_reducible exact B2.shrN
  | (with_reducible refine B2.shlN ?_); walk_at "SIDE" | (with_reducible refine B2.mulN ?_); walk_at "SIDE" | (with_reducible refine B2.modN ?_); walk_at "SIDE" | (with_reducible refine B2.modI ?_); walk_at "SIDE" | (with_reducible refine B2.divN ?_ ?_) <;> walk_at "SIDE"
  | (with_reducible refine B2.subN ?_); walk_at "SIDE" | with_reducible exact B2.sub | with_reducible exact B2.add | with_reducible exact B2.and | with_reducible exact B2.or)
local macro_rules | `(tactic| walk_at "I2") => `(tactic| first
  | with_reducible exact I2.addN | with_reducible exact I2.andN | with_reducible exact I2.orN | with_reducible exact I2.xorN | with_reducible exact I2.add | with_reducible exact I2.sub | with_reducible exact I2.and)
local macro_rules | `(tactic| walk_at "C2") => `(tactic| first
  | with_reducible exact C2.eqN | with_reducible exact C2.neN | with_reducible exact C2.ltN | with_reducible exact C2.leN | with_reducible exact C2.gtN | with_reducible exact C2.geN
  | with_reducible exact C2.eqB | with_reducible exact C2.neB | with_reducible exact C2.ne2 | with_reducible exact C2.ne3
  | (with_reducible refine C2.notIn4 ?_); walk_at "SIDE"
  | with_reducible exact C2.eq | with_reducible exact C2.ne | with_reducible exact C2.lt | with_reducible exact C2.le | with_reducible exact C2.gt | with_reducible exact C2.ge)
local macro_rules | `(tactic| walk_at "TR") => `(tactic| first | with_reducible exact Tr.bool | with_reducible exact Tr.intN | with_reducible exact Tr.int | with_reducible exact Tr.non)
local macro_rules | `(tactic| walk_at "TVA") => `(tactic| first
  | with_reducible exact TvA.or_nil | with_reducible exact TvA.and_nil
  | (with_reducible refine' TvA.or ?a fun _ => ?b); (case a => walk_at "TV"); (case b => walk_at "TVA")
  | (with_reducible refine' TvA.and ?a fun _ => ?b); (case a => walk_at "TV"); (case b => walk_at "TVA"))
local macro_rules | `(tactic| walk_at "TV") => `(tactic| first
  | (with_reducible refine' Tv.boolop ?a); (case a => walk_at "TVA")
  | (with_reducible refine' Tv.cmp ?a ?b ?c (hm := ?h)); (case a => walk_at "EV"); (case b => walk_at "EV"); (case c => walk_at "C2"); (case h => rfl)
  | (with_reducible refine' Tv.not ?a); (case a => walk_at "TV")
  | (with_reducible refine' Tv.plain ?a ?b (he := ?h)); (case a => walk_at "EV"); (case b => walk_at "TR"); (case h => intro _; rfl))
local macro_rules | `(tactic| walk_at "AL") => `(tactic| first
  | with_reducible exact Al.nil
  | (with_reducible refine' Al.cons ?a ?b (he := ?h)); (case a => walk_at "EV"); (case b => walk_at "AL"); (case h => rfl))
local macro_rules | `(tactic| walk_at "IT") => `(tactic| first
  | (with_reducible refine' It.tup ?a ?b ?c ?d); (case a => rfl); (case b => rfl); (case c => decide); (case d => decide)
  | (with_reducible refine' It.nums ?a ?b); (case a => rfl); (case b => decide))
local macro_rules | `(tactic| walk_at "SUB") => `(tactic| (refine Cx.sub_of ?_; repeat (first | exact all_nil | refine all_cons rfl ?_)))
local macro_rules | `(tactic| walk_at "EV") => `(tactic| first
  | with_reducible exact Ev.litN
  | with_reducible exact Ev.str
  | with_reducible exact Ev.bool
  | with_reducible exact Ev.non
  | (with_reducible refine' Ev.name ?h (hd := ?k)); (case h => rfl); (case k => decide)
  | (with_reducible refine' Ev.bin ?a ?b ?c); (case a => walk_at "EV"); (case b => walk_at "EV"); (case c => walk_at "B2")
  | walk_at "OWN"
  | (with_reducible refine' Ev.cmp ?a ?b ?c (hm := ?h)); (case a => walk_at "EV"); (case b => walk_at "EV"); (case c => walk_at "C2"); (case h => rfl)
  | (with_reducible refine' Ev.tupTo ?a ?b ?c ?d); (case a => walk_at "EV"); (case b => walk_at "EV"); (case c => exact Nat.le_of_ble_eq_true rfl); (case d => exact Nat.le_of_ble_eq_true rfl)
  | (with_reducible refine' Ev.item ?a ?b ?c (hs := ?h)); (case a => walk_at "EV"); (case b => walk_at "EV"); (case c => walk_at "IT"); (case h => intro _ _; exact ⟨_, rfl⟩)
  | (with_reducible refine' Ev.neg ?a); (case a => walk_at "EV")
  | (with_reducible refine' Ev.tuple ?a (hsz := ?h)); (case a => walk_at "AL"); (case h => exact Nat.le_of_ble_eq_true rfl))
local macro_rules | `(tactic| walk_at "FALSE") => `(tactic| first | with_reducible rfl | with_reducible assumption | (refine neF ?_; first | with_reducible rfl | with_reducible assumption | (refine Eq.symm ?_; with_reducible assumption)) | (simp only [bne_self_eq_false, beq_self_eq_true, Bool.not_true, Bool.not_false, Bool.and_self]; done) | (simp; done) | (simp [*]; done))
local macro_rules | `(tactic| walk_at "NOA") => `(tactic| first
  | with_reducible exact TvA.or_nil
  | (with_reducible refine' TvA.orF ?a ?b); (case a => walk_at "NO"); (case b => walk_at "NOA"))
local macro_rules | `(tactic| walk_at "YES") => `(tactic| ((with_reducible refine' Tv.to ?a ?b); (case a => walk_at "TV"); (case b => walk_at "FALSE")))
local macro_rules | `(tactic| walk_at "NO") => `(tactic| first
  | (with_reducible refine' Tv.boolop ?a); (case a => walk_at "NOA")
  | (with_reducible refine' Tv.notF ?a); (case a => walk_at "YES")
  | ((with_reducible refine' Tv.to ?a ?b); (case a => walk_at "TV"); (case b => walk_at "FALSE")))
local macro_rules | `(tactic| walk_at "AS") => `(tactic| first
  | (with_reducible refine' As.name (hk := ?h)); (case h => first | exact .inl rfl | exact .inr rfl)
  | (with_reducible refine' As.tup ?a (hn := ?h) (hstar := ?j)); (case a => walk_at "ASL"); (case h => rfl); (case j => rfl))
local macro_rules | `(tactic| walk_at "ASL") => `(tactic| first
  | with_reducible exact AsL.nil
  | (with_reducible refine' AsL.cons ?a ?b (he := ?h)); (case a => walk_at "AS"); (case b => walk_at "ASL"); (case h => rfl))
noncomputable def GG (w : World) (mg mb : Str → Option Value) : Gx := ⟨pp, w, KK w.params, 444, 0, qq, looseW qq loose, mg, mb⟩
theorem co_hd (P : Params) : hasDictIn (KK P) 444 = true := by kernel_rfl
theorem co_ga (P : Params) : findIn (KK P) (.ref 444) "__getattribute__" = some (some (.builtin "object.__getattribute__")) := by kernel_rfl
theorem co_gt (P : Params) : findIn (KK P) (.ref 444) "__getattr__" = some none := by kernel_rfl
theorem co_cl (P : Params) : findIn (KK P) (.ref 444) "__class__" = some (some (.builtin "object.__class__")) := by kernel_rfl
theorem co_cg (P : Params) : specialIn (KK P) (.builtin "object.__class__") "__get__" = some (some (.builtin "getset_descriptor.__get__")) := by kernel_rfl
theorem co_ct (P : Params) : takesIn (KK P) (.builtin "object.__class__") = some true := by kernel_rfl
theorem co_mo (P : Params) : mroIn (KK P) 444 (.type "object") = some true := by kernel_rfl
theorem co_mks (P : Params) : makesIn (KK P) 444 = true := by rfl
theorem co_mga (P : Params) : specialIn (KK P) (.ref 444) "__getattribute__" = some (some (.builtin "type.__getattribute__")) := by kernel_rfl
theorem co_rd (P : Params) : readsIn (KK P) 444 (.type "type") = true := by kernel_rfl
theorem co_keep (P : Params) : keepIn (KK P) (.ref 444) = true := by kernel_rfl
theorem co_sa (P : Params) : findIn (KK P) (.ref 444) "__setattr__" = some (some (.builtin "object.__setattr__")) := by kernel_rfl
theorem co_po (P : Params) : plainOver (KK P) 444 = true := by kernel_rfl
theorem coK (P : Params) : ClsOk (KK P) 444 := ⟨co_hd P, co_ga P, co_gt P, co_cl P, co_cg P, co_ct P, co_mo P, co_mks P, co_mga P, co_rd P, co_keep P, co_sa P, co_po P⟩
theorem co : ClsOk (GG w mg mb).K (GG w mg mb).C := coK _
/-- the class by the class of an object -/
theorem e_cls {n : Nat} {env : Env} {Γ : Cx} {o : Expr} {pos : Pos} {i : Int} (ho : Ev (GG w mg mb) n env Γ o (.cell i)) (he : eval (.Attribute o "__class__" pos) env = (do
      let x ← eval o env
      standAt pos.atName
      let r ← holding [x] (getAttr x "__class__" true)
      letTemporaryGo o x r
      pure r)) : Ev (GG w mg mb) n env Γ (.Attribute o "__class__" pos) (.val (.ref 444)) := Ev.attrClass co (.cell i) ho he
local macro_rules | `(tactic| walk_at "OWN") => `(tactic| (with_reducible refine' e_cls ?a ?d); (case a => walk_at "EV"); (case d => rfl))
theorem v_MAXLK (P : Params) : ∃ t, findCls (KK P) (.ref 444) (.type "type") "MAX_LEVEL" = some (.val (.int 30 t)) := ⟨_, by rfl⟩
theorem e_MAXL {n : Nat} {env : Env} {Γ : Cx} {o : Expr} {pos : Pos} (ho : Ev (GG w mg mb) n env Γ o (.val (.ref 444))) (he : eval (.Attribute o "MAX_LEVEL" pos) env = (do
      let x ← eval o env
      standAt pos.atName
      let r ← holding [x] (getAttr x "MAX_LEVEL" true)
      letTemporaryGo o x r
      pure r)) : Ev (GG w mg mb) n env Γ (.Attribute o "MAX_LEVEL" pos) (.int ((30 : Nat) : Int)) := by
  obtain ⟨t, h⟩ := v_MAXLK w.params
  exact Ev.attrCls co ho h rfl (fun _ _ => ⟨t, rfl⟩) he
local macro_rules | `(tactic| walk_at "OWN") => `(tactic| (with_reducible refine' e_MAXL ?a ?d); (case a => walk_at "EV"); (case d => rfl))
theorem v_POSBK (P : Params) : ∃ t, findCls (KK P) (.ref 444) (.type "type") "POS_BITS" = some (.val (.int 61 t)) := ⟨_, by rfl⟩
theorem e_POSB {n : Nat} {env : Env} {Γ : Cx} {o : Expr} {pos : Pos} (ho : Ev (GG w mg mb) n env Γ o (.val (.ref 444))) (he : eval (.Attribute o "POS_BITS" pos) env = (do
      let x ← eval o env
      standAt pos.atName
      let r ← holding [x] (getAttr x "POS_BITS" true)
      letTemporaryGo o x r
      pure r)) : Ev (GG w mg mb) n env Γ (.Attribute o "POS_BITS" pos) (.int ((61 : Nat) : Int)) := by
  obtain ⟨t, h⟩ := v_POSBK w.params
  exact Ev.attrCls co ho h rfl (fun _ _ => ⟨t, rfl⟩) he
local macro_rules | `(tactic| walk_at "OWN") => `(tactic| (with_reducible refine' e_POSB ?a ?d); (case a => walk_at "EV"); (case d => rfl))
theorem v_NUMFK (P : Params) : ∃ t, findCls (KK P) (.ref 444) (.type "type") "NUM_FACES" = some (.val (.int 6 t)) := ⟨_, by rfl⟩
theorem e_NUMF {n : Nat} {env : Env} {Γ : Cx} {o : Expr} {pos : Pos} (ho : Ev (GG w mg mb) n env Γ o (.val (.ref 444))) (he : eval (.Attribute o "NUM_FACES" pos) env = (do
      let x ← eval o env
      standAt pos.atName
      let r ← holding [x] (getAttr x "NUM_FACES" true)
      letTemporaryGo o x r
      pure r)) : Ev (GG w mg mb) n env Γ (.Attribute o "NUM_FACES" pos) (.int ((6 : Nat) : Int)) := by
  obtain ⟨t, h⟩ := v_NUMFK w.params
  exact Ev.attrCls co ho h rfl (fun _ _ => ⟨t, rfl⟩) he
local macro_rules | `(tactic| walk_at "OWN") => `(tactic| (with_reducible refine' e_NUMF ?a ?d); (case a => walk_at "EV"); (case d => rfl))
theorem v_FACEBK (P : Params) : ∃ t, findCls (KK P) (.ref 444) (.type "type") "FACE_BITS" = some (.val (.int 3 t)) := ⟨_, by rfl⟩
theorem e_FACEB {n : Nat} {env : Env} {Γ : Cx} {o : Expr} {pos : Pos} (ho : Ev (GG w mg mb) n env Γ o (.val (.ref 444))) (he : eval (.Attribute o "FACE_BITS" pos) env = (do
      let x ← eval o env
      standAt pos.atName
      let r ← holding [x] (getAttr x "FACE_BITS" true)
      letTemporaryGo o x r
      pure r)) : Ev (GG w mg mb) n env Γ (.Attribute o "FACE_BITS" pos) (.int ((3 : Nat) : Int)) := by
  obtain ⟨t, h⟩ := v_FACEBK w.params
  exact Ev.attrCls co ho h rfl (fun _ _ => ⟨t, rfl⟩) he
local macro_rules | `(tactic| walk_at "OWN") => `(tactic| (with_reducible refine' e_FACEB ?a ?d); (case a => walk_at "EV"); (case d => rfl))
theorem find_idK (P : Params) : findIn (KK P) (.ref 444) cellKey = some none := by kernel_rfl
theorem mK_id (P : Params) : MethOk (KK P) 444 "id" 213 := by constructor <;> kernel_rfl
theorem f_id {i : Int} : FnOk (GG w mg mb) 1 (.ref 213) [.cell i] (.int i) := by
  refine FnOk.plain (ho := by rfl) (by kernel_rfl) (by intro vs h; rcases vs with _ | ⟨x0, _ | ⟨x1, vs⟩⟩ <;> first | rfl | simp at h) (by decide +kernel) (by decide +kernel) fun L => ?_
  refine Ex.ret (Ev.attrId co (find_idK _) (Ev.name (by rfl))) (retP.mk rfl)
theorem e_id {n : Nat} {env : Env} {Γ : Cx} {o : Expr} {ap pos : Pos} {args : List Expr} {i : Int}  (hk : 1 ≤ n) (ho : Ev (GG w mg mb) n env Γ o (.cell i)) (ha : Al (GG w mg mb) n env Γ pos args []) {pl : Sem Bool} (hplain : (backTo pos (starEach args env)).any (·.1) = false)
    (he : eval (.Call (.Attribute o "id" ap) args [] pos) env = (do
      let ov ← eval o env
      standAt ap.atName
      let (f, first) ← holding [ov] (getMethod ov "id" pl)
      callWith pos f first (backTo pos (starEach args env)) (backToKw pos (keywordEach [] env)))) : Ev (GG w mg mb) n env Γ (.Call (.Attribute o "id" ap) args [] pos) (.int i) :=
  Ev.meth co (mK_id _) (.cell _) (by decide) ho (f_id ) hk ha hplain he
local macro_rules | `(tactic| walk_at "OWN") => `(tactic| (with_reducible refine' e_id  ?k ?a ?b (hplain := ?c) (he := ?d)); (case a => walk_at "EV"); (case b => walk_at "AL"); (case c => rfl); (case d => rfl); (case k => decide);  skip)
theorem mK_lsb (P : Params) : MethOk (KK P) 444 "lsb" 227 := by constructor <;> kernel_rfl
theorem f_lsb {m p : Nat} : FnOk (GG w mg mb) 2 (.ref 227) [.cell (cid m p)] (.int ((4 ^ m : Nat) : Int)) := by
  refine FnOk.plain (ho := by rfl) (by kernel_rfl) (by intro vs h; rcases vs with _ | ⟨x0, _ | ⟨x1, vs⟩⟩ <;> first | rfl | simp at h) (by decide +kernel) (by decide +kernel) fun L => ?_
  refine Ex.ret (d := .int ((4 ^ m : Nat) : Int)) (Ev.to (by walk_at "EV") (by rw [cid_lsb])) (retP.mk rfl)
theorem e_lsb {n : Nat} {env : Env} {Γ : Cx} {o : Expr} {ap pos : Pos} {args : List Expr} {m p : Nat}  (hk : 2 ≤ n) (ho : Ev (GG w mg mb) n env Γ o (.cell (cid m p))) (ha : Al (GG w mg mb) n env Γ pos args []) {pl : Sem Bool} (hplain : (backTo pos (starEach args env)).any (·.1) = false)
    (he : eval (.Call (.Attribute o "lsb" ap) args [] pos) env = (do
      let ov ← eval o env
      standAt ap.atName
      let (f, first) ← holding [ov] (getMethod ov "lsb" pl)
      callWith pos f first (backTo pos (starEach args env)) (backToKw pos (keywordEach [] env)))) : Ev (GG w mg mb) n env Γ (.Call (.Attribute o "lsb" ap) args [] pos) (.int ((4 ^ m : Nat) : Int)) :=
  Ev.meth co (mK_lsb _) (.cell _) (by decide) ho (f_lsb ) hk ha hplain he
local macro_rules | `(tactic| walk_at "OWN") => `(tactic| (with_reducible refine' e_lsb  ?k ?a ?b (hplain := ?c) (he := ?d)); (case a => walk_at "EV"); (case b => walk_at "AL"); (case c => rfl); (case d => rfl); (case k => decide);  skip)
theorem mK_leaf (P : Params) : MethOk (KK P) 444 "is_leaf" 248 := by constructor <;> kernel_rfl
theorem f_leaf {m p : Nat} : FnOk (GG w mg mb) 2 (.ref 248) [.cell (cid m p)] (.bool (m == 0)) := by
  refine FnOk.plain (ho := by rfl) (by kernel_rfl) (by intro vs h; rcases vs with _ | ⟨x0, _ | ⟨x1, vs⟩⟩ <;> first | rfl | simp at h) (by decide +kernel) (by decide +kernel) fun L => ?_
  refine Ex.ret (Ev.toB (by walk_at "EV") (cid_leaf m p)) (retP.mk rfl)
theorem e_leaf {n : Nat} {env : Env} {Γ : Cx} {o : Expr} {ap pos : Pos} {args : List Expr} {m p : Nat}  (hk : 2 ≤ n) (ho : Ev (GG w mg mb) n env Γ o (.cell (cid m p))) (ha : Al (GG w mg mb) n env Γ pos args []) {pl : Sem Bool} (hplain : (backTo pos (starEach args env)).any (·.1) = false)
    (he : eval (.Call (.Attribute o "is_leaf" ap) args [] pos) env = (do
      let ov ← eval o env
      standAt ap.atName
      let (f, first) ← holding [ov] (getMethod ov "is_leaf" pl)
      callWith pos f first (backTo pos (starEach args env)) (backToKw pos (keywordEach [] env)))) : Ev (GG w mg mb) n env Γ (.Call (.Attribute o "is_leaf" ap) args [] pos) (.bool (m == 0)) :=
  Ev.meth co (mK_leaf _) (.cell _) (by decide) ho (f_leaf ) hk ha hplain he
local macro_rules | `(tactic| walk_at "OWN") => `(tactic| (with_reducible refine' e_leaf  ?k ?a ?b (hplain := ?c) (he := ?d)); (case a => walk_at "EV"); (case b => walk_at "AL"); (case c => rfl); (case d => rfl); (case k => decide);  skip)
theorem mK_lsbl (P : Params) : CmOk (KK P) 444 "lsb_for_level" 170 168 := by
  refine ⟨by kernel_rfl, by kernel_rfl, by kernel_rfl, by kernel_rfl, by kernel_rfl, ⟨_, by rfl⟩, by kernel_rfl⟩
theorem f_lsbl {l : Nat} (h : l ≤ 30) : FnOk (GG w mg mb) 2 (.ref 168) [.val (.ref 444), .int (l : Int)] (.int ((4 ^ (30 - l) : Nat) : Int)) := by
  refine FnOk.plain (ho := by rfl) (by kernel_rfl) (by intro vs h; rcases vs with _ | ⟨x0, _ | ⟨x1, _ | ⟨x2, vs⟩⟩⟩ <;> first | rfl | simp at h) (by decide +kernel) (by decide +kernel) fun L => ?_
  refine Ex.ret (Ev.toN (by walk_at "EV") ?_) (retP.mk rfl)
  rw [Nat.one_mul, four_pow]
theorem e_lsbl {n : Nat} {env : Env} {Γ : Cx} {o : Expr} {ap pos : Pos} {args : List Expr} {l : Nat} (h0 : l ≤ 30) (hk : 2 ≤ n) (ho : Ev (GG w mg mb) n env Γ o (.val (.ref 444))) (ha : Al (GG w mg mb) n env Γ pos args [.int (l : Int)]) {pl : Sem Bool} (hplain : (backTo pos (starEach args env)).any (·.1) = false)
    (he : eval (.Call (.Attribute o "lsb_for_level" ap) args [] pos) env = (do
      let ov ← eval o env
      standAt ap.atName
      let (f, first) ← holding [ov] (getMethod ov "lsb_for_level" pl)
      callWith pos f first (backTo pos (starEach args env)) (backToKw pos (keywordEach [] env)))) : Ev (GG w mg mb) n env Γ (.Call (.Attribute o "lsb_for_level" ap) args [] pos) (.int ((4 ^ (30 - l) : Nat) : Int)) :=
  Ev.cmeth co (mK_lsbl _) ho (f_lsbl h0) hk ha hplain he
theorem ei_lsbl {n : Nat} {env : Env} {Γ : Cx} {o : Expr} {ap pos : Pos} {args : List Expr} {i : Int} {l : Nat} (h0 : l ≤ 30) (hk : 2 ≤ n) (ho : Ev (GG w mg mb) n env Γ o (.cell i)) (ha : Al (GG w mg mb) n env Γ pos args [.int (l : Int)]) {pl : Sem Bool} (hplain : (backTo pos (starEach args env)).any (·.1) = false)
    (he : eval (.Call (.Attribute o "lsb_for_level" ap) args [] pos) env = (do
      let ov ← eval o env
      standAt ap.atName
      let (f, first) ← holding [ov] (getMethod ov "lsb_for_level" pl)
      callWith pos f first (backTo pos (starEach args env)) (backToKw pos (keywordEach [] env)))) : Ev (GG w mg mb) n env Γ (.Call (.Attribute o "lsb_for_level" ap) args [] pos) (.int ((4 ^ (30 - l) : Nat) : Int)) :=
  Ev.imeth co (mK_lsbl _) (.cell _) (by decide) (by decide +kernel) ho (f_lsbl h0) hk ha hplain he
local macro_rules | `(tactic| walk_at "OWN") => `(tactic| (with_reducible refine' ei_lsbl ?h0 ?k ?a ?b (hplain := ?c) (he := ?d)); (case a => walk_at "EV"); (case b => walk_at "AL"); (case c => rfl); (case d => rfl); (case k => decide); (case h0 => walk_at "SIDE"); skip)
local macro_rules | `(tactic| walk_at "OWN") => `(tactic| (with_reducible refine' e_lsbl ?h0 ?k ?a ?b (hplain := ?c) (he := ?d)); (case a => walk_at "EV"); (case b => walk_at "AL"); (case c => rfl); (case d => rfl); (case k => decide); (case h0 => walk_at "SIDE"); skip)
theorem mK_isface (P : Params) : MethOk (KK P) 444 "is_face" 206 := by constructor <;> kernel_rfl
theorem f_isface {m p : Nat} (h : m ≤ 30) : FnOk (GG w mg mb) 3 (.ref 206) [.cell (cid m p)] (.bool (m == 30)) := by
  refine FnOk.plain (ho := by rfl) (by kernel_rfl) (by intro vs h; rcases vs with _ | ⟨x0, _ | ⟨x1, vs⟩⟩ <;> first | rfl | simp at h) (by decide +kernel) (by decide +kernel) fun L => ?_
  refine Ex.ret (Ev.toB (by walk_at "EV") ?_) (retP.mk rfl)
  exact cid_isface h
theorem e_isface {n : Nat} {env : Env} {Γ : Cx} {o : Expr} {ap pos : Pos} {args : List Expr} {m p : Nat} (h0 : m ≤ 30) (hk : 3 ≤ n) (ho : Ev (GG w mg mb) n env Γ o (.cell (cid m p))) (ha : Al (GG w mg mb) n env Γ pos args []) {pl : Sem Bool} (hplain : (backTo pos (starEach args env)).any (·.1) = false)
    (he : eval (.Call (.Attribute o "is_face" ap) args [] pos) env = (do
      let ov ← eval o env
      standAt ap.atName
      let (f, first) ← holding [ov] (getMethod ov "is_face" pl)
      callWith pos f first (backTo pos (starEach args env)) (backToKw pos (keywordEach [] env)))) : Ev (GG w mg mb) n env Γ (.Call (.Attribute o "is_face" ap) args [] pos) (.bool (m == 30)) :=
  Ev.meth co (mK_isface _) (.cell _) (by decide) ho (f_isface h0) hk ha hplain he
local macro_rules | `(tactic| walk_at "OWN") => `(tactic| (with_reducible refine' e_isface ?h0 ?k ?a ?b (hplain := ?c) (he := ?d)); (case a => walk_at "EV"); (case b => walk_at "AL"); (case c => rfl); (case d => rfl); (case k => decide); (case h0 => walk_at "SIDE"); skip)
theorem mK_face (P : Params) : MethOk (KK P) 444 "face" 234 := by constructor <;> kernel_rfl
theorem f_face {m p : Nat} (h : m ≤ 30) : FnOk (GG w mg mb) 2 (.ref 234) [.cell (cid m p)] (.int ((p / 4 ^ (30 - m) : Nat) : Int)) := by
  refine FnOk.plain (ho := by rfl) (by kernel_rfl) (by intro vs h; rcases vs with _ | ⟨x0, _ | ⟨x1, vs⟩⟩ <;> first | rfl | simp at h) (by decide +kernel) (by decide +kernel) fun L => ?_
  refine Ex.ret (Ev.toN (by walk_at "EV") (cid_face h)) (retP.mk rfl)
theorem e_face {n : Nat} {env : Env} {Γ : Cx} {o : Expr} {ap pos : Pos} {args : List Expr} {m p : Nat} (h0 : m ≤ 30) (hk : 2 ≤ n) (ho : Ev (GG w mg mb) n env Γ o (.cell (cid m p))) (ha : Al (GG w mg mb) n env Γ pos args []) {pl : Sem Bool} (hplain : (backTo pos (starEach args env)).any (·.1) = false)
    (he : eval (.Call (.Attribute o "face" ap) args [] pos) env = (do
      let ov ← eval o env
      standAt ap.atName
      let (f, first) ← holding [ov] (getMethod ov "face" pl)
      callWith pos f first (backTo pos (starEach args env)) (backToKw pos (keywordEach [] env)))) : Ev (GG w mg mb) n env Γ (.Call (.Attribute o "face" ap) args [] pos) (.int ((p / 4 ^ (30 - m) : Nat) : Int)) :=
  Ev.meth co (mK_face _) (.cell _) (by decide) ho (f_face h0) hk ha hplain he
local macro_rules | `(tactic| walk_at "OWN") => `(tactic| (with_reducible refine' e_face ?h0 ?k ?a ?b (hplain := ?c) (he := ?d)); (case a => walk_at "EV"); (case b => walk_at "AL"); (case c => rfl); (case d => rfl); (case k => decide); (case h0 => walk_at "SIDE"); skip)
theorem mK_pos (P : Params) : MethOk (KK P) 444 "pos" 241 := by constructor <;> kernel_rfl
theorem f_pos {m p : Nat} : FnOk (GG w mg mb) 2 (.ref 241) [.cell (cid m p)] (.int ((cid m p % 2 ^ 61 : Nat) : Int)) := by
  refine FnOk.plain (ho := by rfl) (by kernel_rfl) (by intro vs h; rcases vs with _ | ⟨x0, _ | ⟨x1, vs⟩⟩ <;> first | rfl | simp at h) (by decide +kernel) (by decide +kernel) fun L => ?_
  refine Ex.ret (Ev.toN (by walk_at "EV") ?_) (retP.mk rfl)
  exact Nat.and_two_pow_sub_one_eq_mod _ 61
theorem e_pos {n : Nat} {env : Env} {Γ : Cx} {o : Expr} {ap pos : Pos} {args : List Expr} {m p : Nat}  (hk : 2 ≤ n) (ho : Ev (GG w mg mb) n env Γ o (.cell (cid m p))) (ha : Al (GG w mg mb) n env Γ pos args []) {pl : Sem Bool} (hplain : (backTo pos (starEach args env)).any (·.1) = false)
    (he : eval (.Call (.Attribute o "pos" ap) args [] pos) env = (do
      let ov ← eval o env
      standAt ap.atName
      let (f, first) ← holding [ov] (getMethod ov "pos" pl)
      callWith pos f first (backTo pos (starEach args env)) (backToKw pos (keywordEach [] env)))) : Ev (GG w mg mb) n env Γ (.Call (.Attribute o "pos" ap) args [] pos) (.int ((cid m p % 2 ^ 61 : Nat) : Int)) :=
  Ev.meth co (mK_pos _) (.cell _) (by decide) ho (f_pos ) hk ha hplain he
local macro_rules | `(tactic| walk_at "OWN") => `(tactic| (with_reducible refine' e_pos  ?k ?a ?b (hplain := ?c) (he := ?d)); (case a => walk_at "EV"); (case b => walk_at "AL"); (case c => rfl); (case d => rfl); (case k => decide);  skip)
theorem mK_valid (P : Params) : MethOk (KK P) 444 "is_valid" 220 := by constructor <;> kernel_rfl
theorem f_valid {m p : Nat} (h : m ≤ 30) (hp : p < 6 * 4 ^ (30 - m)) : FnOk (GG w mg mb) 3 (.ref 220) [.cell (cid m p)] (.bool true) := by
  refine FnOk.plain (ho := by rfl) (by kernel_rfl) (by intro vs h; rcases vs with _ | ⟨x0, _ | ⟨x1, vs⟩⟩ <;> first | rfl | simp at h) (by decide +kernel) (by decide +kernel) fun L => ?_
  have h1 : p / 4 ^ (30 - m) < 6 := (Nat.div_lt_iff_lt_mul (pow4_pos _)).mpr hp
  have h2 : ((4 ^ m &&& 1537228672809129301) != 0) = true := by
    have : ∀ m < 31, ((4 ^ m &&& 1537228672809129301) != 0) = true := by decide +kernel
    exact this m (by omega)
  refine Ex.ret (Ev.boolop (EvA.and (c := true) (Ev.toB (b := true) (by walk_at "EV") (decide_eq_true h1)) Tr.bool (fun _ => EvA.last (Ev.toB (by walk_at "EV") h2)) (fun h => by cases h))) (retP.mk rfl)
theorem e_valid {n : Nat} {env : Env} {Γ : Cx} {o : Expr} {ap pos : Pos} {args : List Expr} {m p : Nat} (h0 : m ≤ 30) (h1 : p < 6 * 4 ^ (30 - m)) (hk : 3 ≤ n) (ho : Ev (GG w mg mb) n env Γ o (.cell (cid m p))) (ha : Al (GG w mg mb) n env Γ pos args []) {pl : Sem Bool} (hplain : (backTo pos (starEach args env)).any (·.1) = false)
    (he : eval (.Call (.Attribute o "is_valid" ap) args [] pos) env = (do
      let ov ← eval o env
      standAt ap.atName
      let (f, first) ← holding [ov] (getMethod ov "is_valid" pl)
      callWith pos f first (backTo pos (starEach args env)) (backToKw pos (keywordEach [] env)))) : Ev (GG w mg mb) n env Γ (.Call (.Attribute o "is_valid" ap) args [] pos) (.bool true) :=
  Ev.meth co (mK_valid _) (.cell _) (by decide) ho (f_valid h0 h1) hk ha hplain he
local macro_rules | `(tactic| walk_at "OWN") => `(tactic| (with_reducible refine' e_valid ?h0 ?h1 ?k ?a ?b (hplain := ?c) (he := ?d)); (case a => walk_at "EV"); (case b => walk_at "AL"); (case c => rfl); (case d => rfl); (case k => decide); (case h0 => walk_at "SIDE"); (case h1 => walk_at "SIDE"); skip)
theorem mK_level (P : Params) : MethOk (KK P) 444 "level" 255 := by constructor <;> kernel_rfl
theorem f_level {m p : Nat} (h : m ≤ 30) : FnOk (GG w mg mb) 3 (.ref 255) [.cell (cid m p)] (.int ((30 - m : Nat) : Int)) := by
  refine FnOk.plain (ho := by rfl) (by kernel_rfl) (by intro vs h; rcases vs with _ | ⟨x0, _ | ⟨x1, vs⟩⟩ <;> first | rfl | simp at h) (by decide +kernel) (by decide +kernel) fun L => ?_
  refine Ex.ite (c := (m == 0)) (by walk_at "TV") (fun h0 => ?_) (fun h0 => ?_)
  · have : m = 0 := by simpa using h0
    subst this
    exact Ex.ret (by walk_at "EV") (retP.mk rfl)
  have hm0 : m ≠ 0 := by simpa using h0
  refine Ex.done ?_
  have fin : ∀ (k : Nat) (b : Int), k < 16 → (b = 15 ∧ k = m ∨ b = -1 ∧ k + 16 = m) → ∀ r, r = (if decide (k % 2 < 1) = true then (if decide (k % 4 < 2) = true then (if decide (k % 8 < 4) = true then (if decide (k < 8) = true then b + 8 else b) + 4 else (if decide (k < 8) = true then b + 8 else b)) + 2 else (if decide (k % 8 < 4) = true then (if decide (k < 8) = true then b + 8 else b) + 4 else (if decide (k < 8) = true then b + 8 else b))) + 1 else (if decide (k % 4 < 2) = true then (if decide (k % 8 < 4) = true then (if decide (k < 8) = true then b + 8 else b) + 4 else (if decide (k < 8) = true then b + 8 else b)) + 2 else (if decide (k % 8 < 4) = true then (if decide (k < 8) = true then b + 8 else b) + 4 else (if decide (k < 8) = true then b + 8 else b)))) → r = ((30 - m : Nat) : Int) := by
    intro k b hk hb r hr
    subst hr
    simp only [decide_eq_true_eq]
    omega
  refine Ex.assign (d := .int ((cid m p &&& 4294967295 : Nat) : Int)) (by walk_at "EV") ?_
  refine Ex.assign (d := .int (-1)) (Ev.to (by walk_at "EV") ?e) ?_
  case e => rfl
  by_cases hm : m < 16
  · obtain ⟨q, hq⟩ := cid_low (p := p) hm
    have hne : ((cid m p &&& 4294967295) != 0) = true := by
      rw [hq]
      have : 0 < (2 * q + 1) * 4 ^ m := Nat.mul_pos (by omega) (pow4_pos m)
      simpa using by omega
    refine Ex.ite (c := true) (Tv.to (by walk_at "TV") hne) (fun _ => ?_) (fun h => by cases h)
    refine Ex.aug (d := .int 15) rfl (by walk_at "EV") (B2.to I2.add rfl) (Ex.done ?_)
    obtain ⟨b1, b2, b3, b4⟩ := bits_at m hm
    refine Ex.aug (d := .int ((4 ^ m : Nat) : Int)) rfl (by walk_at "EV") (B2.to I2.and (by rw [lsb_of hq])) ?_
    refine Ex.ifAug (Tv.to (by walk_at "TV") b1) rfl rfl (by walk_at "EV") ?_
    refine Ex.ifAug (Tv.to (by walk_at "TV") b2) rfl rfl (by walk_at "EV") ?_
    refine Ex.ifAug (Tv.to (by walk_at "TV") b3) rfl rfl (by walk_at "EV") ?_
    refine Ex.ifAug (Tv.to (by walk_at "TV") b4) rfl rfl (by walk_at "EV") ?_
    refine Ex.recast (x := "level") (d' := .int ((30 - m : Nat) : Int)) rfl (congrArg D.int (fin m (15) (by omega) (.inl ⟨rfl, rfl⟩) _ rfl)) rfl ?_
    refine Ex.assert (Tv.to (by walk_at "TV") (decide_eq_true (by omega))) ?_
    refine Ex.assert (Tv.to (by walk_at "TV") (decide_eq_true (by omega))) ?_
    exact Ex.ret (by walk_at "EV") (retP.mk rfl)
  · have hz := cid_low0 (p := p) (show 16 ≤ m by omega)
    refine Ex.ite (c := false) (Tv.to (by walk_at "TV") (by rw [hz]; rfl)) (fun h => by cases h) (fun _ => ?_)
    have hh := cid_high (p := p) (show 16 ≤ m by omega)
    obtain ⟨q, hq⟩ := cid_low (m := m - 16) (p := p) (by omega)
    refine Ex.assign (d := .int ((cid (m - 16) p &&& 4294967295 : Nat) : Int)) (Ev.toN (by walk_at "EV") (by rw [hh])) (Ex.done ?_)
    obtain ⟨b1, b2, b3, b4⟩ := bits_at (m - 16) (by omega)
    refine Ex.aug (d := .int ((4 ^ (m - 16) : Nat) : Int)) rfl (by walk_at "EV") (B2.to I2.and (by rw [lsb_of hq])) ?_
    refine Ex.ifAug (Tv.to (by walk_at "TV") b1) rfl rfl (by walk_at "EV") ?_
    refine Ex.ifAug (Tv.to (by walk_at "TV") b2) rfl rfl (by walk_at "EV") ?_
    refine Ex.ifAug (Tv.to (by walk_at "TV") b3) rfl rfl (by walk_at "EV") ?_
    refine Ex.ifAug (Tv.to (by walk_at "TV") b4) rfl rfl (by walk_at "EV") ?_
    refine Ex.recast (x := "level") (d' := .int ((30 - m : Nat) : Int)) rfl (congrArg D.int (fin (m - 16) (-1) (by omega) (.inr ⟨rfl, by omega⟩) _ rfl)) rfl ?_
    refine Ex.assert (Tv.to (by walk_at "TV") (decide_eq_true (by omega))) ?_
    refine Ex.assert (Tv.to (by walk_at "TV") (decide_eq_true (by omega))) ?_
    exact Ex.ret (by walk_at "EV") (retP.mk rfl)
theorem e_level {n : Nat} {env : Env} {Γ : Cx} {o : Expr} {ap pos : Pos} {args : List Expr} {m p : Nat} (h0 : m ≤ 30) (hk : 3 ≤ n) (ho : Ev (GG w mg mb) n env Γ o (.cell (cid m p))) (ha : Al (GG w mg mb) n env Γ pos args []) {pl : Sem Bool} (hplain : (backTo pos (starEach args env)).any (·.1) = false)
    (he : eval (.Call (.Attribute o "level" ap) args [] pos) env = (do
      let ov ← eval o env
      standAt ap.atName
      let (f, first) ← holding [ov] (getMethod ov "level" pl)
      callWith pos f first (backTo pos (starEach args env)) (backToKw pos (keywordEach [] env)))) : Ev (GG w mg mb) n env Γ (.Call (.Attribute o "level" ap) args [] pos) (.int ((30 - m : Nat) : Int)) :=
  Ev.meth co (mK_level _) (.cell _) (by decide) ho (f_level h0) hk ha hplain he
local macro_rules | `(tactic| walk_at "OWN") => `(tactic| (with_reducible refine' e_level ?h0 ?k ?a ?b (hplain := ?c) (he := ?d)); (case a => walk_at "EV"); (case b => walk_at "AL"); (case c => rfl); (case d => rfl); (case k => decide); (case h0 => walk_at "SIDE"); skip)
theorem f_new {x : Nat} (h : x < 18446744073709551615) : FnOk (GG w mg mb) 4 (.ref 444) [.int (x : Int)] (.cell (x : Int)) := by
  intro S s vs g k r A Q E hA q
  refine initOne (n := 1) (f := 55) (key := cellKey) (names := ["id_"]) (dv := .int (x : Int)) co (by kernel_rfl) (by kernel_rfl) (by kernel_rfl) (ho := by rfl) (by kernel_rfl)
    (fun v vs s h X => by
      rcases vs with _ | ⟨x0, _ | ⟨x1, vs⟩⟩
      · simp at h
      · exact binds_K X rfl (show (KK w.params).lookup 48 = some o48 from rfl) rfl rfl rfl
      · simp at h) (by decide +kernel) (by decide +kernel) (by decide) (fun L v => Ev.toN (by walk_at "EV") (Nat.mod_eq_of_lt h)) (fun L => by rfl) (by rfl) (by rfl) (by rfl) (ds := [.int (x : Int)]) S s vs g k r A Q E hA ?_
  intro a dx v S' s' h1 h2 h3 X
  refine q _ S' s' X ?_
  obtain ⟨t, rfl⟩ := h3
  exact ⟨a, rfl, ⟨dx, t, h1, h2⟩⟩
theorem cid_ok {m p : Nat} (h : m ≤ 30) (hp : p < 6 * 4 ^ (30 - m)) : cid m p < 18446744073709551615 := by
  have := cid_lt h hp
  omega
/-- a new cell, by its class in a name -/
theorem e_newV {n : Nat} {env : Env} {Γ : Cx} {y : Str} {px pos : Pos} {args : List Expr} {x : Nat} (h : x < 18446744073709551615) (hk : 4 ≤ n) (ha : Al (GG w mg mb) n env Γ pos args [.int (x : Int)]) (hv : Γ.vars.lookup y = some (.val (.ref 444))) (hd : (y == ("__debug__" : Str)) = false)
    (hplain : (backTo pos (starEach args env)).any (·.1) = false) : Ev (GG w mg mb) n env Γ (.Call (.Name y px) args [] pos) (.cell (x : Int)) :=
  Ev.callV hv (co_keep _) (f_new h) hk ha hd hplain
local macro_rules | `(tactic| walk_at "OWN") => `(tactic| (with_reducible refine' e_newV ?h ?k ?b ?v ?d ?c); (case v => rfl); (case d => decide); (case b => walk_at "AL"); (case c => rfl); (case k => decide); (case h => walk_at "SIDE"))
/-- a new cell, by the class of an object -/
theorem e_newC {n : Nat} {env : Env} {Γ : Cx} {o : Expr} {ap pos : Pos} {args : List Expr} {x : Nat} {i : Int} (h : x < 18446744073709551615) (hk : 4 ≤ n) (ho : Ev (GG w mg mb) n env Γ o (.cell i)) (ha : Al (GG w mg mb) n env Γ pos args [.int (x : Int)])
    {pl : Sem Bool} (hplain : (backTo pos (starEach args env)).any (·.1) = false)
    (he : eval (.Call (.Attribute o "__class__" ap) args [] pos) env = (do
      let ov ← eval o env
      standAt ap.atName
      let (f, first) ← holding [ov] (getMethod ov "__class__" pl)
      callWith pos f first (backTo pos (starEach args env)) (backToKw pos (keywordEach [] env)))) : Ev (GG w mg mb) n env Γ (.Call (.Attribute o "__class__" ap) args [] pos) (.cell (x : Int)) :=
  Ev.mclass co (.cell _) ho (f_new h) hk ha hplain he
local macro_rules | `(tactic| walk_at "OWN") => `(tactic| (with_reducible refine' e_newC ?h ?k ?a ?b (hplain := ?c) (he := ?d)); (case a => walk_at "EV"); (case b => walk_at "AL"); (case c => rfl); (case d => rfl); (case k => decide); (case h => walk_at "SIDE"))
theorem nK_len (P : Params) : nsIn (KK P) mainGlobals "len" = some none := by kernel_rfl
theorem e_lenT {n : Nat} {env : Env} {Γ : Cx} {px pos : Pos} {args : List Expr} {ds : List D} (ha : Al (GG w mg mb) n env Γ pos args [.tup ds]) (h : ds.length < 2 ^ 63) (hx : env.kindOf "len" = some .globalImplicit) (hplain : (backTo pos (starEach args env)).any (·.1) = false) :
    Ev (GG w mg mb) n env Γ (.Call (.Name "len" px) args [] pos) (.int ((ds.length : Nat) : Int)) := Ev.callB (nK_len _) (by rfl) (.builtin _) (.lenTup h) ha hx (by decide) (by decide) hplain
local macro_rules | `(tactic| walk_at "OWN") => `(tactic| (with_reducible refine' e_lenT ?a ?h ?x ?c); (case a => walk_at "AL"); (case h => simp); (case x => rfl); (case c => rfl))
theorem mK_parent (P : Params) : MethOk (KK P) 444 "parent" 178 := by constructor <;> kernel_rfl
theorem f_parent1 {m p l : Nat} (h : m ≤ 30) (hp : p < 6 * 4 ^ (30 - m)) (hl : l ≤ 30 - m) : FnOk (GG w mg mb) 7 (.ref 178) [.cell (cid m p), .int (l : Int)] (.cell (cid (30 - l) (p / 4 ^ (30 - l - m)) : Nat)) := by
  refine FnOk.star (x := "self") (y := "args") (ho := by rfl) (by kernel_rfl) (by intro v vs h; rcases vs with _ | ⟨x0, _ | ⟨x1, vs⟩⟩ <;> first | rfl | simp at h) (by simp) (by decide +kernel) (by decide +kernel) fun L => ?_
  have hok := cid_ok (m := 30 - l) (by omega) (up_ok (show m ≤ 30 - l by omega) (by omega) hp)
  refine Ex.assert (by walk_at "TV") ?_
  refine Ex.ite (c := false) (Tv.to (by walk_at "TV") (by rfl)) (fun h => by cases h) (fun _ => ?_)
  refine Ex.ite (c := true) (Tv.to (by walk_at "TV") (by rfl)) (fun _ => ?_) (fun h => by cases h)
  refine Ex.assign (d := .int (l : Int)) (by walk_at "EV") ?_
  refine Ex.assert (Tv.to (by walk_at "TV") (decide_eq_true (by omega))) ?_
  refine Ex.assert (Tv.to (by walk_at "TV") (decide_eq_true (by omega))) ?_
  refine Ex.assign (d := .int ((4 ^ (30 - l) : Nat) : Int)) (by walk_at "EV") ?_
  have hc := cid_parent (p := p) (show m ≤ 30 - l by omega)
  rw [← hc] at hok ⊢
  exact Ex.ret (by walk_at "EV") (retP.mk rfl)
theorem f_parent0 {m p : Nat} (h : m < 30) (hp : p < 6 * 4 ^ (30 - m)) : FnOk (GG w mg mb) 7 (.ref 178) [.cell (cid m p)] (.cell (cid (m + 1) (p / 4) : Nat)) := by
  refine FnOk.star (x := "self") (y := "args") (ho := by rfl) (by kernel_rfl) (by intro v vs h; rcases vs with _ | ⟨x0, vs⟩ <;> first | rfl | simp at h) (by simp) (by decide +kernel) (by decide +kernel) fun L => ?_
  have h' : m ≤ 30 := by omega
  have hok := cid_ok (m := m + 1) (by omega) (up_ok (show m ≤ m + 1 by omega) (by omega) hp)
  rw [show m + 1 - m = 1 by omega, Nat.pow_one] at hok
  have hlt := pow4_lt (m := m) (by omega)
  refine Ex.assert (by walk_at "TV") ?_
  refine Ex.ite (c := true) (Tv.to (by walk_at "TV") (by rfl)) (fun _ => ?_) (fun h => by cases h)
  refine Ex.assert (Tv.to (by walk_at "TV") (by simp; omega)) ?_
  refine Ex.assign (d := .int ((4 ^ (m + 1) : Nat) : Int)) (Ev.toN (by walk_at "EV") (by rw [Nat.pow_succ 4 m])) ?_
  have hc := cid_parent (p := p) (show m ≤ m + 1 by omega)
  rw [show m + 1 - m = 1 by omega, Nat.pow_one] at hc
  rw [← hc] at hok ⊢
  exact Ex.ret (by walk_at "EV") (retP.mk rfl)
theorem mK_parent1 (P : Params) : MethOk (KK P) 444 "parent" 178 := mK_parent P
theorem mK_parent0 (P : Params) : MethOk (KK P) 444 "parent" 178 := mK_parent P
theorem e_parent1 {n : Nat} {env : Env} {Γ : Cx} {o : Expr} {ap pos : Pos} {args : List Expr} {m p l : Nat} (h0 : m ≤ 30) (h1 : p < 6 * 4 ^ (30 - m)) (h2 : l ≤ 30 - m) (hk : 7 ≤ n) (ho : Ev (GG w mg mb) n env Γ o (.cell (cid m p))) (ha : Al (GG w mg mb) n env Γ pos args [.int (l : Int)]) {pl : Sem Bool} (hplain : (backTo pos (starEach args env)).any (·.1) = false)
    (he : eval (.Call (.Attribute o "parent" ap) args [] pos) env = (do
      let ov ← eval o env
      standAt ap.atName
      let (f, first) ← holding [ov] (getMethod ov "parent" pl)
      callWith pos f first (backTo pos (starEach args env)) (backToKw pos (keywordEach [] env)))) : Ev (GG w mg mb) n env Γ (.Call (.Attribute o "parent" ap) args [] pos) (.cell (cid (30 - l) (p / 4 ^ (30 - l - m)) : Nat)) :=
  Ev.meth co (mK_parent1 _) (.cell _) (by decide) ho (f_parent1 h0 h1 h2) hk ha hplain he
local macro_rules | `(tactic| walk_at "OWN") => `(tactic| (with_reducible refine' e_parent1 ?h0 ?h1 ?h2 ?k ?a ?b (hplain := ?c) (he := ?d)); (case a => walk_at "EV"); (case b => walk_at "AL"); (case c => rfl); (case d => rfl); (case k => decide); (case h0 => walk_at "SIDE"); (case h1 => walk_at "SIDE"); (case h2 => walk_at "SIDE"); skip)
theorem e_parent0 {n : Nat} {env : Env} {Γ : Cx} {o : Expr} {ap pos : Pos} {args : List Expr} {m p : Nat} (h0 : m < 30) (h1 : p < 6 * 4 ^ (30 - m)) (hk : 7 ≤ n) (ho : Ev (GG w mg mb) n env Γ o (.cell (cid m p))) (ha : Al (GG w mg mb) n env Γ pos args []) {pl : Sem Bool} (hplain : (backTo pos (starEach args env)).any (·.1) = false)
    (he : eval (.Call (.Attribute o "parent" ap) args [] pos) env = (do
      let ov ← eval o env
      standAt ap.atName
      let (f, first) ← holding [ov] (getMethod ov "parent" pl)
      callWith pos f first (backTo pos (starEach args env)) (backToKw pos (keywordEach [] env)))) : Ev (GG w mg mb) n env Γ (.Call (.Attribute o "parent" ap) args [] pos) (.cell (cid (m + 1) (p / 4) : Nat)) :=
  Ev.meth co (mK_parent0 _) (.cell _) (by decide) ho (f_parent0 h0 h1) hk ha hplain he
local macro_rules | `(tactic| walk_at "OWN") => `(tactic| (with_reducible refine' e_parent0 ?h0 ?h1 ?k ?a ?b (hplain := ?c) (he := ?d)); (case a => walk_at "EV"); (case b => walk_at "AL"); (case c => rfl); (case d => rfl); (case k => decide); (case h0 => walk_at "SIDE"); (case h1 => walk_at "SIDE"); skip)
theorem mK_child (P : Params) : MethOk (KK P) 444 "child" 185 := by constructor <;> kernel_rfl
theorem f_child {m p k : Nat} (h0 : 0 < m) (h : m ≤ 30) (hp : p < 6 * 4 ^ (30 - m)) (hk : k < 4) : FnOk (GG w mg mb) 7 (.ref 185) [.cell (cid m p), .int (k : Int)] (.cell (cid (m - 1) (4 * p + k) : Nat)) := by
  refine FnOk.plain (ho := by rfl) (by kernel_rfl) (by intro vs h; rcases vs with _ | ⟨x0, _ | ⟨x1, _ | ⟨x2, vs⟩⟩⟩ <;> first | rfl | simp at h) (by decide +kernel) (by decide +kernel) fun L => ?_
  have hok := cid_ok (m := m - 1) (by omega) (down_ok h0 h hk hp)
  have hlt := pow4_lt (m := m) (by omega)
  refine Ex.assert (by walk_at "TV") ?_
  refine Ex.assert (Tv.to (by walk_at "TV") (by simp; omega)) ?_
  refine Ex.assign (d := .int ((4 ^ m / 2 ^ 2 : Nat) : Int)) (by walk_at "EV") ?_
  have hb : (4 ^ m / 2 ^ 2) < 2 ^ 100 := Nat.lt_of_le_of_lt (Nat.div_le_self _ _) hlt
  have hm : IntMulOk (2 * (k : Int) + 1 - 4) ((4 ^ m / 2 ^ 2 : Nat) : Int) := IntMulOk.of_left (intBits_le (by omega))
  refine Ex.ret (e_newC (i := (cid m p : Int)) hok (by decide) (by walk_at "EV") (Al.cons (Ev.to (Ev.bin (db := .int ((2 * (k : Int) + 1 - 4) * ((4 ^ m / 2 ^ 2 : Nat) : Int))) (by walk_at "EV") (Ev.bin (da := .int (2 * (k : Int) + 1 - 4)) (Ev.to (by walk_at "EV") ?e1) (by walk_at "EV") (B2.mul hm)) B2.add) ?e2) Al.nil (by rfl)) (by rfl) (by rfl)) (retP.mk rfl)
  case e1 => simp
  case e2 => rw [← cid_child h0]
theorem e_child {n : Nat} {env : Env} {Γ : Cx} {o : Expr} {ap pos : Pos} {args : List Expr} {m p k : Nat} (h0 : 0 < m) (h1 : m ≤ 30) (h2 : p < 6 * 4 ^ (30 - m)) (h3 : k < 4) (hk : 7 ≤ n) (ho : Ev (GG w mg mb) n env Γ o (.cell (cid m p))) (ha : Al (GG w mg mb) n env Γ pos args [.int (k : Int)]) {pl : Sem Bool} (hplain : (backTo pos (starEach args env)).any (·.1) = false)
    (he : eval (.Call (.Attribute o "child" ap) args [] pos) env = (do
      let ov ← eval o env
      standAt ap.atName
      let (f, first) ← holding [ov] (getMethod ov "child" pl)
      callWith pos f first (backTo pos (starEach args env)) (backToKw pos (keywordEach [] env)))) : Ev (GG w mg mb) n env Γ (.Call (.Attribute o "child" ap) args [] pos) (.cell (cid (m - 1) (4 * p + k) : Nat)) :=
  Ev.meth co (mK_child _) (.cell _) (by decide) ho (f_child h0 h1 h2 h3) hk ha hplain he
local macro_rules | `(tactic| walk_at "OWN") => `(tactic| (with_reducible refine' e_child ?h0 ?h1 ?h2 ?h3 ?k ?a ?b (hplain := ?c) (he := ?d)); (case a => walk_at "EV"); (case b => walk_at "AL"); (case c => rfl); (case d => rfl); (case k => decide); (case h0 => walk_at "SIDE"); (case h1 => walk_at "SIDE"); (case h2 => walk_at "SIDE"); (case h3 => walk_at "SIDE"); skip)
theorem mK_size0 (P : Params) : MethOk (KK P) 444 "get_size_ij" 424 := by constructor <;> kernel_rfl
theorem f_size0 {m p : Nat} (h : m ≤ 30) : FnOk (GG w mg mb) 5 (.ref 424) [.cell (cid m p)] (.int ((2 ^ m : Nat) : Int)) := by
  refine FnOk.star (x := "self") (y := "args") (ho := by rfl) (by kernel_rfl) (by intro v vs h; rcases vs with _ | ⟨x0, vs⟩ <;> first | rfl | simp at h) (by simp) (by decide +kernel) (by decide +kernel) fun L => ?_
  refine Ex.ite (c := true) (Tv.to (by walk_at "TV") (by rfl)) (fun _ => ?_) (fun h => by cases h)
  refine Ex.assign (d := .int ((30 - m : Nat) : Int)) (by walk_at "EV") (Ex.done ?_)
  refine Ex.ret (Ev.toN (by walk_at "EV") ?_) (retP.mk rfl)
  rw [Nat.one_mul]; congr 1; omega
theorem e_size0 {n : Nat} {env : Env} {Γ : Cx} {o : Expr} {ap pos : Pos} {args : List Expr} {m p : Nat} (h0 : m ≤ 30) (hk : 5 ≤ n) (ho : Ev (GG w mg mb) n env Γ o (.cell (cid m p))) (ha : Al (GG w mg mb) n env Γ pos args []) {pl : Sem Bool} (hplain : (backTo pos (starEach args env)).any (·.1) = false)
    (he : eval (.Call (.Attribute o "get_size_ij" ap) args [] pos) env = (do
      let ov ← eval o env
      standAt ap.atName
      let (f, first) ← holding [ov] (getMethod ov "get_size_ij" pl)
      callWith pos f first (backTo pos (starEach args env)) (backToKw pos (keywordEach [] env)))) : Ev (GG w mg mb) n env Γ (.Call (.Attribute o "get_size_ij" ap) args [] pos) (.int ((2 ^ m : Nat) : Int)) :=
  Ev.meth co (mK_size0 _) (.cell _) (by decide) ho (f_size0 h0) hk ha hplain he
local macro_rules | `(tactic| walk_at "OWN") => `(tactic| (with_reducible refine' e_size0 ?h0 ?k ?a ?b (hplain := ?c) (he := ?d)); (case a => walk_at "EV"); (case b => walk_at "AL"); (case c => rfl); (case d => rfl); (case k => decide); (case h0 => walk_at "SIDE"); skip)
theorem gr_LB : ∃ v, nsIn (GG w mg mb).K mainGlobals "LOOKUP_BITS" = some (some v) ∧ ∀ S, Gd (GG w mg mb) S → Rd (GG w mg mb) S (.int ((4 : Nat) : Int)) v := ⟨_, rfl, fun _ _ => ⟨_, rfl⟩⟩
theorem gr_SM : ∃ v, nsIn (GG w mg mb).K mainGlobals "SWAP_MASK" = some (some v) ∧ ∀ S, Gd (GG w mg mb) S → Rd (GG w mg mb) S (.int ((1 : Nat) : Int)) v := ⟨_, rfl, fun _ _ => ⟨_, rfl⟩⟩
theorem gr_IM : ∃ v, nsIn (GG w mg mb).K mainGlobals "INVERT_MASK" = some (some v) ∧ ∀ S, Gd (GG w mg mb) S → Rd (GG w mg mb) S (.int ((2 : Nat) : Int)) v := ⟨_, rfl, fun _ _ => ⟨_, rfl⟩⟩
theorem e_LB {n : Nat} {env : Env} {Γ : Cx} {pos : Pos} (hx : env.kindOf "LOOKUP_BITS" = some .globalImplicit) : Ev (GG w mg mb) n env Γ (.Name "LOOKUP_BITS" pos) (.int ((4 : Nat) : Int)) := by
  obtain ⟨v, h, r⟩ := gr_LB (w := w) (mg := mg) (mb := mb)
  exact Ev.glob h hx r (by decide)
local macro_rules | `(tactic| walk_at "OWN") => `(tactic| (with_reducible refine' e_LB ?x); (case x => rfl))
theorem e_SM {n : Nat} {env : Env} {Γ : Cx} {pos : Pos} (hx : env.kindOf "SWAP_MASK" = some .globalImplicit) : Ev (GG w mg mb) n env Γ (.Name "SWAP_MASK" pos) (.int ((1 : Nat) : Int)) := by
  obtain ⟨v, h, r⟩ := gr_SM (w := w) (mg := mg) (mb := mb)
  exact Ev.glob h hx r (by decide)
local macro_rules | `(tactic| walk_at "OWN") => `(tactic| (with_reducible refine' e_SM ?x); (case x => rfl))
theorem e_IM {n : Nat} {env : Env} {Γ : Cx} {pos : Pos} (hx : env.kindOf "INVERT_MASK" = some .globalImplicit) : Ev (GG w mg mb) n env Γ (.Name "INVERT_MASK" pos) (.int ((2 : Nat) : Int)) := by
  obtain ⟨v, h, r⟩ := gr_IM (w := w) (mg := mg) (mb := mb)
  exact Ev.glob h hx r (by decide)
local macro_rules | `(tactic| walk_at "OWN") => `(tactic| (with_reducible refine' e_IM ?x); (case x => rfl))
theorem rd_toks {G : Gx} {S : Gh} : ∀ (l : List Int) (t : Nat), RdL G S (l.map D.int) (toksFrom t l)
  | [], _ => RdL.nil
  | i :: l, t => RdL.cons Rd.int (rd_toks l (t + 1))
theorem rd_row {S : Gh} (g : Gd (GG w mg mb) S) {a t : Nat} {l : List Int} (h : (KK w.params).lookup a = some ⟨.type "list", none, .seq (toksFrom t l).toArray 0, #[]⟩) : Rd (GG w mg mb) S (dnums l) (.ref a) := by
  obtain ⟨B, X, _, k⟩ := g
  refine ⟨a, _, rfl, ⟨_, k _ _ (X _ _ h), rfl, 0, rfl⟩, ?_⟩
  rw [List.toList_toArray]
  exact rd_toks l t
noncomputable def LP : List (List Int) := [rowIn 6 0, rowIn 6 1, rowIn 6 2, rowIn 6 3, rowIn 6 4, rowIn 6 5, rowIn 6 6, rowIn 6 7]
noncomputable def LJ : List (List Int) := [rowIn 7 0, rowIn 7 1, rowIn 7 2, rowIn 7 3, rowIn 7 4, rowIn 7 5, rowIn 7 6, rowIn 7 7]
theorem gr_LP : ∃ v, nsIn (GG w mg mb).K mainGlobals "LOOKUP_POS" = some (some v) ∧ ∀ S, Gd (GG w mg mb) S → Rd (GG w mg mb) S (.lst (LP.map dnums)) v := by
  refine ⟨.ref 31, by rfl, fun S g => ?_⟩
  have g' := g
  obtain ⟨B, X, _, k⟩ := g'
  refine ⟨31, _, rfl, ⟨_, k _ _ (X 31 o31 rfl), rfl, 0, rfl⟩, ?_⟩
  exact RdL.cons (rd_row g rfl) (RdL.cons (rd_row g rfl) (RdL.cons (rd_row g rfl) (RdL.cons (rd_row g rfl) (RdL.cons (rd_row g rfl) (RdL.cons (rd_row g rfl) (RdL.cons (rd_row g rfl) (RdL.cons (rd_row g rfl) RdL.nil)))))))
theorem gr_LJ : ∃ v, nsIn (GG w mg mb).K mainGlobals "LOOKUP_IJ" = some (some v) ∧ ∀ S, Gd (GG w mg mb) S → Rd (GG w mg mb) S (.lst (LJ.map dnums)) v := by
  refine ⟨.ref 40, by rfl, fun S g => ?_⟩
  have g' := g
  obtain ⟨B, X, _, k⟩ := g'
  refine ⟨40, _, rfl, ⟨_, k _ _ (X 40 o40 rfl), rfl, 0, rfl⟩, ?_⟩
  exact RdL.cons (rd_row g rfl) (RdL.cons (rd_row g rfl) (RdL.cons (rd_row g rfl) (RdL.cons (rd_row g rfl) (RdL.cons (rd_row g rfl) (RdL.cons (rd_row g rfl) (RdL.cons (rd_row g rfl) (RdL.cons (rd_row g rfl) RdL.nil)))))))
theorem gr_PO : ∃ v, nsIn (GG w mg mb).K mainGlobals "POS_TO_ORIENTATION" = some (some v) ∧ ∀ S, Gd (GG w mg mb) S → Rd (GG w mg mb) S (dnums [1, 0, 0, 3]) v := by
  refine ⟨.ref 22, by rfl, fun S g => ?_⟩
  exact rd_row g (show (KK w.params).lookup 22 = some ⟨.type "list", none, .seq (toksFrom 202 [1, 0, 0, 3]).toArray 0, #[]⟩ from by rfl)
theorem e_LP {n : Nat} {env : Env} {Γ : Cx} {pos : Pos} (hx : env.kindOf "LOOKUP_POS" = some .globalImplicit) : Ev (GG w mg mb) n env Γ (.Name "LOOKUP_POS" pos) (.lst (LP.map dnums)) := by
  obtain ⟨v, h, r⟩ := gr_LP (w := w) (mg := mg) (mb := mb)
  exact Ev.glob h hx r (by decide)
local macro_rules | `(tactic| walk_at "OWN") => `(tactic| (with_reducible refine' e_LP ?x); (case x => rfl))
theorem e_LJ {n : Nat} {env : Env} {Γ : Cx} {pos : Pos} (hx : env.kindOf "LOOKUP_IJ" = some .globalImplicit) : Ev (GG w mg mb) n env Γ (.Name "LOOKUP_IJ" pos) (.lst (LJ.map dnums)) := by
  obtain ⟨v, h, r⟩ := gr_LJ (w := w) (mg := mg) (mb := mb)
  exact Ev.glob h hx r (by decide)
local macro_rules | `(tactic| walk_at "OWN") => `(tactic| (with_reducible refine' e_LJ ?x); (case x => rfl))
theorem e_PO {n : Nat} {env : Env} {Γ : Cx} {pos : Pos} (hx : env.kindOf "POS_TO_ORIENTATION" = some .globalImplicit) : Ev (GG w mg mb) n env Γ (.Name "POS_TO_ORIENTATION" pos) (dnums [1, 0, 0, 3]) := by
  obtain ⟨v, h, r⟩ := gr_PO (w := w) (mg := mg) (mb := mb)
  exact Ev.glob h hx r (by decide)
local macro_rules | `(tactic| walk_at "OWN") => `(tactic| (with_reducible refine' e_PO ?x); (case x => rfl))
/-- the tables say what the curve says, four bits at a time -/
theorem LP_all : (List.range 1024).all (fun x => ((LP[x / 128]?).bind (·[x % 128]?)) == some ((4 * (hil 4 (x % 4) (x / 64) (x / 4 % 16)).1 + (hil 4 (x % 4) (x / 64) (x / 4 % 16)).2 : Nat) : Int)) = true := by decide +kernel
theorem LJ_all : (List.range 1024).all (fun x => ((LJ[x / 128]?).bind (·[x % 128]?)) == some (((lih 4 (x % 4) (x / 4)).1 * 64 + (lih 4 (x % 4) (x / 4)).2.1 * 4 + (lih 4 (x % 4) (x / 4)).2.2 : Nat) : Int)) = true := by decide +kernel
theorem tab_at {L : List (List Int)} {f : Nat → Nat} (h : (List.range 1024).all (fun x => ((L[x / 128]?).bind (·[x % 128]?)) == some ((f x : Nat) : Int)) = true) {x : Nat} (hx : x < 1024) :
    ∃ row, (L.map dnums)[((x / 2 ^ 7 : Nat) : Int).toNat]? = some (dnums row) ∧ (row.map D.int)[((x &&& 127 : Nat) : Int).toNat]? = some (.int ((f x : Nat) : Int)) := by
  have := List.all_eq_true.mp h x (List.mem_range.mpr hx)
  have e := beq_iff_eq.mp this
  obtain ⟨row, h1, h2⟩ := Option.bind_eq_some_iff.mp e
  refine ⟨row, ?_, ?_⟩
  · rw [Int.toNat_natCast, List.getElem?_map, h1]; rfl
  · rw [Int.toNat_natCast, List.getElem?_map, show (127 : Nat) = 2 ^ 7 - 1 from rfl, Nat.and_two_pow_sub_one_eq_mod, h2]; rfl
/-- an item of a table of two rows' depth -/
theorem Ev.tab {n : Nat} {env : Env} {Γ : Cx} {v a b : Expr} {p1 p2 : Pos} {L : List (List Int)} {f : Nat → Nat} {x : Nat} (h : (List.range 1024).all (fun x => ((L[x / 128]?).bind (·[x % 128]?)) == some ((f x : Nat) : Int)) = true) (hx : x < 1024)
    (hv : Ev (GG w mg mb) n env Γ v (.lst (L.map dnums))) (ha : Ev (GG w mg mb) n env Γ a (.int ((x / 2 ^ 7 : Nat) : Int))) (hb : Ev (GG w mg mb) n env Γ b (.int ((x &&& 127 : Nat) : Int)))
    (hs1 : ∀ o i, ∃ ops, subscripted a false o i = operate ops (getItem o i)) (hs2 : ∀ o i, ∃ ops, subscripted b false o i = operate ops (getItem o i)) :
    Ev (GG w mg mb) n env Γ (.Subscript (.Subscript v a p1) b p2) (.int ((f x : Nat) : Int)) := by
  obtain ⟨row, h1, h2⟩ := tab_at h hx
  have b1 : x &&& 127 ≤ 127 := Nat.and_le_right
  refine Ev.item (Ev.item hv ha (It.lst (by omega) (by omega) h1) hs1) hb (It.lst (ds := row.map D.int) (by omega) (by omega) h2) hs2
theorem nK_range (P : Params) : nsIn (KK P) mainGlobals "range" = some none := by kernel_rfl
theorem down8 : rngL ((7 : Nat) : Int) (-((1 : Nat) : Int)) (-((1 : Nat) : Int)) = (List.range 8).map fun i => .int ((7 - i : Nat) : Int) := by rfl
theorem down8_at {t : Nat} {d : D} (h : (rngL ((7 : Nat) : Int) (-((1 : Nat) : Int)) (-((1 : Nat) : Int)))[t]? = some d) : t < 8 ∧ d = .int ((7 - t : Nat) : Int) := by
  rw [down8, List.getElem?_map] at h
  obtain ⟨i, h1, h2⟩ := Option.map_eq_some_iff.mp h
  obtain ⟨h3, h4⟩ := List.getElem?_eq_some_iff.mp h1
  rw [List.getElem_range] at h4
  rw [List.length_range] at h3
  subst h4
  exact ⟨h3, h2.symm⟩
def ffN (f o i j t : Nat) : Nat := f * 2 ^ 60 + (hil (4 * t) o (i / 2 ^ (32 - 4 * t)) (j / 2 ^ (32 - 4 * t))).1 * 4 ^ (32 - 4 * t)
def ffB (o i j t : Nat) : Nat := (hil (4 * t) o (i / 2 ^ (32 - 4 * t)) (j / 2 ^ (32 - 4 * t))).2
theorem ff_step {f o i j t : Nat} (ht : t < 8) (ho : o < 2) (hi : i < 2 ^ 30) (hj : j < 2 ^ 30) : ∃ v, v < 1024 ∧
    v = 4 * (hil 4 (ffB o i j t) (i / 2 ^ (4 * (7 - t)) % 16) (j / 2 ^ (4 * (7 - t)) % 16)).1 + (hil 4 (ffB o i j t) (i / 2 ^ (4 * (7 - t)) % 16) (j / 2 ^ (4 * (7 - t)) % 16)).2 ∧
    (ffN f o i j t ||| v / 4 * 2 ^ ((7 - t) * 8)) = ffN f o i j (t + 1) ∧ v % 4 = ffB o i j (t + 1) := by
  have hb : ffB o i j t < 4 := (hil_lt _ _ _ (by omega)).2
  obtain ⟨h1, h2⟩ := hil_lt 4 (i / 2 ^ (4 * (7 - t)) % 16) (j / 2 ^ (4 * (7 - t)) % 16) hb
  have happ := hil_app (4 * t) 4 o (i / 2 ^ (4 * (7 - t))) (j / 2 ^ (4 * (7 - t)))
  rw [Nat.div_div_eq_div_mul, Nat.div_div_eq_div_mul, ← Nat.pow_add, show 4 * (7 - t) + 4 = 32 - 4 * t by omega] at happ
  have hmod := hil_mod 4 (ffB o i j t) (i / 2 ^ (4 * (7 - t))) (j / 2 ^ (4 * (7 - t)))
  rw [show (2 : Nat) ^ 4 = 16 from rfl] at hmod
  change hil (4 * t + 4) o _ _ = (_ * 4 ^ 4 + (hil 4 (ffB o i j t) _ _).1, (hil 4 (ffB o i j t) _ _).2) at happ
  rw [hmod] at happ
  refine ⟨_, by omega, rfl, ?_, ?_⟩
  · rw [show (4 * (hil 4 (ffB o i j t) (i / 2 ^ (4 * (7 - t)) % 16) (j / 2 ^ (4 * (7 - t)) % 16)).1 + (hil 4 (ffB o i j t) (i / 2 ^ (4 * (7 - t)) % 16) (j / 2 ^ (4 * (7 - t)) % 16)).2) / 4 = (hil 4 (ffB o i j t) (i / 2 ^ (4 * (7 - t)) % 16) (j / 2 ^ (4 * (7 - t)) % 16)).1 by omega]
    have hor : (ffN f o i j t ||| (hil 4 (ffB o i j t) (i / 2 ^ (4 * (7 - t)) % 16) (j / 2 ^ (4 * (7 - t)) % 16)).1 * 2 ^ ((7 - t) * 8)) = ffN f o i j t + (hil 4 (ffB o i j t) (i / 2 ^ (4 * (7 - t)) % 16) (j / 2 ^ (4 * (7 - t)) % 16)).1 * 2 ^ ((7 - t) * 8) := by
      by_cases h0 : t = 0
      · subst h0
        have hn : ffN f o i j 0 = 2 ^ 60 * f := by
          unfold ffN
          show f * 2 ^ 60 + 0 * 4 ^ (32 - 4 * 0) = _
          rw [Nat.zero_mul, Nat.add_zero, Nat.mul_comm]
        have hx : (hil 4 (ffB o i j 0) (i / 2 ^ (4 * (7 - 0)) % 16) (j / 2 ^ (4 * (7 - 0)) % 16)).1 < 4 ^ 2 := by
          have e : ∀ x, x < 2 ^ 30 → x / 2 ^ (4 * (7 - 0)) % 16 < 2 ^ 2 := fun x hx => by
            have : x / 2 ^ (4 * (7 - 0)) < 4 := (Nat.div_lt_iff_lt_mul (by decide)).mpr (by show x < 4 * 2 ^ 28; omega)
            omega
          rw [show ffB o i j 0 = o from rfl, hil_zeros' (b := 2) ho (e i hi) (e j hj)]
          exact (hil_lt 2 _ _ (by omega)).1
        rw [hn, Nat.two_pow_add_eq_or_of_lt]
        show _ * 2 ^ 56 < 2 ^ 60
        omega
      · have hn : ffN f o i j t = 2 ^ (8 * ((7 - t) + 1)) * (f * 2 ^ (60 - 8 * ((7 - t) + 1)) + (hil (4 * t) o (i / 2 ^ (32 - 4 * t)) (j / 2 ^ (32 - 4 * t))).1) := by
          unfold ffN
          rw [Nat.mul_add, Nat.mul_comm (2 ^ (8 * (7 - t + 1))), Nat.mul_assoc, ← Nat.pow_add, Nat.mul_comm (2 ^ (8 * (7 - t + 1))), four_pow]
          rw [show 60 - 8 * (7 - t + 1) + 8 * (7 - t + 1) = 60 by omega, show 2 * (32 - 4 * t) = 8 * (7 - t + 1) by omega]
        exact or_low hn (by omega)
    rw [hor]
    unfold ffN
    rw [show 32 - 4 * (t + 1) = 4 * (7 - t) by omega, show 4 * (t + 1) = 4 * t + 4 by omega, happ]
    dsimp only
    rw [Nat.add_mul, Nat.mul_assoc, ← Nat.pow_add, show 4 + 4 * (7 - t) = 32 - 4 * t by omega, Nat.add_assoc, show (7 - t) * 8 = 2 * (4 * (7 - t)) by omega, ← four_pow]
  · rw [show (4 * (hil 4 (ffB o i j t) (i / 2 ^ (4 * (7 - t)) % 16) (j / 2 ^ (4 * (7 - t)) % 16)).1 + (hil 4 (ffB o i j t) (i / 2 ^ (4 * (7 - t)) % 16) (j / 2 ^ (4 * (7 - t)) % 16)).2) % 4 = (hil 4 (ffB o i j t) (i / 2 ^ (4 * (7 - t)) % 16) (j / 2 ^ (4 * (7 - t)) % 16)).2 by omega]
    show _ = (hil (4 * (t + 1)) o (i / 2 ^ (32 - 4 * (t + 1))) (j / 2 ^ (32 - 4 * (t + 1)))).2
    rw [show 32 - 4 * (t + 1) = 4 * (7 - t) by omega, show 4 * (t + 1) = 4 * t + 4 by omega, happ]
theorem mK_ffij (P : Params) : CmOk (KK P) 444 "from_face_ij" 130 128 := by
  refine ⟨by kernel_rfl, by kernel_rfl, by kernel_rfl, by kernel_rfl, by kernel_rfl, ⟨_, by rfl⟩, by kernel_rfl⟩
theorem f_ffij {f i j : Nat} (hf : f < 6) (hi : i < 2 ^ 30) (hj : j < 2 ^ 30) : FnOk (GG w mg mb) 6 (.ref 128) [.val (.ref 444), .int (f : Int), .int (i : Int), .int (j : Int)] (.cell (cid 0 (f * 4 ^ 30 + (hil 30 (f % 2) i j).1) : Nat)) := by
  refine FnOk.plain (ho := by rfl) (by kernel_rfl) (by intro vs h; rcases vs with _ | ⟨x0, _ | ⟨x1, _ | ⟨x2, _ | ⟨x3, _ | ⟨x4, vs⟩⟩⟩⟩⟩ <;> first | rfl | simp at h) (by decide +kernel) (by decide +kernel) fun L => ?_
  have ho : f % 2 < 2 := Nat.mod_lt _ (by decide)
  refine Ex.assign (d := .int ((ffN f (f % 2) i j 0 : Nat) : Int)) (Ev.toN (by walk_at "EV") ?_) ?_
  · unfold ffN
    show f * 2 ^ 60 = f * 2 ^ 60 + 0 * 4 ^ (32 - 4 * 0)
    rw [Nat.zero_mul, Nat.add_zero]
  refine Ex.assign (d := .int ((ffB (f % 2) i j 0 : Nat) : Int)) (Ev.toN (by walk_at "EV") (Nat.and_one_is_mod f)) ?_
  refine Ex.sub (Γ' := ⟨[("n", .int ((ffN f (f % 2) i j 0 : Nat) : Int)), ("bits", .int ((ffB (f % 2) i j 0 : Nat) : Int)), ("i", .int (i : Int)), ("j", .int (j : Int)), ("cls", .val (.ref 444))], none⟩) ?_
    (Cx.sub_of (all_cons rfl (all_cons rfl (all_cons rfl (all_cons rfl (all_cons rfl all_nil))))))
  refine Ex.for (fun t Γ => t ≤ 8 ∧ Γ = ⟨[("n", .int ((ffN f (f % 2) i j t : Nat) : Int)), ("bits", .int ((ffB (f % 2) i j t : Nat) : Int)), ("i", .int (i : Int)), ("j", .int (j : Int)), ("cls", .val (.ref 444))], none⟩)
    (Ev.range3 (nK_range _) (a := ((7 : Nat) : Int)) (b := -((1 : Nat) : Int)) (c := -((1 : Nat) : Int)) (by decide) (by exact PyProof.noPylong_of_log2 (by decide +kernel)) (by decide +kernel) (by walk_at "AL") (by rfl) (by rfl)) ⟨Nat.zero_le _, rfl⟩ ?_ ?_
  · rintro t d Γ1 hd ⟨_, rfl⟩
    obtain ⟨ht, rfl⟩ := down8_at hd
    obtain ⟨v, hv, hv2, hn, hb⟩ := ff_step (f := f) ht ho hi hj
    have hB : ffB (f % 2) i j t < 4 := (hil_lt _ _ _ (by omega)).2
    refine ⟨_, As.name, ?_⟩
    refine Ex.assign (d := .int ((15 : Nat) : Int)) (Ev.toN (by walk_at "EV") (by rfl)) ?_
    have hi1 : i / 2 ^ ((7 - t) * 4) &&& 15 ≤ 15 := Nat.and_le_right
    have hj1 : j / 2 ^ ((7 - t) * 4) &&& 15 ≤ 15 := Nat.and_le_right
    have hi2 : i / 2 ^ ((7 - t) * 4) &&& 15 = i / 2 ^ (4 * (7 - t)) % 16 := by rw [show (15 : Nat) = 2 ^ 4 - 1 from rfl, Nat.and_two_pow_sub_one_eq_mod, Nat.mul_comm 4]
    have hj2 : j / 2 ^ ((7 - t) * 4) &&& 15 = j / 2 ^ (4 * (7 - t)) % 16 := by rw [show (15 : Nat) = 2 ^ 4 - 1 from rfl, Nat.and_two_pow_sub_one_eq_mod, Nat.mul_comm 4]
    refine Ex.aug (d := .int ((ffB (f % 2) i j t + (i / 2 ^ (4 * (7 - t)) % 16) * 2 ^ (4 + 2) : Nat) : Int)) rfl (Ev.toN (by walk_at "EV") (by rw [hi2])) I2.addN ?_
    refine Ex.aug (d := .int ((ffB (f % 2) i j t + (i / 2 ^ (4 * (7 - t)) % 16) * 2 ^ (4 + 2) + (j / 2 ^ (4 * (7 - t)) % 16) * 2 ^ 2 : Nat) : Int)) rfl (Ev.toN (by walk_at "EV") (by rw [hj2])) I2.addN ?_
    have hi3 : i / 2 ^ (4 * (7 - t)) % 16 < 16 := Nat.mod_lt _ (by decide)
    have hj3 : j / 2 ^ (4 * (7 - t)) % 16 < 16 := Nat.mod_lt _ (by decide)
    have hx : ffB (f % 2) i j t + (i / 2 ^ (4 * (7 - t)) % 16) * 2 ^ (4 + 2) + (j / 2 ^ (4 * (7 - t)) % 16) * 2 ^ 2 < 1024 := by omega
    refine Ex.assign (d := .int (v : Int)) (Ev.toN (Ev.tab LP_all hx (by walk_at "EV") (by walk_at "EV") (by walk_at "EV") (fun _ _ => ⟨_, rfl⟩) (fun _ _ => ⟨_, rfl⟩)) ?_) ?_
    · rw [hv2]
      generalize i / 2 ^ (4 * (7 - t)) % 16 = x at *
      generalize j / 2 ^ (4 * (7 - t)) % 16 = y at *
      generalize ffB (f % 2) i j t = z at *
      rw [show (z + x * 2 ^ (4 + 2) + y * 2 ^ 2) % 4 = z by omega, show (z + x * 2 ^ (4 + 2) + y * 2 ^ 2) / 64 = x by omega, show (z + x * 2 ^ (4 + 2) + y * 2 ^ 2) / 4 % 16 = y by omega]
    have hv4 : v / 2 ^ 2 ≤ 1024 := by omega
    refine Ex.aug (d := .int ((ffN f (f % 2) i j (t + 1) : Nat) : Int)) rfl (by walk_at "EV") (B2.to I2.orN ?_) ?_
    · rw [← hn, Nat.mul_assoc]
    refine Ex.aug (d := .int ((ffB (f % 2) i j (t + 1) : Nat) : Int)) rfl (by walk_at "EV") (B2.to I2.andN ?_) ?_
    · rw [← hb, show (1 ||| 2 : Nat) = 2 ^ 2 - 1 from rfl, Nat.and_two_pow_sub_one_eq_mod]
    exact Ex.nil ⟨_, Cx.sub_of (all_cons rfl (all_cons rfl (all_cons rfl (all_cons rfl (all_cons rfl all_nil))))), ht, rfl⟩
  · rintro Γ1 ⟨_, rfl⟩
    have hlen : (rngL ((7 : Nat) : Int) (-((1 : Nat) : Int)) (-((1 : Nat) : Int))).length = 8 := by rw [down8]; rfl
    rw [hlen]
    have hN : ffN f (f % 2) i j 8 = f * 4 ^ 30 + (hil 30 (f % 2) i j).1 := by
      unfold ffN
      show f * 2 ^ 60 + (hil 32 (f % 2) (i / 1) (j / 1)).1 * 1 = _
      rw [Nat.div_one, Nat.div_one, hil_zeros ho hi hj, Nat.mul_one, four_pow]
    have hP := (hil_lt 30 (o := f % 2) i j (by omega)).1
    rw [hN]
    clear hN
    generalize (hil 30 (f % 2) i j).1 = P at *
    have hok := cid_ok (m := 0) (p := f * 4 ^ 30 + P) (by omega) (by
      show _ < 6 * 4 ^ 30
      omega)
    have e : cid 0 (f * 4 ^ 30 + P) = (f * 4 ^ 30 + P) * 2 + 1 := by
      unfold cid
      rw [Nat.pow_zero, Nat.mul_one, Nat.mul_comm]
    rw [e] at hok ⊢
    have hs : f * 4 ^ 30 + P < 2 ^ 100 := by omega
    exact Ex.ret (by walk_at "EV") (retP.mk rfl)
theorem e_ffij {n : Nat} {env : Env} {Γ : Cx} {o : Expr} {ap pos : Pos} {args : List Expr} {f i j : Nat} (h0 : f < 6) (h1 : i < 2 ^ 30) (h2 : j < 2 ^ 30) (hk : 6 ≤ n) (ho : Ev (GG w mg mb) n env Γ o (.val (.ref 444))) (ha : Al (GG w mg mb) n env Γ pos args [.int (f : Int), .int (i : Int), .int (j : Int)]) {pl : Sem Bool} (hplain : (backTo pos (starEach args env)).any (·.1) = false)
    (he : eval (.Call (.Attribute o "from_face_ij" ap) args [] pos) env = (do
      let ov ← eval o env
      standAt ap.atName
      let (f, first) ← holding [ov] (getMethod ov "from_face_ij" pl)
      callWith pos f first (backTo pos (starEach args env)) (backToKw pos (keywordEach [] env)))) : Ev (GG w mg mb) n env Γ (.Call (.Attribute o "from_face_ij" ap) args [] pos) (.cell (cid 0 (f * 4 ^ 30 + (hil 30 (f % 2) i j).1) : Nat)) :=
  Ev.cmeth co (mK_ffij _) ho (f_ffij h0 h1 h2) hk ha hplain he
theorem ei_ffij {n : Nat} {env : Env} {Γ : Cx} {o : Expr} {ap pos : Pos} {args : List Expr} {i : Int} {f i j : Nat} (h0 : f < 6) (h1 : i < 2 ^ 30) (h2 : j < 2 ^ 30) (hk : 6 ≤ n) (ho : Ev (GG w mg mb) n env Γ o (.cell i)) (ha : Al (GG w mg mb) n env Γ pos args [.int (f : Int), .int (i : Int), .int (j : Int)]) {pl : Sem Bool} (hplain : (backTo pos (starEach args env)).any (·.1) = false)
    (he : eval (.Call (.Attribute o "from_face_ij" ap) args [] pos) env = (do
      let ov ← eval o env
      standAt ap.atName
      let (f, first) ← holding [ov] (getMethod ov "from_face_ij" pl)
      callWith pos f first (backTo pos (starEach args env)) (backToKw pos (keywordEach [] env)))) : Ev (GG w mg mb) n env Γ (.Call (.Attribute o "from_face_ij" ap) args [] pos) (.cell (cid 0 (f * 4 ^ 30 + (hil 30 (f % 2) i j).1) : Nat)) :=
  Ev.imeth co (mK_ffij _) (.cell _) (by decide) (by decide +kernel) ho (f_ffij h0 h1 h2) hk ha hplain he
local macro_rules | `(tactic| walk_at "OWN") => `(tactic| (with_reducible refine' ei_ffij ?h0 ?h1 ?h2 ?k ?a ?b (hplain := ?c) (he := ?d)); (case a => walk_at "EV"); (case b => walk_at "AL"); (case c => rfl); (case d => rfl); (case k => decide); (case h0 => walk_at "SIDE"); (case h1 => walk_at "SIDE"); (case h2 => walk_at "SIDE"); skip)
local macro_rules | `(tactic| walk_at "OWN") => `(tactic| (with_reducible refine' e_ffij ?h0 ?h1 ?h2 ?k ?a ?b (hplain := ?c) (he := ?d)); (case a => walk_at "EV"); (case b => walk_at "AL"); (case c => rfl); (case d => rfl); (case k => decide); (case h0 => walk_at "SIDE"); (case h1 => walk_at "SIDE"); (case h2 => walk_at "SIDE"); skip)
theorem mK_tf (P : Params) : MethOk (KK P) 444 "to_face_ij_orientation" 396 := by constructor <;> kernel_rfl
theorem f_tf {m p : Nat} (h : m ≤ 30) (hp : p < 6 * 4 ^ (30 - m)) : FnOk (GG w mg mb) 5 (.ref 396) [.cell (cid m p)] (.tup [.int (tfF m p : Int), .int ((tfR m p).1 : Int), .int ((tfR m p).2.1 : Int), .int (tfO m (tfR m p).2.2 : Int)]) := by
  refine FnOk.plain (ho := by rfl) (by kernel_rfl) (by intro vs h; rcases vs with _ | ⟨x0, _ | ⟨x1, vs⟩⟩ <;> first | rfl | simp at h) (by decide +kernel) (by decide +kernel) fun L => ?_
  have ho : tfF m p % 2 < 2 := Nat.mod_lt _ (by decide)
  generalize hod : tfF m p % 2 = o at ho
  have hq : tfQ m p < 4 ^ 30 := Nat.mod_lt _ (by decide)
  generalize hqd : tfQ m p = q at hq
  refine Ex.assignT (d := .tup [.int ((0 : Nat) : Int), .int ((0 : Nat) : Int)]) (by walk_at "EV") (As.tup (AsL.cons As.name (AsL.cons As.name AsL.nil))) ?_
  refine Ex.assign (d := .int (tfF m p : Int)) (Ev.toN (by walk_at "EV") (by rfl)) ?_
  refine Ex.assign (d := .int (o : Int)) (Ev.toN (by walk_at "EV") (by rw [← hod]; exact Nat.and_one_is_mod _)) ?_
  refine Ex.sub (Γ' := ⟨[("i", .int (tfX o q 0 : Int)), ("j", .int (tfY o q 0 : Int)), ("bits", .int (tfB o q 0 : Int)), ("face", .int (tfF m p : Int)), ("self", .cell (cid m p))], none⟩) ?_
    (Cx.sub_of (all_cons (by show some (D.int ((0 : Nat) : Int)) = some (D.int ((0 * 2 ^ (32 - 4 * 0) : Nat) : Int)); rw [Nat.zero_mul]) (all_cons (by show some (D.int ((0 : Nat) : Int)) = some (D.int ((0 * 2 ^ (32 - 4 * 0) : Nat) : Int)); rw [Nat.zero_mul]) (all_cons rfl (all_cons rfl (all_cons rfl all_nil))))))
  refine Ex.for (fun t Γ => t ≤ 8 ∧ Γ = ⟨[("i", .int (tfX o q t : Int)), ("j", .int (tfY o q t : Int)), ("bits", .int (tfB o q t : Int)), ("face", .int (tfF m p : Int)), ("self", .cell (cid m p))], none⟩)
    (Ev.range3 (nK_range _) (a := ((7 : Nat) : Int)) (b := -((1 : Nat) : Int)) (c := -((1 : Nat) : Int)) (by decide) (by exact PyProof.noPylong_of_log2 (by decide +kernel)) (by decide +kernel) (by walk_at "AL") (by rfl) (by rfl)) ⟨Nat.zero_le _, rfl⟩ ?_ ?_
  · rintro t d Γ1 hd ⟨_, rfl⟩
    obtain ⟨ht, rfl⟩ := down8_at hd
    obtain ⟨v, hv, hv2, hX, hY, hb⟩ := tf_step (q := q) ht (show o < 4 by omega)
    have hB : tfB o q t < 4 := (lih_lt _ _ (by omega)).2.2
    refine ⟨_, As.name, ?_⟩
    refine Ex.iteTo (c := (7 - t == 7)) (Γ' := ⟨[("nbits", .int ((if t = 0 then 2 else 4 : Nat) : Int)), ("k", .int ((7 - t : Nat) : Int)), ("i", .int (tfX o q t : Int)), ("j", .int (tfY o q t : Int)), ("bits", .int (tfB o q t : Int)), ("face", .int (tfF m p : Int)), ("self", .cell (cid m p))], none⟩) (by walk_at "TV") (fun hc => ?_) (fun hc => ?_) ?_
    · have h0 : t = 0 := by
        have : 7 - t = 7 := by simpa using hc
        omega
      rw [if_pos h0]
      exact Ex.assign (d := .int ((2 : Nat) : Int)) (Ev.toN (by walk_at "EV") (by rfl)) (Ex.nil ⟨_, rfl, by walk_at "SUB"⟩)
    · have h0 : t ≠ 0 := by
        have : 7 - t ≠ 7 := by simpa using hc
        omega
      rw [if_neg h0]
      exact Ex.assign (d := .int ((4 : Nat) : Int)) (by walk_at "EV") (Ex.nil ⟨_, rfl, by walk_at "SUB"⟩)
    have hch := chunk (x := cid m p) ht
    rw [show cid m p / 2 % 4 ^ 30 = q from hqd] at hch
    have hnb : (if t = 0 then 2 else 4 : Nat) ≤ 4 := by split <;> decide
    have hc1 : q / 4 ^ (4 * (7 - t)) % 256 < 256 := Nat.mod_lt _ (by decide)
    generalize (if t = 0 then 2 else 4 : Nat) = nb at hch hnb
    have hp1 : 1 ≤ 1 * 2 ^ (2 * nb) := by rw [Nat.one_mul]; exact Nat.pow_pos (by decide)
    refine Ex.aug (d := .int ((tfB o q t + q / 4 ^ (4 * (7 - t)) % 256 * 2 ^ 2 : Nat) : Int)) rfl (Ev.toN (Ev.bin (Ev.toN (b := q / 4 ^ (4 * (7 - t)) % 256) (by walk_at "EV") hch) (by walk_at "EV") (by walk_at "B2")) rfl) I2.addN ?_
    have hx : tfB o q t + q / 4 ^ (4 * (7 - t)) % 256 * 2 ^ 2 < 1024 := by omega
    refine Ex.assign (d := .int (v : Int)) (Ev.toN (Ev.tab LJ_all hx (by walk_at "EV") (by walk_at "EV") (by walk_at "EV") (fun _ _ => ⟨_, rfl⟩) (fun _ _ => ⟨_, rfl⟩)) ?_) ?_
    · rw [hv2]
      generalize q / 4 ^ (4 * (7 - t)) % 256 = x at *
      generalize tfB o q t = z at *
      rw [show (z + x * 2 ^ 2) % 4 = z by omega, show (z + x * 2 ^ 2) / 4 = x by omega]
    have hv4 : v / 2 ^ (4 + 2) ≤ 1024 := Nat.le_trans (Nat.div_le_self _ _) (by omega)
    refine Ex.aug (d := .int (tfX o q (t + 1) : Int)) rfl (by walk_at "EV") (B2.to I2.addN ?_) ?_
    · rw [← hX, Nat.mul_comm 4]
    have hv5 : v / 2 ^ 2 &&& 1 * 2 ^ 4 - 1 ≤ 15 := Nat.and_le_right
    refine Ex.aug (d := .int (tfY o q (t + 1) : Int)) rfl (by walk_at "EV") (B2.to I2.addN ?_) ?_
    · rw [← hY, show (1 * 2 ^ 4 - 1 : Nat) = 2 ^ 4 - 1 from rfl, Nat.and_two_pow_sub_one_eq_mod, Nat.mul_comm 4]
    refine Ex.aug (d := .int (tfB o q (t + 1) : Int)) rfl (by walk_at "EV") (B2.to I2.andN ?_) ?_
    · rw [← hb, show (1 ||| 2 : Nat) = 2 ^ 2 - 1 from rfl, Nat.and_two_pow_sub_one_eq_mod]
    exact Ex.nil ⟨_, Cx.sub_of (all_cons rfl (all_cons rfl (all_cons rfl (all_cons rfl (all_cons rfl all_nil))))), ht, rfl⟩
  · rintro Γ1 ⟨_, rfl⟩
    have hlen : (rngL ((7 : Nat) : Int) (-((1 : Nat) : Int)) (-((1 : Nat) : Int))).length = 8 := by rw [down8]; rfl
    rw [hlen]
    have hR : lih 32 o q = tfR m p := by
      rw [lih_zeros ho hq, ← hod, ← hqd]; rfl
    have e1 : tfX o q 8 = (tfR m p).1 := by
      show (lih 32 o (q / 1)).1 * 1 = _
      rw [Nat.div_one, hR, Nat.mul_one]
    have e2 : tfY o q 8 = (tfR m p).2.1 := by
      show (lih 32 o (q / 1)).2.1 * 1 = _
      rw [Nat.div_one, hR, Nat.mul_one]
    have e3 : tfB o q 8 = (tfR m p).2.2 := by
      show (lih 32 o (q / 1)).2.2 = _
      rw [Nat.div_one, hR]
    rw [e1, e2, e3]
    clear e1 e2 e3 hR
    generalize tfR m p = R at *
    obtain ⟨X, Y, B⟩ := R
    dsimp only
    refine Ex.assert (Tv.to (by walk_at "TV") (by rfl)) ?_
    refine Ex.assert (Tv.to (by walk_at "TV") (by rfl)) ?_
    have hsw := lsb_swap m (by omega)
    refine Ex.iteTo (c := decide (m ≠ 0 ∧ m % 2 = 0)) (Γ' := ⟨[("bits", .int (tfO m B : Int)), ("i", .int (X : Int)), ("j", .int (Y : Int)), ("face", .int (tfF m p : Int)), ("self", .cell (cid m p))], none⟩) (Tv.to (by walk_at "TV") hsw) (fun hc => ?_) (fun hc => ?_) ?_
    · have hc' := of_decide_eq_true hc
      unfold tfO
      rw [if_pos hc']
      exact Ex.aug rfl (by walk_at "EV") I2.xorN (Ex.nil ⟨_, rfl, by walk_at "SUB"⟩)
    · have hc' := of_decide_eq_false hc
      unfold tfO
      rw [if_neg hc']
      exact Ex.nil ⟨_, rfl, by walk_at "SUB"⟩
    refine Ex.assign (d := .int (tfO m B : Int)) (by walk_at "EV") ?_
    exact Ex.ret (by walk_at "EV") (retP.mk rfl)
theorem e_tf {n : Nat} {env : Env} {Γ : Cx} {o : Expr} {ap pos : Pos} {args : List Expr} {m p : Nat} (h0 : m ≤ 30) (h1 : p < 6 * 4 ^ (30 - m)) (hk : 5 ≤ n) (ho : Ev (GG w mg mb) n env Γ o (.cell (cid m p))) (ha : Al (GG w mg mb) n env Γ pos args []) {pl : Sem Bool} (hplain : (backTo pos (starEach args env)).any (·.1) = false)
    (he : eval (.Call (.Attribute o "to_face_ij_orientation" ap) args [] pos) env = (do
      let ov ← eval o env
      standAt ap.atName
      let (f, first) ← holding [ov] (getMethod ov "to_face_ij_orientation" pl)
      callWith pos f first (backTo pos (starEach args env)) (backToKw pos (keywordEach [] env)))) : Ev (GG w mg mb) n env Γ (.Call (.Attribute o "to_face_ij_orientation" ap) args [] pos) (.tup [.int (tfF m p : Int), .int ((tfR m p).1 : Int), .int ((tfR m p).2.1 : Int), .int (tfO m (tfR m p).2.2 : Int)]) :=
  Ev.meth co (mK_tf _) (.cell _) (by decide) ho (f_tf h0 h1) hk ha hplain he
local macro_rules | `(tactic| walk_at "OWN") => `(tactic| (with_reducible refine' e_tf ?h0 ?h1 ?k ?a ?b (hplain := ?c) (he := ?d)); (case a => walk_at "EV"); (case b => walk_at "AL"); (case c => rfl); (case d => rfl); (case k => decide); (case h0 => walk_at "SIDE"); (case h1 => walk_at "SIDE"); skip)
theorem mK_ctr (P : Params) : MethOk (KK P) 444 "get_center_si_ti" 389 := by constructor <;> kernel_rfl
theorem f_ctr {m p : Nat} (h : m ≤ 30) (hp : p < 6 * 4 ^ (30 - m)) : FnOk (GG w mg mb) 6 (.ref 389) [.cell (cid m p)] (.tup [.int (tfF m p : Int), .int (((2 * (cR m p).1 + 1) * 2 ^ m : Nat) : Int), .int (((2 * (cR m p).2.1 + 1) * 2 ^ m : Nat) : Int)]) := by
  refine FnOk.plain (ho := by rfl) (by kernel_rfl) (by intro vs h; rcases vs with _ | ⟨x0, _ | ⟨x1, vs⟩⟩ <;> first | rfl | simp at h) (by decide +kernel) (by decide +kernel) fun L => ?_
  refine Ex.assignT (by walk_at "EV") (As.tup (AsL.cons As.name (AsL.cons As.name (AsL.cons As.name (AsL.cons As.name AsL.nil))))) ?_
  obtain ⟨e1, e2, e3⟩ := tfR_eq (p := p) h
  have ho : tfF m p % 2 < 2 := Nat.mod_lt _ (by decide)
  obtain ⟨l1, l2, l3⟩ := lih_lt 30 (o := tfF m p % 2) (tfQ m p) (by omega)
  change (tfR m p).1 < _ at l1
  change (tfR m p).2.1 < _ at l2
  have d1 := fun h0 => mid_delta (m := m) (p := p) (a := (cR m p).1) (o := (cR m p).2.2) h0
  have d2 := fun h0 => mid_delta2 (m := m) (p := p) (a := (cR m p).1) (b := (cR m p).2.1) (o := (cR m p).2.2) h0
  rw [← e1] at d1
  rw [← e2, ← e1] at d2
  have z1 : m = 0 → (tfR m p).1 = (cR m p).1 ∧ (tfR m p).2.1 = (cR m p).2.1 := fun h0 => by
    subst h0
    unfold mid at e1 e2
    rw [if_pos rfl, Nat.pow_zero, Nat.mul_one, Nat.add_zero] at e1 e2
    exact ⟨e1, e2⟩
  clear e1 e2 e3
  generalize (tfR m p).1 = X at *
  generalize (tfR m p).2.1 = Y at *
  generalize (tfR m p).2.2 = B at *
  generalize (cR m p).1 = a at *
  generalize (cR m p).2.1 = b at *
  have hX : (X ^^^ cid m p / 2 ^ 2) &&& 1 ≤ 1 := Nat.and_le_right
  have fin : ∀ (δ : Nat), δ ≤ 2 → 2 * X + δ = (2 * a + 1) * 2 ^ m → 2 * Y + δ = (2 * b + 1) * 2 ^ m → X < 2 ^ 30 → Y < 2 ^ 30 → 2 * X + δ < 2 ^ 100 := fun δ h1 h2 h3 h4 h5 => by omega
  refine Ex.ite (c := (m == 0)) (by walk_at "TV") (fun hc => ?_) (fun hc => ?_)
  · have h0 : m = 0 := by simpa using hc
    obtain ⟨y1, y2⟩ := z1 h0
    refine Ex.assign (d := .int ((1 : Nat) : Int)) (by walk_at "EV") (Ex.done ?_)
    rw [← y1, ← y2, h0, Nat.pow_zero, Nat.mul_one, Nat.mul_one]
    exact Ex.ret (by walk_at "EV") (retP.mk rfl)
  · have h0 : 0 < m := by
      have : m ≠ 0 := by simpa using hc
      omega
    have q1 := d1 h0
    have q2 := d2 h0
    refine Ex.iteTo (c := ((X ^^^ cid m p / 2 ^ 2) &&& 1) != 0) (Γ' := ⟨[("delta", .int ((if (X ^^^ cid m p / 2 ^ 2) &&& 1 ≠ 0 then 2 else 0 : Nat) : Int)), ("face", .int (tfF m p : Int)), ("i", .int (X : Int)), ("j", .int (Y : Int))], none⟩) (by walk_at "TV") (fun hc => ?_) (fun hc => ?_) ?_
    · have hc' : (X ^^^ cid m p / 2 ^ 2) &&& 1 ≠ 0 := by simpa using hc
      rw [if_pos hc']
      exact Ex.assign (d := .int ((2 : Nat) : Int)) (by walk_at "EV") (Ex.nil ⟨_, rfl, by walk_at "SUB"⟩)
    · have hc' : ¬ (X ^^^ cid m p / 2 ^ 2) &&& 1 ≠ 0 := by simpa using hc
      rw [if_neg hc']
      exact Ex.assign (d := .int ((0 : Nat) : Int)) (by walk_at "EV") (Ex.nil ⟨_, rfl, by walk_at "SUB"⟩)
    have hδ : (if (X ^^^ cid m p / 2 ^ 2) &&& 1 ≠ 0 then 2 else 0 : Nat) ≤ 2 := by split <;> decide
    generalize (if (X ^^^ cid m p / 2 ^ 2) &&& 1 ≠ 0 then 2 else 0 : Nat) = δ at *
    rw [← q1, ← q2]
    exact Ex.done (Ex.ret (by walk_at "EV") (retP.mk rfl))
theorem e_ctr {n : Nat} {env : Env} {Γ : Cx} {o : Expr} {ap pos : Pos} {args : List Expr} {m p : Nat} (h0 : m ≤ 30) (h1 : p < 6 * 4 ^ (30 - m)) (hk : 6 ≤ n) (ho : Ev (GG w mg mb) n env Γ o (.cell (cid m p))) (ha : Al (GG w mg mb) n env Γ pos args []) {pl : Sem Bool} (hplain : (backTo pos (starEach args env)).any (·.1) = false)
    (he : eval (.Call (.Attribute o "get_center_si_ti" ap) args [] pos) env = (do
      let ov ← eval o env
      standAt ap.atName
      let (f, first) ← holding [ov] (getMethod ov "get_center_si_ti" pl)
      callWith pos f first (backTo pos (starEach args env)) (backToKw pos (keywordEach [] env)))) : Ev (GG w mg mb) n env Γ (.Call (.Attribute o "get_center_si_ti" ap) args [] pos) (.tup [.int (tfF m p : Int), .int (((2 * (cR m p).1 + 1) * 2 ^ m : Nat) : Int), .int (((2 * (cR m p).2.1 + 1) * 2 ^ m : Nat) : Int)]) :=
  Ev.meth co (mK_ctr _) (.cell _) (by decide) ho (f_ctr h0 h1) hk ha hplain he
local macro_rules | `(tactic| walk_at "OWN") => `(tactic| (with_reducible refine' e_ctr ?h0 ?h1 ?k ?a ?b (hplain := ?c) (he := ?d)); (case a => walk_at "EV"); (case b => walk_at "AL"); (case c => rfl); (case d => rfl); (case k => decide); (case h0 => walk_at "SIDE"); (case h1 => walk_at "SIDE"); skip)
theorem mK_fpl (P : Params) : CmOk (KK P) 444 "from_face_pos_level" 120 118 := by
  refine ⟨by kernel_rfl, by kernel_rfl, by kernel_rfl, by kernel_rfl, by kernel_rfl, ⟨_, by rfl⟩, by kernel_rfl⟩
theorem f_fpl {f r p l : Nat} (h : f * 2 ^ 61 + (r ||| 1) = cid 0 p) (hp : p < 6 * 4 ^ 30) (hl : l ≤ 30) (hf : f < 8) : FnOk (GG w mg mb) 8 (.ref 118) [.val (.ref 444), .int (f : Int), .int (r : Int), .int (l : Int)] (.cell (cid (30 - l) (p / 4 ^ (30 - l)) : Nat)) := by
  refine FnOk.plain (ho := by rfl) (by kernel_rfl) (by intro vs h; rcases vs with _ | ⟨x0, _ | ⟨x1, _ | ⟨x2, _ | ⟨x3, _ | ⟨x4, vs⟩⟩⟩⟩⟩ <;> first | rfl | simp at h) (by decide +kernel) (by decide +kernel) fun L => ?_
  have hok := cid_ok (m := 0) (p := p) (by omega) hp
  refine Ex.ret (e_parent1 (m := 0) (p := p) (l := l) (by omega) hp hl (by decide) (Ev.to (e_newV (x := f * 2 ^ 61 + (r ||| 1)) (by rw [h]; exact hok) (by decide) (by walk_at "AL") (by rfl) (by decide) (by rfl)) (by rw [h])) (by walk_at "AL") (by rfl) (by rfl)) (retP.mk rfl)
theorem e_fpl {n : Nat} {env : Env} {Γ : Cx} {o : Expr} {ap pos : Pos} {args : List Expr} {f r p l : Nat} (h0 : f * 2 ^ 61 + (r ||| 1) = cid 0 p) (h1 : p < 6 * 4 ^ 30) (h2 : l ≤ 30) (h3 : f < 8) (hk : 8 ≤ n) (ho : Ev (GG w mg mb) n env Γ o (.val (.ref 444))) (ha : Al (GG w mg mb) n env Γ pos args [.int (f : Int), .int (r : Int), .int (l : Int)]) {pl : Sem Bool} (hplain : (backTo pos (starEach args env)).any (·.1) = false)
    (he : eval (.Call (.Attribute o "from_face_pos_level" ap) args [] pos) env = (do
      let ov ← eval o env
      standAt ap.atName
      let (f, first) ← holding [ov] (getMethod ov "from_face_pos_level" pl)
      callWith pos f first (backTo pos (starEach args env)) (backToKw pos (keywordEach [] env)))) : Ev (GG w mg mb) n env Γ (.Call (.Attribute o "from_face_pos_level" ap) args [] pos) (.cell (cid (30 - l) (p / 4 ^ (30 - l)) : Nat)) :=
  Ev.cmeth co (mK_fpl _) ho (f_fpl h0 h1 h2 h3) hk ha hplain he
theorem ei_fpl {n : Nat} {env : Env} {Γ : Cx} {o : Expr} {ap pos : Pos} {args : List Expr} {i : Int} {f r p l : Nat} (h0 : f * 2 ^ 61 + (r ||| 1) = cid 0 p) (h1 : p < 6 * 4 ^ 30) (h2 : l ≤ 30) (h3 : f < 8) (hk : 8 ≤ n) (ho : Ev (GG w mg mb) n env Γ o (.cell i)) (ha : Al (GG w mg mb) n env Γ pos args [.int (f : Int), .int (r : Int), .int (l : Int)]) {pl : Sem Bool} (hplain : (backTo pos (starEach args env)).any (·.1) = false)
    (he : eval (.Call (.Attribute o "from_face_pos_level" ap) args [] pos) env = (do
      let ov ← eval o env
      standAt ap.atName
      let (f, first) ← holding [ov] (getMethod ov "from_face_pos_level" pl)
      callWith pos f first (backTo pos (starEach args env)) (backToKw pos (keywordEach [] env)))) : Ev (GG w mg mb) n env Γ (.Call (.Attribute o "from_face_pos_level" ap) args [] pos) (.cell (cid (30 - l) (p / 4 ^ (30 - l)) : Nat)) :=
  Ev.imeth co (mK_fpl _) (.cell _) (by decide) (by decide +kernel) ho (f_fpl h0 h1 h2 h3) hk ha hplain he
local macro_rules | `(tactic| walk_at "OWN") => `(tactic| (with_reducible refine' ei_fpl ?h0 ?h1 ?h2 ?h3 ?k ?a ?b (hplain := ?c) (he := ?d)); (case a => walk_at "EV"); (case b => walk_at "AL"); (case c => rfl); (case d => rfl); (case k => decide); (case h0 => walk_at "SIDE"); (case h1 => walk_at "SIDE"); (case h2 => walk_at "SIDE"); (case h3 => walk_at "SIDE"); skip)
local macro_rules | `(tactic| walk_at "OWN") => `(tactic| (with_reducible refine' e_fpl ?h0 ?h1 ?h2 ?h3 ?k ?a ?b (hplain := ?c) (he := ?d)); (case a => walk_at "EV"); (case b => walk_at "AL"); (case c => rfl); (case d => rfl); (case k => decide); (case h0 => walk_at "SIDE"); (case h1 => walk_at "SIDE"); (case h2 => walk_at "SIDE"); (case h3 => walk_at "SIDE"); skip)
theorem e_lenL {n : Nat} {env : Env} {Γ : Cx} {px pos : Pos} {args : List Expr} {ds : List D} (ha : Al (GG w mg mb) n env Γ pos args [.lst ds]) (h : ds.length < 2 ^ 63) (hx : env.kindOf "len" = some .globalImplicit) (hplain : (backTo pos (starEach args env)).any (·.1) = false) :
    Ev (GG w mg mb) n env Γ (.Call (.Name "len" px) args [] pos) (.int ((ds.length : Nat) : Int)) := Ev.callB (nK_len _) (by rfl) (.builtin _) (.lenLst h) ha hx (by decide) (by decide) hplain
local macro_rules | `(tactic| walk_at "OWN") => `(tactic| (with_reducible refine' e_lenL ?a ?h ?x ?c); (case a => walk_at "AL"); (case h => walk_at "SIDE"); (case x => rfl); (case c => rfl))
/-- the number that the script says, or one of the law's own -/
def lnum (l : List Int) (a : Nat) : Int := if h : a < l.length then l[a] else 40503 * a * a + 9973 * l.length + 5
theorem f_num {l : List Int} {a : Nat} (ha : a < 100) (hl : l.length ≤ 63) : FnOk (GG w mg mb) 3 (.ref 455) [.lst (l.map Mine.D.int), .int (a : Int)] (.int (lnum l a)) := by
  refine FnOk.plain (ho := by rfl) (by kernel_rfl) (by intro vs h; rcases vs with _ | ⟨x0, _ | ⟨x1, _ | ⟨x2, vs⟩⟩⟩ <;> first | rfl | simp at h) (by decide +kernel) (by decide +kernel) fun L => ?_
  have hl' : (l.map Mine.D.int).length < 2 ^ 63 := by rw [List.length_map]; omega
  have hb : a * a < 10000 := by
    have : a * a ≤ 99 * 99 := Nat.mul_le_mul (by omega) (by omega)
    omega
  have hb2 : 40503 * a * a < 2 ^ 100 := by rw [Nat.mul_assoc]; omega
  have hb3 : (l.map Mine.D.int).length ≤ 63 := by rw [List.length_map]; exact hl
  refine Ex.ret (Ev.ifexp (c := decide (a < (l.map Mine.D.int).length)) (by walk_at "TV") (fun h => ?_) (fun h => ?_)) (retP.mk rfl)
  · have h' : a < l.length := by
      have := of_decide_eq_true h
      rw [List.length_map] at this
      exact this
    refine Ev.item (by walk_at "EV") (by walk_at "EV") (It.lst (by omega) (by omega) ?_) (fun _ _ => ⟨_, rfl⟩)
    unfold lnum
    rw [dif_pos h', Int.toNat_natCast, List.getElem?_map, List.getElem?_eq_getElem h']; rfl
  · have h' : ¬ a < l.length := by
      have := of_decide_eq_false h
      rw [List.length_map] at this
      exact this
    refine Ev.to (by walk_at "EV") ?_
    unfold lnum
    rw [dif_neg h', List.length_map]
    simp only [Int.natCast_add, Int.natCast_mul]
    rfl
theorem gK_num (P : Params) : nsIn (KK P) mainGlobals "_law_number" = some (some (.ref 455)) := by kernel_rfl
theorem kK_num (P : Params) : keepIn (KK P) (.ref 455) = true := by kernel_rfl
theorem e_num {n : Nat} {env : Env} {Γ : Cx} {px pos : Pos} {args : List Expr} {l : List Int} {a : Nat} (h0 : a < 100) (h1 : l.length ≤ 63) (hk : 3 ≤ n) (ha : Al (GG w mg mb) n env Γ pos args [.lst (l.map Mine.D.int), .int (a : Int)]) (hx : env.kindOf "_law_number" = some .globalImplicit) (hplain : (backTo pos (starEach args env)).any (·.1) = false) : Ev (GG w mg mb) n env Γ (.Call (.Name "_law_number" px) args [] pos) (.int (lnum l a)) :=
  Ev.callG (gK_num _) (kK_num _) (f_num h0 h1) hk ha hx (by decide) hplain
local macro_rules | `(tactic| walk_at "OWN") => `(tactic| (with_reducible refine' e_num ?h0 ?h1 ?k ?b ?x ?c); (case x => rfl); (case b => walk_at "AL"); (case c => rfl); (case k => decide); (case h0 => walk_at "SIDE"); (case h1 => walk_at "SIDE"); skip)
def pick (x : Int) (s : Nat) : Nat := if x % 5 = 0 then 0 else if x % 5 = 1 then s - 1 else if x % 5 = 2 then s / 2 else (x / 5 % s).toNat
theorem pick_lt {x : Int} {s : Nat} (hs : 0 < s) : pick x s < s := by
  unfold pick
  split
  · exact hs
  · split
    · omega
    · split
      · omega
      · have := Int.emod_lt_of_pos (x / 5) (show (0 : Int) < s by omega)
        have := Int.emod_nonneg (x / 5) (show (s : Int) ≠ 0 by omega)
        omega
theorem f_pick {x : Int} {s : Nat} (hs : 0 < s) (hs2 : s < 2 ^ 100) : FnOk (GG w mg mb) 3 (.ref 462) [.int x, .int (s : Int)] (.int (pick x s : Int)) := by
  refine FnOk.plain (ho := by rfl) (by kernel_rfl) (by intro vs h; rcases vs with _ | ⟨x0, _ | ⟨x1, _ | ⟨x2, vs⟩⟩⟩ <;> first | rfl | simp at h) (by decide +kernel) (by decide +kernel) fun L => ?_
  have hm : x.fmod ((5 : Nat) : Int) = x % 5 := Int.fmod_eq_emod_of_nonneg _ (by decide)
  refine Ex.assign (d := .int (x % 5)) (Ev.to (Ev.bin (by walk_at "EV") (by walk_at "EV") (B2.mod (by decide))) (congrArg Mine.D.int hm)) ?_
  refine Ex.ite (c := (x % 5 == ((0 : Nat) : Int))) (by walk_at "TV") (fun h => ?_) (fun h => ?_)
  · have : x % 5 = 0 := by simpa using h
    refine Ex.ret (Ev.toN (by walk_at "EV") ?_) (retP.mk rfl)
    unfold pick; rw [if_pos this]
  have h0 : x % 5 ≠ 0 := by simpa using h
  refine Ex.done ?_
  refine Ex.ite (c := (x % 5 == ((1 : Nat) : Int))) (by walk_at "TV") (fun h => ?_) (fun h => ?_)
  · have : x % 5 = 1 := by simpa using h
    refine Ex.ret (Ev.toN (by walk_at "EV") ?_) (retP.mk rfl)
    unfold pick; rw [if_neg h0, if_pos this]
  have h1 : x % 5 ≠ 1 := by simpa using h
  refine Ex.done ?_
  refine Ex.ret (Ev.ifexp (c := (x % 5 == ((2 : Nat) : Int))) (by walk_at "TV") (fun h => ?_) (fun h => ?_)) (retP.mk rfl)
  · have : x % 5 = 2 := by simpa using h
    refine Ev.toN (by walk_at "EV") ?_
    unfold pick; rw [if_neg h0, if_neg h1, if_pos this]
  · have h2 : x % 5 ≠ 2 := by simpa using h
    refine Ev.to (Ev.bin (Ev.bin (by walk_at "EV") (by walk_at "EV") (B2.div (by decide) (by decide +kernel))) (by walk_at "EV") (B2.mod (by omega))) ?_
    unfold pick
    rw [if_neg h0, if_neg h1, if_neg h2]
    have := Int.emod_nonneg (x / 5) (show (s : Int) ≠ 0 by omega)
    rw [Int.fmod_eq_emod_of_nonneg _ (by omega), Int.fdiv_eq_ediv_of_nonneg _ (by decide), Int.toNat_of_nonneg this]
    rfl
theorem gK_pick (P : Params) : nsIn (KK P) mainGlobals "_law_pick" = some (some (.ref 462)) := by kernel_rfl
theorem kK_pick (P : Params) : keepIn (KK P) (.ref 462) = true := by kernel_rfl
theorem e_pick {n : Nat} {env : Env} {Γ : Cx} {px pos : Pos} {args : List Expr} {x : Int} {s : Nat} (h0 : 0 < s) (h1 : s < 2 ^ 100) (hk : 3 ≤ n) (ha : Al (GG w mg mb) n env Γ pos args [.int x, .int (s : Int)]) (hx : env.kindOf "_law_pick" = some .globalImplicit) (hplain : (backTo pos (starEach args env)).any (·.1) = false) : Ev (GG w mg mb) n env Γ (.Call (.Name "_law_pick" px) args [] pos) (.int (pick x s : Int)) :=
  Ev.callG (gK_pick _) (kK_pick _) (f_pick h0 h1) hk ha hx (by decide) hplain
local macro_rules | `(tactic| walk_at "OWN") => `(tactic| (with_reducible refine' e_pick ?h0 ?h1 ?k ?b ?x ?c); (case x => rfl); (case b => walk_at "AL"); (case c => rfl); (case k => decide); (case h0 => walk_at "SIDE"); (case h1 => walk_at "SIDE"); skip)
def lpP (o I J n t : Nat) : Nat := (hil t o (I / 2 ^ (n - t)) (J / 2 ^ (n - t))).1
def lpS (o I J n t : Nat) : Nat × Nat := can (n - t) (hil t o (I / 2 ^ (n - t)) (J / 2 ^ (n - t))).2 (I % 2 ^ (n - t)) (J % 2 ^ (n - t))
theorem lp_step {o I J n t : Nat} (ho : o < 4) (ht : t < n) : (lpS o I J n t).1 < 2 ^ (n - t) ∧ (lpS o I J n t).2 < 2 ^ (n - t) ∧
    lpP o I J n (t + 1) = 4 * lpP o I J n t + (3 * ((lpS o I J n t).1 / 2 ^ (n - 1 - t)) ^^^ (lpS o I J n t).2 / 2 ^ (n - 1 - t)) ∧ lpS o I J n (t + 1) = cstep (n - 1 - t) (lpS o I J n t) := by
  have hb : (hil t o (I / 2 ^ (n - t)) (J / 2 ^ (n - t))).2 < 4 := (hil_lt _ _ _ ho).2
  obtain ⟨k, hk⟩ : ∃ k, n - t = k + 1 := ⟨n - t - 1, by omega⟩
  have hk1 : n - 1 - t = k := by omega
  have hk2 : n - (t + 1) = k := by omega
  have hI : I % 2 ^ (n - t) < 2 ^ (n - t) := Nat.mod_lt _ (Nat.pow_pos (by decide))
  have hJ : J % 2 ^ (n - t) < 2 ^ (n - t) := Nat.mod_lt _ (Nat.pow_pos (by decide))
  obtain ⟨l1, l2⟩ := can_lt (o := (hil t o (I / 2 ^ (n - t)) (J / 2 ^ (n - t))).2) hI hJ
  refine ⟨l1, l2, ?_⟩
  unfold lpP lpS
  rw [hk1, hk2]
  rw [hk] at hI hJ ⊢
  have happ := hil_app t 1 o (I / 2 ^ k) (J / 2 ^ k)
  rw [Nat.div_div_eq_div_mul, Nat.div_div_eq_div_mul, ← Nat.pow_add] at happ
  rw [hk] at hb
  obtain ⟨s1, s2⟩ := can_step hb hI hJ
  generalize hB : (hil t o (I / 2 ^ (k + 1)) (J / 2 ^ (k + 1))).2 = B at *
  have e : ∀ x : Nat, x % 2 ^ (k + 1) / 2 ^ k = x / 2 ^ k % 2 := fun x => by
    rw [Nat.pow_succ, Nat.mod_mul_right_div_self]
  have e2 : ∀ x : Nat, x % 2 ^ (k + 1) % 2 ^ k = x % 2 ^ k := fun x => by
    rw [Nat.pow_succ, Nat.mod_mul_right_mod]
  have h1 : hil 1 B (I / 2 ^ k) (J / 2 ^ k) = (dig B (I / 2 ^ k % 2) (J / 2 ^ k % 2), ori B (dig B (I / 2 ^ k % 2) (J / 2 ^ k % 2))) := by
    show (dig B (I / 2 ^ k / 2 ^ 0 % 2) (J / 2 ^ k / 2 ^ 0 % 2) * 4 ^ 0 + 0, ori B (dig B (I / 2 ^ k / 2 ^ 0 % 2) (J / 2 ^ k / 2 ^ 0 % 2))) = _
    rw [Nat.pow_zero, Nat.div_one, Nat.div_one, Nat.mul_one, Nat.add_zero]
  rw [h1] at happ
  rw [e, e, e2, e2] at s2
  rw [e, e] at s1
  rw [happ, s1, s2]
  exact ⟨by rw [Nat.mul_comm, Nat.pow_one], rfl⟩
theorem f_place {I J o n : Nat} (ho : o < 2) (hn : n ≤ 30) (hI : I < 2 ^ n) (hJ : J < 2 ^ n) : FnOk (GG w mg mb) 3 (.ref 469) [.int (I : Int), .int (J : Int), .int (o : Int), .int (n : Int)] (.int ((hil n o I J).1 : Int)) := by
  refine FnOk.plain (ho := by rfl) (by kernel_rfl) (by intro vs h; rcases vs with _ | ⟨x0, _ | ⟨x1, _ | ⟨x2, _ | ⟨x3, _ | ⟨x4, vs⟩⟩⟩⟩⟩ <;> first | rfl | simp at h) (by decide +kernel) (by decide +kernel) fun L => ?_
  have h0 : lpS o I J n 0 = can n o I J := by
    show can (n - 0) o (I % 2 ^ (n - 0)) (J % 2 ^ (n - 0)) = _
    rw [Nat.sub_zero, Nat.mod_eq_of_lt hI, Nat.mod_eq_of_lt hJ]
  refine Ex.iteTo (c := (o == 1)) (Γ' := ⟨[("i", .int ((lpS o I J n 0).1 : Int)), ("j", .int ((lpS o I J n 0).2 : Int)), ("bits", .int (n : Int))], none⟩) (by walk_at "TV") (fun hc => ?_) (fun hc => ?_) ?_
  · have : o = 1 := by simpa using hc
    subst this
    rw [h0]
    exact Ex.assign2 (x := "i") (y := "j") (by walk_at "EV") (by rfl) (Ex.nil ⟨_, rfl, by walk_at "SUB"⟩)
  · have : o = 0 := by
      have : o ≠ 1 := by simpa using hc
      omega
    subst this
    rw [h0]
    exact Ex.nil ⟨_, rfl, by walk_at "SUB"⟩
  refine Ex.assign (d := .int ((lpP o I J n 0 : Nat) : Int)) (Ev.toN (by walk_at "EV") (by rfl)) ?_
  refine Ex.sub (Γ' := ⟨[("place", .int ((lpP o I J n 0 : Nat) : Int)), ("i", .int ((lpS o I J n 0).1 : Int)), ("j", .int ((lpS o I J n 0).2 : Int)), ("bits", .int (n : Int))], none⟩) ?_ (by walk_at "SUB")
  have hrng : rngL ((n : Int) - ((1 : Nat) : Int)) (-((1 : Nat) : Int)) (-((1 : Nat) : Int)) = (List.range n).map fun i => .int ((n : Int) - 1 - (i : Nat)) := rngL_down n
  refine Ex.for (fun t Γ => t ≤ n ∧ Γ = ⟨[("place", .int ((lpP o I J n t : Nat) : Int)), ("i", .int ((lpS o I J n t).1 : Int)), ("j", .int ((lpS o I J n t).2 : Int)), ("bits", .int (n : Int))], none⟩)
    (Ev.range3 (nK_range _) (a := (n : Int) - ((1 : Nat) : Int)) (b := -((1 : Nat) : Int)) (c := -((1 : Nat) : Int)) (by decide) (by exact PyProof.noPylong_of_log2 (by decide +kernel)) (small_down n (by omega)) (Al.cons (Ev.bin (by walk_at "EV") (by walk_at "EV") B2.sub) (by walk_at "AL") (by rfl)) (by rfl) (by rfl)) ⟨Nat.zero_le _, rfl⟩ ?_ ?_
  · rintro t d Γ1 hd ⟨_, rfl⟩
    rw [hrng, List.getElem?_map] at hd
    obtain ⟨t', h1, h2⟩ := Option.map_eq_some_iff.mp hd
    obtain ⟨h3, h4⟩ := List.getElem?_eq_some_iff.mp h1
    rw [List.getElem_range] at h4
    rw [List.length_range] at h3
    subst h4
    have hdv : d = .int ((n - 1 - t : Nat) : Int) := by rw [← h2]; congr 1; omega
    subst hdv
    obtain ⟨l1, l2, s1, s2⟩ := lp_step (I := I) (J := J) (o := o) (n := n) (t := t) (by omega) h3
    have hP : lpP o I J n t < 4 ^ 30 := by
      have := (hil_lt t (o := o) (I / 2 ^ (n - t)) (J / 2 ^ (n - t)) (by omega)).1
      exact Nat.lt_of_lt_of_le this (Nat.pow_le_pow_right (by decide) (by omega))
    rw [s1, s2]
    generalize lpP o I J n t = P0 at *
    generalize lpS o I J n t = S0 at *
    obtain ⟨i, j⟩ := S0
    dsimp only at l1 l2 ⊢
    obtain ⟨k, hk⟩ : ∃ k, n - t = k + 1 := ⟨n - t - 1, by omega⟩
    rw [show n - 1 - t = k by omega]
    rw [hk, Nat.pow_succ] at l1 l2
    have hy : 0 < 2 ^ k := Nat.pow_pos (by decide)
    have hy2 : 2 ^ k ≤ 2 ^ 30 := Nat.pow_le_pow_right (by decide) (by omega)
    have r1 : i / 2 ^ k < 2 := (Nat.div_lt_iff_lt_mul hy).mpr (by omega)
    have r2 : j / 2 ^ k < 2 := (Nat.div_lt_iff_lt_mul hy).mpr (by omega)
    have f1 := Nat.div_add_mod i (2 ^ k)
    have f2 := Nat.div_add_mod j (2 ^ k)
    have g1 : i % 2 ^ k < 2 ^ k := Nat.mod_lt _ hy
    have g2 : j % 2 ^ k < 2 ^ k := Nat.mod_lt _ hy
    unfold cstep
    dsimp only
    refine ⟨_, As.name, ?_⟩
    refine Ex.assign (d := .int ((2 ^ k : Nat) : Int)) (Ev.toN (by walk_at "EV") (Nat.one_mul _)) ?_
    refine Ex.assign2 (x := "right") (y := "up") (by walk_at "EV") (by rfl) ?_
    refine Ex.assign (d := .int ((4 * P0 + (3 * (i / 2 ^ k) ^^^ j / 2 ^ k) : Nat) : Int)) (by walk_at "EV") ?_
    have x1 : i / 2 ^ k * 2 ^ k ≤ i := Nat.div_mul_le_self _ _
    have x2 : j / 2 ^ k * 2 ^ k ≤ j := Nat.div_mul_le_self _ _
    have y1 : i - i / 2 ^ k * 2 ^ k = i % 2 ^ k := by rw [Nat.mul_comm]; omega
    have y2 : j - j / 2 ^ k * 2 ^ k = j % 2 ^ k := by rw [Nat.mul_comm]; omega
    refine Ex.assign2 (x := "i") (y := "j") (d1 := .int ((i % 2 ^ k : Nat) : Int)) (d2 := .int ((j % 2 ^ k : Nat) : Int)) (Ev.to (by walk_at "EV") (by rw [y1, y2])) (by rfl) ?_
    refine Ex.iteTo (c := (j / 2 ^ k == 0)) (Γ' := ⟨[("place", .int ((4 * P0 + (3 * (i / 2 ^ k) ^^^ j / 2 ^ k) : Nat) : Int)), ("i", .int (((if j / 2 ^ k = 0 then (if i / 2 ^ k = 1 then (2 ^ k - 1 - j % 2 ^ k, 2 ^ k - 1 - i % 2 ^ k) else (j % 2 ^ k, i % 2 ^ k)) else (i % 2 ^ k, j % 2 ^ k)) : Nat × Nat).1 : Int)), ("j", .int (((if j / 2 ^ k = 0 then (if i / 2 ^ k = 1 then (2 ^ k - 1 - j % 2 ^ k, 2 ^ k - 1 - i % 2 ^ k) else (j % 2 ^ k, i % 2 ^ k)) else (i % 2 ^ k, j % 2 ^ k)) : Nat × Nat).2 : Int)), ("bits", .int (n : Int))], none⟩) (by walk_at "TV") (fun hc => ?_) (fun hc => ?_) ?_
    · have hc' : j / 2 ^ k = 0 := by simpa using hc
      rw [if_pos hc']
      refine Ex.ite (c := (i / 2 ^ k == 1)) (by walk_at "TV") (fun hd => ?_) (fun hd => ?_)
      · have hd' : i / 2 ^ k = 1 := by simpa using hd
        rw [if_pos hd']
        refine Ex.assign2 (x := "i") (y := "j") (by walk_at "EV") (by rfl) (Ex.done ?_)
        exact Ex.assign2 (x := "i") (y := "j") (by walk_at "EV") (by rfl) (Ex.nil ⟨_, rfl, by walk_at "SUB"⟩)
      · have hd' : ¬ i / 2 ^ k = 1 := by simpa using hd
        rw [if_neg hd']
        exact Ex.done (Ex.assign2 (x := "i") (y := "j") (by walk_at "EV") (by rfl) (Ex.nil ⟨_, rfl, by walk_at "SUB"⟩))
    · have hc' : ¬ j / 2 ^ k = 0 := by simpa using hc
      rw [if_neg hc']
      exact Ex.nil ⟨_, rfl, by walk_at "SUB"⟩
    exact Ex.nil ⟨_, .refl _, h3, rfl⟩
  · rintro Γ1 ⟨_, rfl⟩
    rw [hrng, List.length_map, List.length_range]
    refine Ex.ret (Ev.toN (by walk_at "EV") ?_) (retP.mk rfl)
    unfold lpP
    rw [Nat.sub_self, Nat.pow_zero, Nat.div_one, Nat.div_one]
theorem gK_place (P : Params) : nsIn (KK P) mainGlobals "_law_place" = some (some (.ref 469)) := by kernel_rfl
theorem kK_place (P : Params) : keepIn (KK P) (.ref 469) = true := by kernel_rfl
theorem e_place {n : Nat} {env : Env} {Γ : Cx} {px pos : Pos} {args : List Expr} {I J o b : Nat} (h0 : o < 2) (h1 : b ≤ 30) (h2 : I < 2 ^ b) (h3 : J < 2 ^ b) (hk : 3 ≤ n) (ha : Al (GG w mg mb) n env Γ pos args [.int (I : Int), .int (J : Int), .int (o : Int), .int (b : Int)]) (hx : env.kindOf "_law_place" = some .globalImplicit) (hplain : (backTo pos (starEach args env)).any (·.1) = false) : Ev (GG w mg mb) n env Γ (.Call (.Name "_law_place" px) args [] pos) (.int ((hil b o I J).1 : Int)) :=
  Ev.callG (gK_place _) (kK_place _) (f_place h0 h1 h2 h3) hk ha hx (by decide) hplain
local macro_rules | `(tactic| walk_at "OWN") => `(tactic| (with_reducible refine' e_place ?h0 ?h1 ?h2 ?h3 ?k ?b ?x ?c); (case x => rfl); (case b => walk_at "AL"); (case c => rfl); (case k => decide); (case h0 => walk_at "SIDE"); (case h1 => walk_at "SIDE"); (case h2 => walk_at "SIDE"); (case h3 => walk_at "SIDE"); skip)
theorem f_lid {f I J l : Nat} (hf : f < 6) (hl : l ≤ 30) (hI : I < 2 ^ l) (hJ : J < 2 ^ l) : FnOk (GG w mg mb) 4 (.ref 476) [.int (f : Int), .int (I : Int), .int (J : Int), .int (l : Int)] (.int (cid (30 - l) (lpos f l I J) : Int)) := by
  refine FnOk.plain (ho := by rfl) (by kernel_rfl) (by intro vs h; rcases vs with _ | ⟨x0, _ | ⟨x1, _ | ⟨x2, _ | ⟨x3, _ | ⟨x4, vs⟩⟩⟩⟩⟩ <;> first | rfl | simp at h) (by decide +kernel) (by decide +kernel) fun L => ?_
  have ho : f % 2 < 2 := Nat.mod_lt _ (by decide)
  have hb := lpos_lt (l := l) (I := I) (J := J) hf
  have hlt := pow4_lt (m := l) (by omega)
  have hc : (2 * (f * 2 ^ (2 * l) + (hil l (f % 2) I J).1) + 1) * 2 ^ (60 - 2 * l) = cid (30 - l) (lpos f l I J) := by
    unfold cid lpos
    rw [four_pow, four_pow, show 2 * (30 - l) = 60 - 2 * l by omega]
  rw [← hc]
  unfold lpos at hb
  rw [four_pow] at hb hlt
  have hpl := fun (env : Env) (Γ : Cx) (px pos : Pos) (args : List Expr) => e_place (w := w) (mg := mg) (mb := mb) (n := 3) (env := env) (Γ := Γ) (px := px) (pos := pos) (args := args) ho hl hI hJ (by decide)
  generalize (hil l (f % 2) I J).1 = P at *
  have q1 : f * 2 ^ (2 * l) + P < 2 ^ 200 := by omega
  have q2 : 2 * (f * 2 ^ (2 * l) + P) + 1 < 2 ^ 200 := by omega
  refine Ex.ret (Ev.bin (Ev.bin (Ev.bin (by walk_at "EV") (Ev.bin (by walk_at "EV") (hpl _ _ _ _ _ (by walk_at "AL") (by rfl) (by rfl)) B2.addN) (B2.mulN ⟨by decide, q1⟩)) (by walk_at "EV") B2.addN) (by walk_at "EV") (B2.shlN ⟨q2, by omega⟩)) (retP.mk rfl)
theorem gK_lid (P : Params) : nsIn (KK P) mainGlobals "_law_id" = some (some (.ref 476)) := by kernel_rfl
theorem kK_lid (P : Params) : keepIn (KK P) (.ref 476) = true := by kernel_rfl
theorem e_lid {n : Nat} {env : Env} {Γ : Cx} {px pos : Pos} {args : List Expr} {f I J l : Nat} (h0 : f < 6) (h1 : l ≤ 30) (h2 : I < 2 ^ l) (h3 : J < 2 ^ l) (hk : 4 ≤ n) (ha : Al (GG w mg mb) n env Γ pos args [.int (f : Int), .int (I : Int), .int (J : Int), .int (l : Int)]) (hx : env.kindOf "_law_id" = some .globalImplicit) (hplain : (backTo pos (starEach args env)).any (·.1) = false) : Ev (GG w mg mb) n env Γ (.Call (.Name "_law_id" px) args [] pos) (.int (cid (30 - l) (lpos f l I J) : Int)) :=
  Ev.callG (gK_lid _) (kK_lid _) (f_lid h0 h1 h2 h3) hk ha hx (by decide) hplain
local macro_rules | `(tactic| walk_at "OWN") => `(tactic| (with_reducible refine' e_lid ?h0 ?h1 ?h2 ?h3 ?k ?b ?x ?c); (case x => rfl); (case b => walk_at "AL"); (case c => rfl); (case k => decide); (case h0 => walk_at "SIDE"); (case h1 => walk_at "SIDE"); (case h2 => walk_at "SIDE"); (case h3 => walk_at "SIDE"); skip)
theorem nK_tuple (P : Params) : nsIn (KK P) mainGlobals "tuple" = some none := by kernel_rfl
theorem e_tuple {n : Nat} {env : Env} {Γ : Cx} {px pos : Pos} {args : List Expr} {ds : List D} (ha : Al (GG w mg mb) n env Γ pos args [.tup ds]) (hx : env.kindOf "tuple" = some .globalImplicit) (hplain : (backTo pos (starEach args env)).any (·.1) = false) :
    Ev (GG w mg mb) n env Γ (.Call (.Name "tuple" px) args [] pos) (.tup ds) := Ev.callB (nK_tuple _) (by rfl) (.type _) .tupTup ha hx (by decide) (by decide) hplain
local macro_rules | `(tactic| walk_at "OWN") => `(tactic| (with_reducible refine' e_tuple ?a ?x ?c); (case a => walk_at "AL"); (case x => rfl); (case c => rfl))
theorem gr_C : ∃ v, nsIn (GG w mg mb).K mainGlobals "CellId" = some (some v) ∧ ∀ S, Gd (GG w mg mb) S → Rd (GG w mg mb) S (.val (.ref 444)) v := ⟨_, rfl, fun _ _ => rfl⟩
theorem e_C {n : Nat} {env : Env} {Γ : Cx} {pos : Pos} (hx : env.kindOf "CellId" = some .globalImplicit) : Ev (GG w mg mb) n env Γ (.Name "CellId" pos) (.val (.ref 444)) := by
  obtain ⟨v, h, r⟩ := gr_C (w := w) (mg := mg) (mb := mb)
  exact Ev.glob h hx r (by decide)
local macro_rules | `(tactic| walk_at "OWN") => `(tactic| (with_reducible refine' e_C ?x); (case x => rfl))
theorem lv_facts {v m : Nat} (h : v ≤ 30) (hm : 30 - v = m) : 4 ^ m = 1 * 2 ^ (60 - 2 * v) ∧ 2 ^ m = 1 * 2 ^ (30 - v) ∧ (m == 0) = (v == 30) ∧ (m == 30) = (v == 0) ∧ (1 < 2 ^ 200 ∧ 60 - 2 * v ≤ 1000) ∧ (1 < 2 ^ 200 ∧ 30 - v ≤ 1000) ∧ 2 * v ≤ 60 ∧ (2 < 2 ^ 200 ∧ v < 2 ^ 200) ∧ v = 30 - m ∧ 30 - m = v ∧ m ≤ 30 := by
  refine ⟨by rw [four_pow, Nat.one_mul, show 2 * m = 60 - 2 * v by omega], by rw [Nat.one_mul, hm], ?_, ?_, by omega, by omega, by omega, by omega, by omega, by omega, by omega⟩ <;> (rw [Bool.eq_iff_iff, beq_iff_eq, beq_iff_eq]; omega)
theorem sq_facts {a v m : Nat} (h : v ≤ 30) (ha : a < 2 ^ v) (hm : 30 - v = m) : (2 < 2 ^ 200 ∧ a < 2 ^ 200) ∧ (2 * a + 1 < 2 ^ 200 ∧ 30 - v ≤ 1000) ∧ (2 * a + 1) * 2 ^ m = (2 * a + 1) * 2 ^ (30 - v) := by
  have hpv : 2 ^ v ≤ 2 ^ 30 := Nat.pow_le_pow_right (by decide) h
  refine ⟨⟨by decide, by omega⟩, ⟨by omega, by omega⟩, by rw [hm]⟩
theorem und_swap : ∀ o < 4, ∀ k < 4, o % 2 = 1 → und (o % 2) k = ((und 0 k).2, (und 0 k).1) := by decide
theorem und_keep : ∀ o < 4, ∀ k < 4, o % 2 ≠ 1 → und (o % 2) k = und 0 k := by decide
theorem und_turn : ∀ o < 4, ∀ k < 4, 2 ≤ o → und o k = (1 - (und (o % 2) k).1, 1 - (und (o % 2) k).2) := by decide
theorem und_stay : ∀ o < 4, ∀ k < 4, ¬ 2 ≤ o → und o k = und (o % 2) k := by decide
theorem und_table {G : Gx} {n k : Nat} (h : k < 4) : It G n (.tup [.tup [.int ((0 : Nat) : Int), .int ((0 : Nat) : Int)], .tup [.int ((0 : Nat) : Int), .int ((1 : Nat) : Int)], .tup [.int ((1 : Nat) : Int), .int ((1 : Nat) : Int)], .tup [.int ((1 : Nat) : Int), .int ((0 : Nat) : Int)]]) (.int (k : Int)) (.tup [.int ((und 0 k).1 : Int), .int ((und 0 k).2 : Int)]) := by
  refine It.tup (j := k) ?_ ?_ (by omega) (by omega)
  · exact seqIndex?_nn (by omega) (by show (k : Int) < (4 : Nat); omega)
  · have : k = 0 ∨ k = 1 ∨ k = 2 ∨ k = 3 := by omega
    rcases this with rfl | rfl | rfl | rfl <;> rfl
theorem dn_facts {m v : Nat} (h : v < 30) (hm : 30 - v = m) : 30 - (m - 1) = v + 1 ∧ m - 1 < 30 ∧ m - 1 + 1 = m ∧ m - 1 ≤ 30 ∧ 30 - (v + 1) = m - 1 ∧ v + 1 ≤ 30 ∧ 0 < m := by omega
theorem sq_down {a v x : Nat} (h : v ≤ 30) (ha : a < 2 ^ v) (hx : x < 2) : 2 * a + x < 2 ^ (v + 1) := by rw [Nat.pow_succ]; omega
theorem e_table {n : Nat} {env : Env} {Γ : Cx} {e : Expr} {k : Nat} {k1 k2 k3 k4 k5 k6 k7 k8 q1 q2 q3 q4 q5 : Nat} {p1 p2 p3 p4 p5 p6 p7 p8 r1 r2 r3 r4 r5 p : Pos} (hk : k < 4) (he : Ev (GG w mg mb) n env Γ e (.int (k : Int))) (hs : ∀ o i, ∃ ops, subscripted e false o i = operate ops (getItem o i)) :
    Ev (GG w mg mb) n env Γ (.Subscript (.Tuple [.Tuple [.Constant (.int 0) k1 p1, .Constant (.int 0) k2 p2] q1 r1, .Tuple [.Constant (.int 0) k3 p3, .Constant (.int 1) k4 p4] q2 r2, .Tuple [.Constant (.int 1) k5 p5, .Constant (.int 1) k6 p6] q3 r3, .Tuple [.Constant (.int 1) k7 p7, .Constant (.int 0) k8 p8] q4 r4] q5 r5) e p) (.tup [.int ((und 0 k).1 : Int), .int ((und 0 k).2 : Int)]) := by
  have ht := @und_table (GG w mg mb) n k hk
  have h2 := fun x1 x4 => @Ev.item (GG w mg mb) n env Γ (.Tuple [.Tuple [.Constant (.int 0) k1 p1, .Constant (.int 0) k2 p2] q1 r1, .Tuple [.Constant (.int 0) k3 p3, .Constant (.int 1) k4 p4] q2 r2, .Tuple [.Constant (.int 1) k5 p5, .Constant (.int 1) k6 p6] q3 r3, .Tuple [.Constant (.int 1) k7 p7, .Constant (.int 0) k8 p8] q4 r4] q5 r5) e p _ _ _ x1 he ht x4
  with_reducible refine h2 ?_ hs
  with_reducible refine' Ev.to ?zf ?zg
  case zf => walk_at "EV"
  case zg => rfl
set_option maxHeartbeats 8000000 in
theorem f_law {l : List Int} (hl : l.length ≤ 63) : FnOk (GG w mg mb) 12 (.ref 483) [.lst (l.map Mine.D.int)] (.bool true) := by
  refine FnOk.plain (ho := by rfl) (by kernel_rfl) (by intro vs h; rcases vs with _ | ⟨x0, _ | ⟨x1, vs⟩⟩ <;> first | rfl | simp at h) (by decide +kernel) (by decide +kernel) fun L => ?_
  refine Ex.for (fun t Γ => t ≤ 2 ∧ Γ = ⟨[("script", .lst (l.map Mine.D.int))], none⟩) (Ev.range1 (nK_range _) (a := ((2 : Nat) : Int)) (by decide +kernel) (by walk_at "AL") (by rfl) (by rfl)) ⟨Nat.zero_le _, rfl⟩ ?_ ?_
  · rintro t d Γ1 hd ⟨_, rfl⟩
    rw [rngL_up, List.getElem?_map] at hd
    obtain ⟨t', h1, h2⟩ := Option.map_eq_some_iff.mp hd
    obtain ⟨h3, h4⟩ := List.getElem?_eq_some_iff.mp h1
    rw [List.getElem_range] at h4
    rw [List.length_range] at h3
    subst h4
    subst h2
    refine ⟨_, As.name, ?_⟩
    refine Ex.assign2 (x := "face") (y := "level") (by walk_at "EV") (by rfl) ?_
    have hf : (lnum l (4 * t) % ((6 : Nat) : Int)).toNat < 6 := modI_lt (by decide)
    have hv : (lnum l (4 * t + 3) % ((31 : Nat) : Int)).toNat < 31 := modI_lt (by decide)
    generalize (lnum l (4 * t) % ((6 : Nat) : Int)).toNat = f at *
    generalize (lnum l (4 * t + 3) % ((31 : Nat) : Int)).toNat = v at *
    refine Ex.assign (d := .int ((pick (lnum l (4 * t + 1)) (2 ^ 30) : Nat) : Int)) (Ev.toN (by walk_at "EV") (by rfl)) ?_
    refine Ex.assign (d := .int ((pick (lnum l (4 * t + 2)) (2 ^ 30) : Nat) : Int)) (Ev.toN (by walk_at "EV") (by rfl)) ?_
    have hI : pick (lnum l (4 * t + 1)) (2 ^ 30) < 2 ^ 30 := pick_lt (by decide)
    have hJ : pick (lnum l (4 * t + 2)) (2 ^ 30) < 2 ^ 30 := pick_lt (by decide)
    generalize pick (lnum l (4 * t + 1)) (2 ^ 30) = I at *
    generalize pick (lnum l (4 * t + 2)) (2 ^ 30) = J at *
    have hP := lpos_lt (l := 30) (I := I) (J := J) hf
    have hPf : lpos f 30 I J / 4 ^ (30 - 0) = f := lpos_face
    obtain ⟨hPF, hPR⟩ := cR_lpos (f := f) (l := 30) (a := I) (b := J) (by decide) hI hJ
    refine Ex.assign2 (x := "leaf") (y := "number") (d1 := .cell (cid 0 (lpos f 30 I J) : Nat)) (d2 := .int (cid 0 (lpos f 30 I J) : Nat)) (Ev.to (by walk_at "EV") (by rfl)) (by rfl) ?_
    have hr0 := tfR_eq (m := 0) (p := lpos f 30 I J) (by decide)
    rw [hPR] at hr0
    obtain ⟨r1, r2, _⟩ := hr0
    have r1 : (tfR 0 (lpos f 30 I J)).1 = I := r1.trans (by show I * 1 + 0 = I; omega)
    have r2 : (tfR 0 (lpos f 30 I J)).2.1 = J := r2.trans (by show J * 1 + 0 = J; omega)
    have r0 : tfF 0 (lpos f 30 I J) = f := hPF
    have hv' : v ≤ 30 := by omega
    have ha : I / 2 ^ (30 - v) < 2 ^ v := (Nat.div_lt_iff_lt_mul (Nat.pow_pos (by decide))).mpr (by rw [← Nat.pow_add, show v + (30 - v) = 30 by omega]; exact hI)
    have hb : J / 2 ^ (30 - v) < 2 ^ v := (Nat.div_lt_iff_lt_mul (Nat.pow_pos (by decide))).mpr (by rw [← Nat.pow_add, show v + (30 - v) = 30 by omega]; exact hJ)
    have hup := lpos_up (f := f) (a := v) (b := 30 - v) (I := I) (J := J)
    rw [show v + (30 - v) = 30 by omega] at hup
    obtain ⟨q, hq1, hq2⟩ : ∃ q, q < 4 ^ 30 ∧ lpos f 30 I J = f * 4 ^ 30 + q := ⟨_, (hil_lt 30 (o := f % 2) I J (by omega)).1, rfl⟩
    generalize lpos f 30 I J = P0 at *
    have hP' : P0 < 6 * 4 ^ (30 - 0) := hP
    have hc0 : cid 0 P0 = f * 2 ^ 61 + (2 * q + 1) := by
      unfold cid
      rw [hq2]
      omega
    have hq3 : 2 * q + 1 < 2 ^ 61 := by omega
    have hpos : cid 0 P0 % 2 ^ 61 = 2 * q + 1 := by omega
    have hle : f * 2 ^ 61 ≤ cid 0 P0 := by omega
    have hps : cid 0 P0 % 2 ^ 61 = cid 0 P0 - f * 2 ^ 61 := by omega
    have hr : f * 2 ^ 61 + (cid 0 P0 % 2 ^ 61 ||| 1) = cid 0 P0 := by
      rw [hpos, show (2 * q + 1) ||| 1 = 2 * q + 1 from ?_]
      · omega
      · have o1 : ((2 * q + 1) ||| 1) / 2 = (2 * q + 1) / 2 ||| 1 / 2 := Nat.or_div_two
        have o2 : ((2 * q + 1) ||| 1) % 2 = 1 := Nat.or_mod_two_eq_one.mpr (.inr rfl)
        simp at o1
        omega
    clear hq2 hc0 hq3 hpos
    refine Ex.chk (by walk_at "NO") ?_
    refine Ex.chk (by walk_at "NO") ?_
    refine Ex.chk (Tv.to (Tv.cmp (Ev.to (d' := .tup [.int (tfF 0 P0 : Nat), .int ((tfR 0 P0).1 : Nat), .int ((tfR 0 P0).2.1 : Nat)]) (by walk_at "EV") (by rfl)) (by walk_at "EV") C2.ne3) (by rw [r0, r1, r2]; simp)) ?_
    refine Ex.assign2 (x := "a") (y := "b") (by walk_at "EV") (by rfl) ?_
    generalize I / 2 ^ (30 - v) = a at *
    generalize J / 2 ^ (30 - v) = b at *
    have hp := lpos_lt (l := v) (I := a) (J := b) hf
    have hpf : lpos f v a b / 4 ^ v = f := lpos_face
    obtain ⟨c0, c1⟩ := cR_lpos (f := f) (l := v) (a := a) (b := b) hv' ha hb
    have ho : (hil v (f % 2) a b).2 < 4 := (hil_lt v (o := f % 2) a b (by omega)).2
    have hdn := fun k (hk : k < 4) => lpos_down (f := f) (l := v) (a := a) (b := b) hk
    have hup' : P0 / 4 ^ (30 - v - 0) = lpos f v a b := hup
    refine Ex.assign2 (x := "cell") (y := "due") (d1 := .cell (cid (30 - v) (lpos f v a b) : Nat)) (d2 := .int (cid (30 - v) (lpos f v a b) : Nat)) (Ev.to (by walk_at "EV") (by rw [hup'])) (by rfl) ?_
    generalize lpos f v a b = p at *
    generalize (hil v (f % 2) a b).2 = o at *
    obtain ⟨m, hm⟩ : ∃ m, 30 - v = m := ⟨_, rfl⟩
    obtain ⟨hsz, hsz2, hb1, hb2, h60, h30, h602, h2v, hv2, hv3, hm30⟩ := lv_facts hv' hm
    obtain ⟨ha1, ha2, ha3⟩ := sq_facts hv' ha hm
    obtain ⟨hb3, hb4, hb5⟩ := sq_facts hv' hb hm
    have hp' : p < 6 * 4 ^ (30 - m) := by rw [hv3]; exact hp
    have hpf' : p / 4 ^ (30 - m) = f := by rw [hv3]; exact hpf
    rw [hm] at c0 c1 hup
    have hr1 := tfR_eq (m := m) (p := p) hm30
    rw [c1] at hr1
    obtain ⟨s1, s2, s3⟩ := hr1
    dsimp only at s1 s2 s3
    have hmm := mid_lt m o
    have hm2 : 0 < 2 ^ m := Nat.pow_pos (by decide)
    have t1 : (tfR m p).1 / 2 ^ m = a := by rw [s1, Nat.mul_comm, Nat.mul_add_div hm2, Nat.div_eq_of_lt hmm, Nat.add_zero]
    have t2 : (tfR m p).2.1 / 2 ^ m = b := by rw [s2, Nat.mul_comm, Nat.mul_add_div hm2, Nat.div_eq_of_lt hmm, Nat.add_zero]
    have hfp : cid (30 - v) (P0 / 4 ^ (30 - v)) = cid m p := by rw [hm, hup]
    rw [hm]
    clear hps hmm hm2 hq1 hPF hPR hd h1 hpf hp hI hJ hup' hPf hle
    refine Ex.chk (by walk_at "NO") ?_
    clear hr hP' hP
    refine Ex.chk (by walk_at "NO") ?_
    refine Ex.chk (by walk_at "NO") ?_
    refine Ex.chk (Tv.to (Tv.cmp (by walk_at "EV") (by walk_at "EV") C2.ne3) (by rw [c0, c1]; simp [ha3, hb5])) ?_
    refine Ex.assign (d := .tup [.int (f : Int), .int ((tfR m p).1 : Nat), .int ((tfR m p).2.1 : Nat), .int (o : Int)]) (Ev.to (by walk_at "EV") (by rw [c0, s3])) ?_
    refine Ex.chk (Tv.boolop (TvA.orF (by walk_at "NO") (TvA.orF (Tv.to (by walk_at "TV") (by rw [hm, t1, t2]; simp)) (TvA.orF (by walk_at "NO") TvA.or_nil)))) ?_
    refine Ex.ite (c := decide (v < 30)) (by walk_at "TV") (fun hc => ?_) (fun hc => Ex.done (Ex.nil ⟨_, by walk_at "SUB", h3, rfl⟩))
    have hlt : v < 30 := of_decide_eq_true hc
    obtain ⟨g1, g2, g3, g4, g5, g6, hm0⟩ := dn_facts hlt hm
    refine Ex.sub (Γ' := ⟨[("script", .lst (l.map Mine.D.int)), ("turn", .int (t : Int)), ("face", .int (f : Int)), ("level", .int (v : Int)), ("a", .int (a : Int)), ("b", .int (b : Int)), ("cell", .cell (cid m p : Nat)), ("due", .int (cid m p : Nat)), ("told", .tup [.int (f : Int), .int ((tfR m p).1 : Nat), .int ((tfR m p).2.1 : Nat), .int (o : Int)])], none⟩) ?_ (by walk_at "SUB")
    refine Ex.for (fun k Γ => k ≤ 4 ∧ Γ = ⟨[("script", .lst (l.map Mine.D.int)), ("turn", .int (t : Int)), ("face", .int (f : Int)), ("level", .int (v : Int)), ("a", .int (a : Int)), ("b", .int (b : Int)), ("cell", .cell (cid m p : Nat)), ("due", .int (cid m p : Nat)), ("told", .tup [.int (f : Int), .int ((tfR m p).1 : Nat), .int ((tfR m p).2.1 : Nat), .int (o : Int)])], none⟩) (Ev.range1 (nK_range _) (a := ((4 : Nat) : Int)) (by decide +kernel) (by walk_at "AL") (by rfl) (by rfl)) ⟨Nat.zero_le _, rfl⟩ ?_ ?_
    · rintro k d Γ1 hd ⟨_, rfl⟩
      rw [rngL_up, List.getElem?_map] at hd
      obtain ⟨k', h1, h2⟩ := Option.map_eq_some_iff.mp hd
      obtain ⟨h3, h4⟩ := List.getElem?_eq_some_iff.mp h1
      rw [List.getElem_range] at h4
      rw [List.length_range] at h3
      subst h4
      subst h2
      refine ⟨_, As.name, ?_⟩
      have hk := h3
      obtain ⟨u1, u2⟩ := und_lt 0 k
      obtain ⟨w1, w2⟩ := und_lt (o % 2) k
      obtain ⟨y1, y2⟩ := und_lt o k
      have hd := hdn k hk
      have q1 := sq_down (v := v) hv' ha y1
      have q2 := sq_down (v := v) hv' hb y2
      have hcl : 4 * p + k < 6 * 4 ^ (30 - (m - 1)) := by rw [g1, Nat.pow_succ]; rw [hv3] at hp'; omega
      with_reducible refine' Ex.assignT (e_table hk ?ze ?zs) ?zt ?zn (hs := ?zh) (hw := ?zw) (ha := ?za)
      case ze => walk_at "EV"
      case zs => intro _ _; exact ⟨_, rfl⟩
      case zh => rfl
      case zw => rfl
      case za => rfl
      case zt => walk_at "AS"
      refine Ex.iteTo (c := (o % 2 == 1)) (Γ' := ⟨[("x", .int ((und (o % 2) k).1 : Int)), ("y", .int ((und (o % 2) k).2 : Int)), ("place", .int (k : Int)), ("script", .lst (l.map Mine.D.int)), ("turn", .int (t : Int)), ("face", .int (f : Int)), ("level", .int (v : Int)), ("a", .int (a : Int)), ("b", .int (b : Int)), ("cell", .cell (cid m p : Nat)), ("due", .int (cid m p : Nat)), ("told", .tup [.int (f : Int), .int ((tfR m p).1 : Nat), .int ((tfR m p).2.1 : Nat), .int (o : Int)])], none⟩) (by walk_at "TV") (fun hc => ?_) (fun hc => ?_) ?_
      · rw [und_swap o ho k hk (by simpa using hc)]
        exact Ex.assign2 (x := "x") (y := "y") (by walk_at "EV") (by rfl) (Ex.nil ⟨_, rfl, by walk_at "SUB"⟩)
      · rw [und_keep o ho k hk (by simpa using hc)]
        exact Ex.nil ⟨_, rfl, by walk_at "SUB"⟩
      refine Ex.iteTo (c := decide (2 ≤ o)) (Γ' := ⟨[("x", .int ((und o k).1 : Int)), ("y", .int ((und o k).2 : Int)), ("place", .int (k : Int)), ("script", .lst (l.map Mine.D.int)), ("turn", .int (t : Int)), ("face", .int (f : Int)), ("level", .int (v : Int)), ("a", .int (a : Int)), ("b", .int (b : Int)), ("cell", .cell (cid m p : Nat)), ("due", .int (cid m p : Nat)), ("told", .tup [.int (f : Int), .int ((tfR m p).1 : Nat), .int ((tfR m p).2.1 : Nat), .int (o : Int)])], none⟩) (by walk_at "TV") (fun hc => ?_) (fun hc => ?_) ?_
      · have hx1 : (und (o % 2) k).1 ≤ 1 := by omega
        have hx2 : (und (o % 2) k).2 ≤ 1 := by omega
        rw [und_turn o ho k hk (of_decide_eq_true hc)]
        exact Ex.assign2 (x := "x") (y := "y") (by walk_at "EV") (by rfl) (Ex.nil ⟨_, rfl, by walk_at "SUB"⟩)
      · rw [und_stay o ho k hk (of_decide_eq_false hc)]
        exact Ex.nil ⟨_, rfl, by walk_at "SUB"⟩
      clear u1 u2 w1 w2
      refine Ex.assign (d := .cell (cid (m - 1) (4 * p + k) : Nat)) (by walk_at "EV") ?_
      have z1 : (4 * p + k) / 4 = p := by
        clear hd hdn hup hcl hp' hpf'
        omega
      have z2 : cid (30 - (v + 1)) (lpos f (v + 1) (2 * a + (und o k).1) (2 * b + (und o k).2)) = cid (m - 1) (4 * p + k) := by rw [g5, hd]
      clear hd hdn
      refine Ex.chk (Tv.boolop (TvA.orF (by walk_at "NO") (TvA.orF (Tv.to (by walk_at "TV") (by rw [z1, g3]; simp)) TvA.or_nil))) ?_
      have z3 : (cid (m - 1) (4 * p + k) != cid (30 - (v + 1)) (lpos f (v + 1) (2 * a + (und o k).1) (2 * b + (und o k).2))) = false := by rw [z2]; simp
      refine Ex.chk (Tv.to (by walk_at "TV") (by rw [z3]; simp)) ?_
      exact Ex.nil ⟨_, by walk_at "SUB", hk, rfl⟩
    · rintro Γ1 ⟨_, rfl⟩
      exact Ex.done (Ex.nil ⟨_, by walk_at "SUB", h3, rfl⟩)
  · rintro Γ1 ⟨_, rfl⟩
    exact Ex.ret (by walk_at "EV") (retP.mk rfl)
end
end Mine
open PySem PySem.W PyProof.Rows PySem.Calls
set_option Elab.async false
set_option maxRecDepth 100000
set_option linter.unusedVariables false
namespace Mine
open PySem.Challenge
theorem walk : ∀ d kwd, defOf qq "law" = some (d, kwd) → WalkO qq loose (XL qq []) (Hook.says hk) rw_lp0001_11.row.toRowW d kwd fun f vs => PySem.call f vs := by
  intro d kwd hdef
  intro w s₀ s₁ mg mb G Y fa o pm cd doc dV kV ho hd hcd hD hmg hg args vals as hpre hlay hrd hwl hlo
  have KX := kIn_of Y
  refine Ground.open G ?_
  intro T _ _ _ _
  have TR := topRead_of T
  wrow_args hpre hlay hrd hwl hlo
  rename_i ns _ _ _ _ _ _ _ la vs _ hL _ _ _ hI _ hlen _
  have hgd : Gd (GG w mg mb) s₁.heap.get? := ⟨s₁.heap, KX, TR, HLe.refl _⟩
  have hn : d.name = ("law" : Str) := defOf_name hdef
  have hfa : fa = 483 := by
    have h1 := mg_of (K := KK w.params) KX TR.g (n := "law") (v := .ref 483) (by kernel_rfl)
    rw [hn] at hmg
    rw [hmg] at h1
    simpa using h1
  subst hfa
  have rd : RdL (GG w mg mb) s₁.heap.get? [.lst (ns.map Mine.D.int)] [.ref la] := by
    refine RdL.cons ?_ RdL.nil
    unfold Rd
    obtain ⟨o, e, c, n, q⟩ := hL
    refine ⟨la, vs.toArray, rfl, ⟨o, e, c, n, q⟩, ?_⟩
    have key : ∀ {vs : List Value} {ns : List Int}, IntsAre vs ns → RdL (GG w mg mb) s₁.heap.get? (ns.map Mine.D.int) vs := by
      intro vs ns h
      induction h with
      | nil => exact RdL.nil
      | cons n t _ ih => exact RdL.cons Rd.int ih
    exact key hI
  have A0 : Amb 12 callerA := ⟨rfl, by decide, by decide⟩
  refine (f_law (w := w) (mg := mg) (mb := mb) (l := ns) (by omega)).w (n := 12) hgd (HLe.refl _) rd callerA _ _ A0 fun v S' s' X r => ?_
  obtain rfl : v = .bool true := r
  obtain ⟨l, e, hl⟩ := X.gens
  refine ⟨.inl ⟨_, .bool true, [], rfl, fun _ => rfl, ?_, ?_, ?_⟩, .of_keep X.heap, X.os, by rw [e, hg]; simpa using hl⟩
  · exact .bool _
  · kernel_rfl
  · exact fun _ => ⟨.nil, fun a h => nomatch h⟩
end Mine
theorem PySem.Challenge.cw_lp0001_11_holds : PySem.Challenge.rw_lp0001_11.Holds :=
  Mine.head Mine.walk
