import PyProof.Rows.All
import Wide.All
import OpenK.AllK
import Wide.FinOn
import PyProof.MinMaxWalk
import PyProof.MeetsSeq
import PyProof.MeetsSeq3
import PyProof.StrLawsTight
import PyProof.Rows.SortStr
import KE.KxBytes
import KE.KDictList
import KE.KDictAnyTail
import KE.KLam
import KE.KSortKey
import Lean
import PySem.Challenge.RW_rt0032_01
set_option Elab.async false
set_option autoImplicit false
set_option linter.unusedVariables false
set_option linter.unusedSimpArgs false
set_option linter.unusedSectionVars false
set_option maxRecDepth 100000
/-! ### Base1 -/
namespace Mine
open PySem PySem.W PySem.Calls PyProof.Rows

structure Le (F : List Addr) (B h h' : Heap) : Prop where
  base : B.StaysIn h → B.StaysIn h'
  keep : ∀ a o, h.get? a = some o → a ∉ F → h'.get? a = some o
  data : ∀ a o, h.get? a = some o → ∃ o', h'.get? a = some o' ∧ o'.data = o.data

section
variable {F : List Addr} {B h h' h'' : Heap}
theorem Le.refl : Le F B h h := ⟨fun x => x, fun _ _ e _ => e, fun _ o e => ⟨o, e, rfl⟩⟩
theorem Le.trans (x : Le F B h h') (y : Le F B h' h'') : Le F B h h'' :=
  ⟨fun b => y.base (x.base b), fun a o e n => y.keep a o (x.keep a o e n) n, fun a o e => by
    obtain ⟨o1, e1, d1⟩ := x.data a o e
    obtain ⟨o2, e2, d2⟩ := y.data a o1 e1
    exact ⟨o2, e2, d2.trans d1⟩⟩
theorem Le.of_keeps (k : ∀ b o, h.get? b = some o → h'.get? b = some o) : Le F B h h' :=
  ⟨fun x b o e => k b o (x b o e), fun a o e _ => k a o e, fun a o e => ⟨o, k a o e, rfl⟩⟩
theorem Le.push (o : Obj) : Le F B h (h.push o) := Le.of_keeps fun _ _ e => Heap.get?_push_of_some o e
theorem Le.ns {a : Addr} {m : Str → Option Value} (x : Le F B h h') (n : h.Ns a m) : h'.Ns a m := by
  obtain ⟨o, es, ep, ho, hd, r⟩ := n
  obtain ⟨o', ho', hd'⟩ := x.data a o ho
  exact ⟨o', es, ep, ho', hd'.trans hd, r⟩
theorem Le.cell {a : Addr} {v : Option Value} (x : Le F B h h') (n : h.IsCell a v) : h'.IsCell a v := by
  obtain ⟨o, ho, hd⟩ := n
  obtain ⟨o', ho', hd'⟩ := x.data a o ho
  exact ⟨o', ho', hd'.trans hd⟩
theorem Le.alive {a : Addr} {o : Obj} (x : Le F B h h') (e : h.get? a = some o) : ∃ o', h'.get? a = some o' := let ⟨o', e', _⟩ := x.data a o e; ⟨o', e'⟩
end

def Go (F : List Addr) (B : Heap) (s s' : Shared) : Prop := ∃ h' tk, s' = { s with heap := h', toks := tk } ∧ Le F B s.heap h'
section
variable {F : List Addr} {B : Heap} {s s' s'' : Shared}
theorem Go.refl : Go F B s s := ⟨s.heap, s.toks, rfl, .refl⟩
theorem Go.trans (x : Go F B s s') (y : Go F B s' s'') : Go F B s s'' := by
  obtain ⟨h1, t1, rfl, l1⟩ := x
  obtain ⟨h2, t2, rfl, l2⟩ := y
  exact ⟨h2, t2, rfl, l1.trans l2⟩
theorem Go.le (x : Go F B s s') : Le F B s.heap s'.heap := by
  obtain ⟨h1, t1, rfl, l1⟩ := x; exact l1
theorem Go.toks (n : Nat) : Go F B s { s with toks := n } := ⟨s.heap, n, rfl, .refl⟩
theorem Go.of_keeps {h' : Heap} {tk : Nat} (k : ∀ b o, s.heap.get? b = some o → h'.get? b = some o) : Go F B s { s with heap := h', toks := tk } := ⟨h', tk, rfl, .of_keeps k⟩
end

abbrev fz (S : List Addr) (h : Heap) : Heap := hideAll h S
theorem fz_in {S : List Addr} {h : Heap} {a : Addr} {o : Obj} (e : (fz S h).get? a = some o) : h.get? a = some o ∧ a ∉ S := by
  refine ⟨of_hideAll _ e, fun m => ?_⟩
  have := hideAll_none S (h := h) m
  rw [this] at e; cases e
theorem fz_get {S : List Addr} {h : Heap} {a : Addr} {o : Obj} (e : h.get? a = some o) (n : a ∉ S) : (fz S h).get? a = some o := hideAll_get _ e n
theorem fz_stays {S : List Addr} {h : Heap} : (fz S h).StaysIn h := fun _ _ e => of_hideAll _ e
theorem fz_le {F S S' : List Addr} {B h h' : Heap} (l : Le F B h h') (hF : ∀ a ∈ F, a ∈ S) (hS : ∀ a ∈ S', a ∈ S ∨ h.get? a = none) : (fz S h).StaysIn (fz S' h') := fun b o e => by
  obtain ⟨e1, n1⟩ := fz_in e
  refine fz_get (l.keep b o e1 fun m => n1 (hF b m)) fun m => ?_
  rcases hS b m with q | q
  · exact n1 q
  · rw [q] at e1; cases e1

structure Pd where
  p : Value → Heap → Prop
  mono : ∀ {v : Value} {g g' : Heap}, g.StaysIn g' → p v g → p v g'
instance : CoeFun Pd (fun _ => Value → Heap → Prop) := ⟨Pd.p⟩

def Fs (A : Around) (F : List Addr) (B h : Heap) : Prop := ∃ outer, A.frames = some outer ∧ outer.filterMap (·.frame) = F ∧ h.FunFrames B outer
theorem Fs.le {A : Around} {F : List Addr} {B h h' : Heap} (x : Fs A F B h) (l : Le F B h h') : Fs A F B h' := by
  obtain ⟨outer, h1, h2, h3⟩ := x
  exact ⟨outer, h1, h2, h3.of_keeps fun b o e _ => l.data b o e⟩
structure Ok (A : Around) (F : List Addr) (B : Heap) (S : List Addr) (h : Heap) : Prop where
  bh : B.StaysIn h
  fr : Fs A F B h
  fs : ∀ a ∈ F, a ∈ S
  al : ∀ a ∈ S, ∃ o, h.get? a = some o
theorem Ok.le {A : Around} {F : List Addr} {B : Heap} {S : List Addr} {h h' : Heap} (x : Ok A F B S h) (l : Le F B h h') : Ok A F B S h' := ⟨l.base x.bh, x.fr.le l, x.fs, fun a m => let ⟨_, e⟩ := x.al a m; l.alive e⟩
theorem Ok.size {A : Around} {F : List Addr} {B : Heap} {S : List Addr} {h : Heap} (x : Ok A F B S h) : h.objs.size ∉ S := fun m => let ⟨_, e⟩ := x.al _ m; Nat.lt_irrefl _ (Heap.lt_size e)
theorem Ok.fz {A : Around} {F : List Addr} {B : Heap} {S : List Addr} {h h' : Heap} (x : Ok A F B S h) (l : Le F B h h') : (fz S h).StaysIn (fz S h') := fz_le l x.fs fun _ m => .inl m

/-- a tree comes back, all stands as it stood, and what it gives is told -/
def Do {α : Type} (prog : Program) (w : World) (A : Around) (F : List Addr) (B : Heap) (S : List Addr) (h : Heap) (t : Sem α) (P : α → Heap → Prop) : Prop :=
  ∀ s (Q : α → Shared → Prop) (E : Value → Shared → Prop), Ok A F B S s.heap → Le F B h s.heap → (∀ a s', Go F B s s' → P a (fz S s'.heap) → Q a s') → wpAny (model prog w) A t Q E s

section
variable {prog : Program} {w : World} {A : Around} {F : List Addr} {B : Heap} {S : List Addr} {h : Heap} {α β : Type}
theorem Do.up {h' : Heap} {t : Sem α} {P : α → Heap → Prop} (x : Do prog w A F B S h t P) (l : Le F B h h') : Do prog w A F B S h' t P := fun s Q E o l' k => x s Q E o (l.trans l') k
theorem Do.mono {t : Sem α} {P P' : α → Heap → Prop} (x : Do prog w A F B S h t P) (hp : ∀ a g, P a g → P' a g) : Do prog w A F B S h t P' := fun s Q E o l k => x s Q E o l fun a s' g q => k a s' g (hp _ _ q)
theorem Do.pure {a : α} {P : α → Heap → Prop} (hp : ∀ h', Le F B h h' → Ok A F B S h' → P a (fz S h')) : Do prog w A F B S h (pure a) P := fun _ _ _ o l k => wpAny_pure (k _ _ .refl (hp _ l o))
theorem Do.bind {t : Sem α} {f : α → Sem β} {P : α → Heap → Prop} {R : β → Heap → Prop} (x : Do prog w A F B S h t P)
    (y : ∀ a h', Le F B h h' → Ok A F B S h' → P a (fz S h') → Do prog w A F B S h' (f a) R) : Do prog w A F B S h (t >>= f) R := fun s Q E o l k =>
  wpAny_bind (x s _ E o l fun a s' g q => y a s'.heap (l.trans g.le) (o.le g.le) q s' Q E (o.le g.le) .refl fun b s'' g' q' => k b s'' (g.trans g') q')
theorem Do.skip {t : Sem α} {f : α → Sem β} {R : β → Heap → Prop} (x : ∀ s (Q : α → Shared → Prop) (E : Value → Shared → Prop), (∀ a, Q a s) → wpAny (model prog w) A t Q E s)
    (y : ∀ a, Do prog w A F B S h (f a) R) : Do prog w A F B S h (t >>= f) R := fun s Q E o l k => wpAny_bind (x s _ E fun a => y a s Q E o l k)
theorem Do.stand {pos : Pos} {f : PUnit → Sem β} {R : β → Heap → Prop} (y : Do prog w A F B S h (f ⟨⟩) R) : Do prog w A F B S h (standAt pos >>= f) R := fun s Q E o l k => wpAny_bind (wpAny_standAt (y s Q E o l k))
theorem Do.rule {tag : String} {f : PUnit → Sem β} {R : β → Heap → Prop} (y : Do prog w A F B S h (f ⟨⟩) R) : Do prog w A F B S h (PySem.rule tag >>= f) R := fun s Q E o l k => wpAny_bind (wpAny_rule (y s Q E o l k))
theorem Do.holding {vs : List Value} {t : Sem α} {P : α → Heap → Prop} (x : Do prog w A F B S h t P) : Do prog w A F B S h (PySem.holding vs t) P := fun s Q E o l k => wpAny_holding (x s Q E o l k)
theorem Do.keepp {vs : List Value} {t : Sem α} {P : α → Heap → Prop} (x : Do prog w A F B S h t P) : Do prog w A F B S h (t.keep vs) P := fun s Q E o l k => wpAny_keep (x s Q E o l k)
/-- a tree that the library knows, and that leaves the state as it is -/
theorem Do.still {t : Sem α} {a : α} {P : α → Heap → Prop} (x : ∀ s (Q : α → Shared → Prop) (E : Value → Shared → Prop), Ok A F B S s.heap → Le F B h s.heap → Q a s → wpAny (model prog w) A t Q E s)
    (hp : ∀ h', Le F B h h' → Ok A F B S h' → P a (fz S h')) : Do prog w A F B S h t P := fun s Q E o l k => x s Q E o l (k _ _ .refl (hp _ l o))
/-- any tree, by its own wp -/
theorem Do.of {t : Sem α} {P : α → Heap → Prop} (x : ∀ s (Q : α → Shared → Prop) (E : Value → Shared → Prop), Ok A F B S s.heap → Le F B h s.heap → (∀ a s', Go F B s s' → P a (fz S s'.heap) → Q a s') → wpAny (model prog w) A t Q E s) : Do prog w A F B S h t P := x
end

/-- release does nothing that is seen -/
theorem wpAny_releaseGo {M : Model} {A : Around} {E : Value → Shared → Prop} {keep : List Value} {Q : Unit → Shared → Prop} : ∀ (vs : List Value) (s : Shared), Q () s → wpAny M A (release.go keep vs) Q E s
  | [], _, q => wpAny_pure q
  | [_], _, q => wpAny_pure q
  | _ :: b :: r, s, q => wpAny_bind (wpAny_holding (wpAny_point (wpAny_releaseGo (b :: r) s q)))
theorem wpAny_release' {M : Model} {A : Around} {E : Value → Shared → Prop} {vs keep : List Value} {s : Shared} {Q : Unit → Shared → Prop} (q : Q () s) : wpAny M A (release vs keep) Q E s := wpAny_releaseGo _ _ q
section
variable {prog : Program} {w : World} {A : Around} {F : List Addr} {B : Heap} {S : List Addr} {h : Heap} {α β : Type}
theorem Do.release {vs keep : List Value} {f : PUnit → Sem β} {R : β → Heap → Prop} (y : Do prog w A F B S h (f ⟨⟩) R) : Do prog w A F B S h (PySem.release vs keep >>= f) R := fun s Q E o l k => wpAny_bind (wpAny_release' (y s Q E o l k))
theorem Do.pnt {f : PUnit → Sem β} {R : β → Heap → Prop} (y : Do prog w A F B S h (f ⟨⟩) R) : Do prog w A F B S h (PySem.point >>= f) R := fun s Q E o l k => wpAny_bind (wpAny_point (y s Q E o l k))
theorem Do.operate {vs : List Value} {t : Sem Value} {P : Value → Heap → Prop} (x : Do prog w A F B S h t P) : Do prog w A F B S h (PySem.operate vs t) P := fun s Q E o l k => by
  unfold PySem.operate
  exact wpAny_bind (wpAny_holding (x s _ E o l fun a s' g q => wpAny_bind (wpAny_release' (wpAny_pure (k a s' g q)))))
end
end Mine

/-! ### Base2 -/
namespace Mine
open PySem PySem.W PySem.Calls PyProof.Rows

/-! ## what a value is -/
def dat (d : PyData) : Pd := ⟨fun v g => ∃ as, Reads g v d as, fun k ⟨as, r⟩ => ⟨as, Reads.keeps k r⟩⟩
def isv (x : Value) : Pd := ⟨fun v _ => v = x, fun _ e => e⟩
def byt (b : Array UInt8) : Pd := ⟨fun v _ => ∃ t, v = .bytes b t, fun _ e => e⟩
def pint (i : Int) : Pd := dat (.int i)
def pstr (x : Str) : Pd := dat (.str x)
def pbool (b : Bool) : Pd := dat (.bool b)
def plist (xs : List PyData) : Pd := dat (.list xs)
def ptup (xs : List PyData) : Pd := dat (.tuple xs)

section
variable {v : Value} {g : Heap}
theorem dat_int {i : Int} (x : (dat (.int i)) v g) : ∃ t, v = .int i t := by obtain ⟨as, r⟩ := x; cases r; exact ⟨_, rfl⟩
theorem dat_str {i : Str} (x : (dat (.str i)) v g) : ∃ t, v = .str i t := by obtain ⟨as, r⟩ := x; cases r; exact ⟨_, rfl⟩
theorem dat_bool {b : Bool} (x : (dat (.bool b)) v g) : v = .bool b := by obtain ⟨as, r⟩ := x; cases r; rfl
theorem dat_none (x : (dat .none) v g) : v = .none := by obtain ⟨as, r⟩ := x; cases r; rfl
theorem dat_list {xs : List PyData} (x : (dat (.list xs)) v g) : ∃ a o vs n as, v = .ref a ∧ g.get? a = some o ∧ o.cls = .type "list" ∧ o.data = .seq vs n ∧ ReadsAll g vs.toList xs as := by
  obtain ⟨as, r⟩ := x; cases r; exact ⟨_, _, _, _, _, rfl, by assumption, by assumption, by assumption, by assumption⟩
theorem dat_tuple {xs : List PyData} (x : (dat (.tuple xs)) v g) : ∃ a o vs n as, v = .ref a ∧ g.get? a = some o ∧ o.cls = .type "tuple" ∧ o.data = .seq vs n ∧ ReadsAll g vs.toList xs as := by
  obtain ⟨as, r⟩ := x; cases r; exact ⟨_, _, _, _, _, rfl, by assumption, by assumption, by assumption, by assumption⟩
theorem dat_int_in (i : Int) (t : Tok) : (dat (.int i)) (.int i t) g := ⟨_, .int i t⟩
theorem dat_str_in (i : Str) (t : Tok) : (dat (.str i)) (.str i t) g := ⟨_, .str i t⟩
theorem dat_bool_in (i : Bool) : (dat (.bool i)) (.bool i) g := ⟨_, .bool i⟩
theorem dat_none_in : (dat .none) .none g := ⟨_, .none⟩
end

/-! ## names -/
def Hd (env : Env) (h : Heap) (x : Str) (v : Value) : Prop :=
  (env.kindOf x = some .local ∧ ∃ m, h.Ns env.locals m ∧ m x = some v) ∨ ((env.kindOf x = some .cell ∨ env.kindOf x = some .free) ∧ ∃ c, env.cells.lookup x = some c ∧ h.IsCell c (some v))
def Vr (S : List Addr) (env : Env) (h : Heap) (x : Str) (P : Pd) : Prop := ∃ v, Hd env h x v ∧ P v (fz S h)
theorem Hd.le {F : List Addr} {B h h' : Heap} {env : Env} {x : Str} {v : Value} (l : Le F B h h') : Hd env h x v → Hd env h' x v
  | .inl ⟨k, m, n, e⟩ => .inl ⟨k, m, l.ns n, e⟩
  | .inr ⟨k, c, e, n⟩ => .inr ⟨k, c, e, l.cell n⟩
theorem Vr.le {F : List Addr} {B h h' : Heap} {S : List Addr} {env : Env} {x : Str} {P : Pd} (l : Le F B h h') (hF : ∀ a ∈ F, a ∈ S) : Vr S env h x P → Vr S env h' x P
  | ⟨v, d, p⟩ => ⟨v, d.le l, P.mono (fz_le l hF fun _ m => .inl m) p⟩

def GN (B : Heap) (x : Str) (v : Value) : Prop := ∃ mg mb, B.Ns mainGlobals mg ∧ B.Ns builtinsNs mb ∧ (mg x = some v ∨ (mg x = none ∧ mb x = some v))

section
variable {prog : Program} {w : World} {A : Around} {F : List Addr} {B : Heap} {S : List Addr} {h : Heap} {env : Env}
abbrev Ev (prog : Program) (w : World) (A : Around) (F : List Addr) (B : Heap) (S : List Addr) (h : Heap) (env : Env) (e : Expr) (P : Pd) : Prop := Do prog w A F B S h (eval e env) P.p

theorem ev_var {x : Str} {pos : Pos} {P : Pd} (hk : env.scope.kind = .function) (V : Vr S env h x P) (hd : (x == ("__debug__" : Str)) = false) (hn : (x == ("__classdict__" : Str)) = false) :
    Ev prog w A F B S h env (.Name x pos) P := fun s Q E o l k => by
  obtain ⟨v, H, p⟩ := V.le l o.fs
  refine wpAny_Name ?_ hd
  have q : Q v s := k v s .refl p
  rcases H with ⟨h1, m, h2, h3⟩ | ⟨h1 | h1, c, h2, h3⟩
  · exact wpAny_loadName_local hk h1 h2 h3 q
  · exact wpAny_loadName_cell hk h1 h2 h3 q
  · exact wpAny_loadName_free hk h1 h2 h3 q hn

theorem ev_glob {x : Str} {pos : Pos} {v : Value} (hk : env.scope.kind = .function) (hg : env.globals = mainGlobals) (hb : env.builtins = builtinsNs) (hx : env.kindOf x = some .globalImplicit) (G : GN B x v) (hd : (x == ("__debug__" : Str)) = false) :
    Ev prog w A F B S h env (.Name x pos) (isv v) := fun s Q E o l k => by
  obtain ⟨mg, mb, g1, g2, g3⟩ := G
  have q : Q v s := k v s .refl rfl
  have n1 : s.heap.Ns env.globals mg := by rw [hg]; exact g1.keeps o.bh
  have n2 : s.heap.Ns env.builtins mb := by rw [hb]; exact g2.keeps o.bh
  refine Name_function_global hk hx ?_ hd
  rcases g3 with g3 | ⟨g3, g4⟩
  · exact loadGlobal_global n1 g3 q
  · exact loadGlobal_builtin n1 g3 n2 g4 q

theorem ev_str {x : Str} {k : Nat} {pos : Pos} : Ev prog w A F B S h env (.Constant (.str x) k pos) (pstr x) := fun s Q E o l k => by
  refine Constant_str (k _ _ (Go.toks _) ⟨_, .str _ _⟩)
theorem ev_int {x : Int} {k : Nat} {pos : Pos} : Ev prog w A F B S h env (.Constant (.int x) k pos) (pint x) := fun s Q E o l k => by
  show wpAny _ _ (mkInt x) _ _ _
  exact wpAny_mkInt (k _ _ (Go.toks _) ⟨_, .int _ _⟩)
theorem ev_true {b : Bool} {k : Nat} {pos : Pos} : Ev prog w A F B S h env (.Constant (.bool b) k pos) (pbool b) := fun s Q E o l k => by
  show wpAny _ _ (pure (Value.bool b)) _ _ _
  exact wpAny_pure (k _ _ .refl ⟨_, .bool _⟩)
theorem ev_none {k : Nat} {pos : Pos} : Ev prog w A F B S h env (.Constant .none k pos) (isv .none) := fun s Q E o l k => by
  show wpAny _ _ (pure Value.none) _ _ _
  exact wpAny_pure (k _ _ .refl rfl)
theorem ev_bytes {b : List UInt8} {k : Nat} {pos : Pos} : Ev prog w A F B S h env (.Constant (.bytes b) k pos) (byt b.toArray) := fun s Q E o l k => by
  show wpAny _ _ (mkTextBytes b.toArray) _ _ _
  unfold mkTextBytes
  exact wpAny_bind (wpAny_fresh (wpAny_pure (k _ _ (Go.toks _) ⟨_, rfl⟩)))

/-! ## operators -/
theorem ev_bin {l r : Expr} {op : Operator} {pos : Pos} {P1 P2 P : Pd} (x : Ev prog w A F B S h env l P1) (y : Ev prog w A F B S h env r P2)
    (z : ∀ a b h', Le F B h h' → Ok A F B S h' → P1 a (fz S h') → P2 b (fz S h') → Do prog w A F B S h' (binaryOp op a b) P.p) : Ev prog w A F B S h env (.BinOp l op r pos) P := by
  show Do _ _ _ _ _ _ _ (do let a ← eval l env; let b ← PySem.holding [a] (eval r env); standAt pos; PySem.operate [a, b] (binaryOp op a b)) _
  refine x.bind fun a h1 l1 o1 q1 => ((y.up l1).holding).bind fun b h2 l2 o2 q2 => ?_
  exact Do.stand ((z a b h2 (l1.trans l2) o2 (P1.mono (o1.fz l2) q1) q2).operate)
theorem ev_not {e : Expr} {pos : Pos} {P1 P : Pd} (x : Ev prog w A F B S h env e P1) (z : ∀ a h', Le F B h h' → Ok A F B S h' → P1 a (fz S h') → Do prog w A F B S h' (unaryOp .Not a) P.p) : Ev prog w A F B S h env (.UnaryOp .Not e pos) P := by
  show Do _ _ _ _ _ _ _ (do let v ← eval e env; standAt pos; PySem.holding [v] (unaryOp .Not v)) _
  exact x.bind fun a h1 l1 o1 q1 => Do.stand ((z a h1 l1 o1 q1).holding)
theorem markedBehindIn_of {op : CmpOp} {e : Expr} {t : Sem Value} (hm : behindInMarks op e = false) : markedBehindIn op e t = t := by unfold markedBehindIn; rw [hm]
theorem ev_cmp {l r : Expr} {op : CmpOp} {pos : Pos} {P1 P2 P : Pd} (x : Ev prog w A F B S h env l P1) (y : Ev prog w A F B S h env r P2)
    (z : ∀ a b h', Le F B h h' → Ok A F B S h' → P1 a (fz S h') → P2 b (fz S h') → Do prog w A F B S h' (compareOp op a b) P.p) (hm : behindInMarks op r = false := by rfl) : Ev prog w A F B S h env (.Compare l [op] [r] pos) P := by
  show Do _ _ _ _ _ _ _ (do compareChain pos (← eval l env) [op] [markedBehindIn op r (eval r env)]) _
  rw [markedBehindIn_of hm]
  refine x.bind fun a h1 l1 o1 q1 => ?_
  show Do _ _ _ _ _ _ _ (do let rv ← PySem.holding [a] (eval r env); standAt pos; PySem.operate [a, rv] (compareOp op a rv)) _
  exact ((y.up l1).holding).bind fun b h2 l2 o2 q2 => Do.stand ((z a b h2 (l1.trans l2) o2 (P1.mono (o1.fz l2) q1) q2).operate)

/-! ## tests -/
abbrev Tr (prog : Program) (w : World) (A : Around) (F : List Addr) (B : Heap) (S : List Addr) (h : Heap) (env : Env) (e : Expr) (b : Bool) : Prop := Do prog w A F B S h (isTrue e env (eval e env)) (fun c _ => c = b)

theorem tr_cmp {l r : Expr} {op : CmpOp} {pos : Pos} {P1 P2 : Pd} {b : Bool} (x : Ev prog w A F B S h env l P1) (y : Ev prog w A F B S h env r P2)
    (z : ∀ a c h', Le F B h h' → Ok A F B S h' → P1 a (fz S h') → P2 c (fz S h') → Do prog w A F B S h' (compareOp op a c) (pbool b).p) (hm : behindInMarks op r = false := by rfl) : Tr prog w A F B S h env (.Compare l [op] [r] pos) b := by
  show Do _ _ _ _ _ _ _ (do testChain pos (← eval l env) [op] [markedBehindIn op r (eval r env)]) _
  rw [markedBehindIn_of hm]
  refine x.bind fun a h1 l1 o1 q1 => ?_
  show Do _ _ _ _ _ _ _ (do let rv ← PySem.holding [a] (eval r env); standAt pos; let c ← PySem.operate [a, rv] (compareOp op a rv); PySem.holding [c] (truthy c)) _
  refine ((y.up l1).holding).bind fun v h2 l2 o2 q2 => Do.stand (((z a v h2 (l1.trans l2) o2 (P1.mono (o1.fz l2) q1) q2).operate).bind fun c h3 l3 o3 q3 => ?_)
  obtain rfl := dat_bool q3
  exact (Do.pure fun _ _ _ => rfl : Do prog w A F B S h3 (pure b) _).holding
theorem tr_not {e : Expr} {pos : Pos} {b : Bool} (x : Tr prog w A F B S h env e b) : Tr prog w A F B S h env (.UnaryOp .Not e pos) (!b) := by
  show Do _ _ _ _ _ _ _ (do return !(← isTrue e env (eval e env))) _
  exact x.bind fun c h1 l1 o1 q1 => Do.pure fun _ _ _ => by rw [q1]
/-- a test that is no Compare, no not, no and | or, no conditional -/
theorem tr_plain {e : Expr} {b : Bool} {P : Pd} (x : Ev prog w A F B S h env e P) (z : ∀ a h', Le F B h h' → Ok A F B S h' → P a (fz S h') → Do prog w A F B S h' (truthy a) (fun c _ => c = b))
    (hp : isTrue e env (eval e env) = (do let v ← eval e env; standAt e.pos; PySem.holding [v] (truthy v)) := by rfl) : Tr prog w A F B S h env e b := by
  show Do _ _ _ _ _ _ _ (isTrue e env (eval e env)) _
  rw [hp]
  exact x.bind fun a h1 l1 o1 q1 => Do.stand ((z a h1 l1 o1 q1).holding)
theorem tr_bool {op : BoolOp} {es : List Expr} {pos : Pos} {b : Bool} (x : Do prog w A F B S h (allTrue op es env) (fun c _ => c = b)) : Tr prog w A F B S h env (.BoolOp op es pos) b := x
theorem tr_nil {op : BoolOp} {b : Bool} (hb : (op == .And) = b) : Do prog w A F B S h (allTrue op [] env) (fun c _ => c = b) := by
  show Do _ _ _ _ _ _ _ (pure (op == .And)) _
  exact Do.pure fun _ _ _ => hb
theorem tr_and {e : Expr} {es : List Expr} {b c : Bool} (x : Tr prog w A F B S h env e b) (y : b = true → ∀ h', Le F B h h' → Ok A F B S h' → Do prog w A F B S h' (allTrue .And es env) (fun d _ => d = c)) : Do prog w A F B S h (allTrue .And (e :: es) env) (fun d _ => d = (b && c)) := by
  show Do _ _ _ _ _ _ _ (do match BoolOp.And, ← isTrue e env (eval e env) with | .And, false => pure false | .Or, true => pure true | _, _ => allTrue .And es env) _
  refine x.bind fun d h1 l1 o1 q1 => ?_
  subst q1
  cases d with
  | false => exact Do.pure fun _ _ _ => by simp
  | true => exact (y rfl h1 l1 o1).mono fun _ _ q => by simpa using q
theorem tr_or {e : Expr} {es : List Expr} {b c : Bool} (x : Tr prog w A F B S h env e b) (y : b = false → ∀ h', Le F B h h' → Ok A F B S h' → Do prog w A F B S h' (allTrue .Or es env) (fun d _ => d = c)) : Do prog w A F B S h (allTrue .Or (e :: es) env) (fun d _ => d = (b || c)) := by
  show Do _ _ _ _ _ _ _ (do match BoolOp.Or, ← isTrue e env (eval e env) with | .And, false => pure false | .Or, true => pure true | _, _ => allTrue .Or es env) _
  refine x.bind fun d h1 l1 o1 q1 => ?_
  subst q1
  cases d with
  | true => exact Do.pure fun _ _ _ => by simp
  | false => exact (y rfl h1 l1 o1).mono fun _ _ q => by simpa using q
theorem ev_if {t b o : Expr} {pos : Pos} {c : Bool} {P : Pd} (x : Tr prog w A F B S h env t c) (y : c = true → ∀ h', Le F B h h' → Ok A F B S h' → Ev prog w A F B S h' env b P) (z : c = false → ∀ h', Le F B h h' → Ok A F B S h' → Ev prog w A F B S h' env o P) : Ev prog w A F B S h env (.IfExp t b o pos) P := by
  show Do _ _ _ _ _ _ _ (do if ← isTrue t env (eval t env) then eval b env else eval o env) _
  refine x.bind fun d h1 l1 o1 q1 => ?_
  subst q1
  cases d with
  | true => exact y rfl h1 l1 o1
  | false => exact z rfl h1 l1 o1
/-- x or y as a value -/
theorem ev_or2 {e1 e2 : Expr} {pos : Pos} {P1 P : Pd} {b : Bool} (x : Ev prog w A F B S h env e1 P1) (t : ∀ a h', Le F B h h' → Ok A F B S h' → P1 a (fz S h') → Do prog w A F B S h' (truthy a) (fun c _ => c = b))
    (y : b = true → ∀ v g, P1 v g → P v g) (z : b = false → ∀ h', Le F B h h' → Ok A F B S h' → Ev prog w A F B S h' env e2 P) : Ev prog w A F B S h env (.BoolOp .Or [e1, e2] pos) P := by
  show Do _ _ _ _ _ _ _ (do
    let v ← eval e1 env
    standAt pos
    let t ← PySem.holding [v] (truthy v)
    match BoolOp.Or, t with
    | .And, false | .Or, true => pure v
    | _, _ => boolOp pos .Or [eval e2 env]) _
  refine x.bind fun a h1 l1 o1 q1 => Do.stand (((t a h1 l1 o1 q1).holding).bind fun c h2 l2 o2 q2 => ?_)
  subst q2
  cases c with
  | true => exact Do.pure fun h' l' o' => y rfl _ _ (P1.mono (o1.fz (l2.trans l')) q1)
  | false => exact z rfl h2 (l1.trans l2) o2
end
end Mine

/-! ### Base3 -/
namespace Mine
open PySem PySem.W PySem.Calls PyProof.Rows

abbrev Vs := List Value → Heap → Prop
def all (ds : List PyData) (vs : List Value) (g : Heap) : Prop := ∃ as, ReadsAll g vs ds as
theorem all.mono {ds : List PyData} {vs : List Value} {g g' : Heap} (k : g.StaysIn g') (x : all ds vs g) : all ds vs g' := let ⟨as, r⟩ := x; ⟨as, ReadsAll.keeps k r⟩
theorem all.nil {g : Heap} : all [] [] g := ⟨_, .nil⟩
theorem all.cons {v : Value} {d : PyData} {vs : List Value} {ds : List PyData} {g : Heap} (x : (dat d) v g) (y : all ds vs g) : all (d :: ds) (v :: vs) g := let ⟨_, r⟩ := x; let ⟨_, q⟩ := y; ⟨_, .cons r q⟩
theorem all.uncons {v : Value} {d : PyData} {vs : List Value} {ds : List PyData} {g : Heap} (x : all (d :: ds) (v :: vs) g) : (dat d) v g ∧ all ds vs g := by
  obtain ⟨as, r⟩ := x; cases r with | cons r q => exact ⟨⟨_, r⟩, ⟨_, q⟩⟩
theorem all.length {ds : List PyData} {vs : List Value} {g : Heap} (x : all ds vs g) : vs.length = ds.length := by
  induction vs generalizing ds with
  | nil => obtain ⟨as, r⟩ := x; cases r; rfl
  | cons v vs ih => cases ds with
    | nil => obtain ⟨as, r⟩ := x; cases r
    | cons d ds => rw [List.length_cons, List.length_cons, ih x.uncons.2]
theorem all.append {ds es : List PyData} {vs ws : List Value} {g : Heap} (x : all ds vs g) (y : all es ws g) : all (ds ++ es) (vs ++ ws) g := by
  induction vs generalizing ds with
  | nil => obtain ⟨as, r⟩ := x; cases r; exact y
  | cons v vs ih => cases ds with
    | nil => obtain ⟨as, r⟩ := x; cases r
    | cons d ds => exact all.cons x.uncons.1 (ih x.uncons.2)
theorem all.get {ds : List PyData} {vs : List Value} {g : Heap} (x : all ds vs g) {i : Nat} {d : PyData} (e : ds[i]? = some d) : ∃ v, vs[i]? = some v ∧ (dat d) v g := by
  induction vs generalizing ds i with
  | nil => obtain ⟨as, r⟩ := x; cases r; simp at e
  | cons v vs ih => cases ds with
    | nil => obtain ⟨as, r⟩ := x; cases r
    | cons d' ds => cases i with
      | zero => simp at e; subst e; exact ⟨v, rfl, x.uncons.1⟩
      | succ i => simp at e; exact ih x.uncons.2 e
theorem all.of_get {ds : List PyData} {vs : List Value} {g : Heap} (hl : vs.length = ds.length) (x : ∀ (i : Nat) (v : Value) (d : PyData), vs[i]? = some v → ds[i]? = some d → (dat d) v g) : all ds vs g := by
  induction vs generalizing ds with
  | nil => cases ds with
    | nil => exact .nil
    | cons => simp at hl
  | cons v vs ih => cases ds with
    | nil => simp at hl
    | cons d ds => exact all.cons (x 0 v d rfl rfl) (ih (by simpa using hl) fun i v' d' e1 e2 => x (i + 1) v' d' e1 e2)
theorem all.split {ds es : List PyData} {vs : List Value} {g : Heap} (x : all (ds ++ es) vs g) : ∃ v1 v2, vs = v1 ++ v2 ∧ all ds v1 g ∧ all es v2 g := by
  induction ds generalizing vs with
  | nil => exact ⟨[], vs, rfl, .nil, x⟩
  | cons d ds ih => cases vs with
    | nil => obtain ⟨as, r⟩ := x; cases r
    | cons v vs =>
      obtain ⟨v1, v2, rfl, y, z⟩ := ih x.uncons.2
      exact ⟨v :: v1, v2, rfl, all.cons x.uncons.1 y, z⟩
theorem plist_in {a : Addr} {o : Obj} {vs : Array Value} {n : Nat} {ds : List PyData} {g : Heap} (e : g.get? a = some o) (c : o.cls = .type "list") (d : o.data = .seq vs n) (x : all ds vs.toList g) : (plist ds) (.ref a) g := let ⟨_, r⟩ := x; ⟨_, .list e c d r⟩
theorem ptup_in {a : Addr} {o : Obj} {vs : Array Value} {n : Nat} {ds : List PyData} {g : Heap} (e : g.get? a = some o) (c : o.cls = .type "tuple") (d : o.data = .seq vs n) (x : all ds vs.toList g) : (ptup ds) (.ref a) g := let ⟨_, r⟩ := x; ⟨_, .tuple e c d r⟩
theorem plist_out {v : Value} {ds : List PyData} {g : Heap} (x : (plist ds) v g) : ∃ a vs, v = .ref a ∧ g.IsList a vs.toArray ∧ all ds vs g := by
  obtain ⟨a, o, vs, n, as, rfl, e, c, d, r⟩ := dat_list x
  exact ⟨a, vs.toList, rfl, ⟨o, e, c, n, by simpa using d⟩, as, r⟩
theorem ptup_out {v : Value} {ds : List PyData} {g : Heap} (x : (ptup ds) v g) : ∃ a vs, v = .ref a ∧ IsTup g a vs.toArray ∧ all ds vs g := by
  obtain ⟨a, o, vs, n, as, rfl, e, c, d, r⟩ := dat_tuple x
  exact ⟨a, vs.toList, rfl, ⟨o, e, c, n, by simpa using d⟩, as, r⟩

section
variable {prog : Program} {w : World} {A : Around} {F : List Addr} {B : Heap} {S : List Addr} {h : Heap} {env : Env}

/-! ## arguments -/
theorem sp_nil : Do prog w A F B S h (spliced []) (fun vs _ => vs = []) := fun s Q E o l k => spliced_nil (k _ _ .refl rfl)
theorem sp_cons {t : Sem Value} {rest : List (Bool × Sem Value)} {P : Pd} {R : Vs} (x : Do prog w A F B S h t P.p) (y : ∀ h', Le F B h h' → Ok A F B S h' → Do prog w A F B S h' (spliced rest) R) :
    Do prog w A F B S h (spliced ((false, t) :: rest)) (fun vs g => ∃ v vs', vs = v :: vs' ∧ P v g ∧ R vs' g) := fun s Q E o l k => by
  refine spliced_cons (x s _ E o l fun v s1 g1 q1 => ?_)
  have o1 := o.le g1.le
  exact y s1.heap (l.trans g1.le) o1 s1 _ E o1 .refl fun vs s2 g2 q2 => k _ s2 (g1.trans g2) ⟨v, vs, rfl, P.mono (o1.fz g2.le) q1, q2⟩
theorem sp_one {t : Sem Value} {P : Pd} (x : Do prog w A F B S h t P.p) : Do prog w A F B S h (spliced [(false, t)]) (fun vs g => ∃ v, vs = [v] ∧ P v g) :=
  (sp_cons x fun _ _ _ => sp_nil).mono fun vs g ⟨v, vs', e, p, e'⟩ => ⟨v, by rw [e, e'], p⟩
theorem sp_two {t u : Sem Value} {P R : Pd} (x : Do prog w A F B S h t P.p) (y : Do prog w A F B S h u R.p) : Do prog w A F B S h (spliced [(false, t), (false, u)]) (fun vs g => ∃ v v', vs = [v, v'] ∧ P v g ∧ R v' g) :=
  (sp_cons x fun _ l _ => sp_one (y.up l)).mono fun vs g ⟨v, vs', e, p, v', e', q⟩ => ⟨v, v', by rw [e, e'], p, q⟩
/-- a display's items, each a datum -/
theorem sp_dats_nil : Do prog w A F B S h (spliced []) (all []) := sp_nil.mono fun vs g e => by rw [e]; exact .nil
theorem sp_dats_cons {t : Sem Value} {rest : List (Bool × Sem Value)} {d : PyData} {ds : List PyData} (x : Do prog w A F B S h t (dat d).p) (y : Do prog w A F B S h (spliced rest) (all ds)) :
    Do prog w A F B S h (spliced ((false, t) :: rest)) (all (d :: ds)) := (sp_cons x fun _ l _ => y.up l).mono fun vs g ⟨v, vs', e, p, q⟩ => by rw [e]; exact .cons p q

theorem do_evalArgs {f : Value} {l : List (Bool × Sem Value)} {R : Vs} (hl : ∀ x, l ≠ [(true, x)]) (x : Do prog w A F B S h (spliced l) R) :
    Do prog w A F B S h (evalArgs f true l []) (fun a g => a.kw = [] ∧ R a.pos g) := fun s Q E o lh k => by
  have key : wpAny (model prog w) A (spliced l) (fun vs s' => Q ⟨vs, []⟩ s') E s := x s _ E o lh fun vs s' g q => k _ s' g ⟨rfl, q⟩
  cases l with
  | nil => 
    unfold evalArgs
    show wpAny _ A (spliced [] >>= _) Q E s
    refine wpAny_bind (wpAny_mono key (fun vs s' h' => ?_) fun _ _ x => x)
    refine wpAny_holding ?_
    exact wpAny_bind (wpAny_pure (wpAny_bind (wpAny_pure (wpAny_pure h'))))
  | cons p r =>
    obtain ⟨b, t⟩ := p
    cases b with
    | false => exact evalArgs_plain key
    | true => cases r with
      | nil => exact absurd rfl (hl t)
      | cons q r =>
        unfold evalArgs
        show wpAny _ A (spliced ((true, t) :: q :: r) >>= _) Q E s
        refine wpAny_bind (wpAny_mono key (fun vs s' h' => ?_) fun _ _ x => x)
        refine wpAny_holding ?_
        exact wpAny_bind (wpAny_pure (wpAny_bind (wpAny_pure (wpAny_pure h'))))

def Kp (prog : Program) (w : World) (B : Heap) (f : Value) : Prop := ∃ k, (k = Keeper.frame ∨ k = Keeper.machine) ∧ ∀ A s (Q : Keeper → Shared → Prop) (E : Value → Shared → Prop), B.StaysIn s.heap → Q k s → wpAny (model prog w) A (keeperOf f) Q E s
theorem kp_builtin {id : String} : Kp prog w B (.builtin id) := ⟨_, .inr rfl, fun _ _ _ _ _ q => wpAny_pure q⟩
theorem kp_type {id : String} : Kp prog w B (.type id) := ⟨_, .inr rfl, fun _ _ _ _ _ q => wpAny_pure q⟩
theorem kp_func {a : Addr} {o : Obj} {fd : FuncData} (e : B.get? a = some o) (hd : o.data = .func fd) : Kp prog w B (.ref a) := ⟨.frame, .inl rfl, fun A s Q E b q => by
  unfold keeperOf
  refine wpAny_bind (wpAny_load (b _ _ e) ?_)
  rw [hd]
  exact wpAny_pure q⟩

theorem do_callWith {pos : Pos} {f : Value} {first : List Value} {l : List (Bool × Sem Value)} {kws : List (Option Str × Sem Value)} {PA : Args → Heap → Prop} {P : Value → Heap → Prop} (K : Kp prog w B f) (x : Do prog w A F B S h (evalArgs f true l kws) PA)
    (z : ∀ a h', Le F B h h' → Ok A F B S h' → PA a (fz S h') → Do prog w A F B S h' (call f (first ++ a.pos) a.kw) P) : Do prog w A F B S h (callWith pos f first l kws) P := fun s Q E o lh k => by
  unfold callWith
  refine wpAny_bind (wpAny_holding (x s _ E o lh fun a s1 g1 q1 => wpAny_bind (wpAny_standAt ?_)))
  have o1 := o.le g1.le
  obtain ⟨kk, hk, hK⟩ := K
  refine wpAny_bind (m := keeperOf f) (hK A s1 _ E o1.bh ?_)
  have c := z a s1.heap (lh.trans g1.le) o1 q1 s1 Q E o1 .refl fun v s2 g2 q2 => k v s2 (g1.trans g2) q2
  have tail : ∀ {t : Sem Value}, wpAny (model prog w) A t Q E s1 → wpAny (model prog w) A (t >>= fun r => PySem.holding [r] point >>= fun _ => pure r) Q E s1 :=
    fun ht => wpAny_bind (wpAny_mono ht (fun r s₂ hr => wpAny_bind (wpAny_holding (wpAny_point (wpAny_pure hr)))) fun _ _ x => x)
  have marked (mk : Value) : wpAny (model prog w) A (callMarked mk f (first ++ a.pos) a.kw) Q E s1 := by unfold callMarked; exact wpAny_keep c
  have oper (vs : List Value) : wpAny (model prog w) A (PySem.operate vs (call f (first ++ a.pos) a.kw)) Q E s1 := by
    unfold PySem.operate
    exact wpAny_bind (wpAny_holding (wpAny_mono c (fun r s2 hr => wpAny_bind (wpAny_release' (wpAny_pure hr))) fun _ _ x => x))
  rcases hk with rfl | rfl <;> cases hs : (l.any (·.1) || kws.any (·.1.isNone)) <;> dsimp only
  · split
    · exact tail c
    · exact tail (marked _)
  · exact tail (marked _)
  · exact tail c
  · exact tail (oper _)

/-- a call of a name's value, plain arguments -/
theorem ev_call {fe : Expr} {es : List Expr} {pos : Pos} {f : Value} {l : List (Bool × Sem Value)} {R : Vs} {P : Pd} (x : Ev prog w A F B S h env fe (isv f)) (K : Kp prog w B f) (y : Do prog w A F B S h (spliced l) R)
    (z : ∀ vs h', Le F B h h' → Ok A F B S h' → R vs (fz S h') → Do prog w A F B S h' (call f vs []) P.p)
    (hl : backTo pos (starEach es env) = l := by rfl) (hl' : ∀ x, l ≠ [(true, x)] := by intro _ e; cases e)
    (he : eval (.Call fe es [] pos) env = (do callWith pos (← eval fe env) [] (backTo pos (starEach es env)) []) := by rfl) : Ev prog w A F B S h env (.Call fe es [] pos) P := by
  show Do _ _ _ _ _ _ _ (eval (.Call fe es [] pos) env) _
  rw [he, hl]
  refine x.bind fun v h1 l1 o1 q1 => ?_
  obtain rfl : v = f := q1
  exact do_callWith K (do_evalArgs hl' (y.up l1)) fun a h2 l2 o2 q2 => by
    obtain ⟨e, q⟩ := q2
    rw [e]
    exact z a.pos h2 (l1.trans l2) o2 q
theorem ev_call1 {fe e1 : Expr} {pos : Pos} {f : Value} {P1 P : Pd} (x : Ev prog w A F B S h env fe (isv f)) (K : Kp prog w B f) (y : Ev prog w A F B S h env e1 P1)
    (z : ∀ v h', Le F B h h' → Ok A F B S h' → P1 v (fz S h') → Do prog w A F B S h' (call f [v] []) P.p)
    (hl : backTo pos (starEach [e1] env) = [(false, eval e1 env)] := by rfl) 
    (he : eval (.Call fe [e1] [] pos) env = (do callWith pos (← eval fe env) [] (backTo pos (starEach [e1] env)) []) := by rfl) : Ev prog w A F B S h env (.Call fe [e1] [] pos) P :=
  ev_call x K (sp_one y) (fun vs h' l o ⟨v, e, p⟩ => by rw [e]; exact z v h' l o p) hl (fun _ e => by cases e) he
theorem ev_call2 {fe e1 e2 : Expr} {pos : Pos} {f : Value} {P1 P2 P : Pd} (x : Ev prog w A F B S h env fe (isv f)) (K : Kp prog w B f) (y : Ev prog w A F B S h env e1 P1) (y2 : Ev prog w A F B S h env e2 P2)
    (z : ∀ v u h', Le F B h h' → Ok A F B S h' → P1 v (fz S h') → P2 u (fz S h') → Do prog w A F B S h' (call f [v, u] []) P.p)
    (hl : backTo pos (starEach [e1, e2] env) = [(false, eval e1 env), (false, eval e2 env)] := by rfl) 
    (he : eval (.Call fe [e1, e2] [] pos) env = (do callWith pos (← eval fe env) [] (backTo pos (starEach [e1, e2] env)) []) := by rfl) : Ev prog w A F B S h env (.Call fe [e1, e2] [] pos) P :=
  ev_call x K (sp_two y y2) (fun vs h' l o ⟨v, u, e, p, q⟩ => by rw [e]; exact z v u h' l o p q) hl (fun _ e => by cases e) he

/-! ## methods -/
theorem ev_meth {o : Expr} {name : Str} {apos pos : Pos} {es : List Expr} {pl : Sem Bool} {id : String} {P1 P : Pd} {R : Vs} {l : List (Bool × Sem Value)} (x : Ev prog w A F B S h env o P1)
    (gm : ∀ ov s' (Q : Value × List Value → Shared → Prop) (E : Value → Shared → Prop), Ok A F B S s'.heap → Le F B h s'.heap → P1 ov (fz S s'.heap) → Q (.builtin id, [ov]) s' → wpAny (model prog w) A (getMethod ov name pl) Q E s')
    (y : Do prog w A F B S h (spliced l) R)
    (z : ∀ ov vs h', Le F B h h' → Ok A F B S h' → P1 ov (fz S h') → R vs (fz S h') → Do prog w A F B S h' (call (.builtin id) (ov :: vs) []) P.p)
    (hl : backTo pos (starEach es env) = l := by rfl) (hl' : ∀ x, l ≠ [(true, x)] := by intro _ e; cases e)
    (he : eval (.Call (.Attribute o name apos) es [] pos) env = (do
      let ov ← eval o env
      standAt apos.atName
      let (f, first) ← PySem.holding [ov] (getMethod ov name pl)
      callWith pos f first (backTo pos (starEach es env)) []) := by rfl) : Ev prog w A F B S h env (.Call (.Attribute o name apos) es [] pos) P := by
  show Do _ _ _ _ _ _ _ (eval _ env) _
  rw [he, hl]
  refine x.bind fun ov h1 l1 o1 q1 => Do.stand ?_
  refine Do.bind (P := fun fx _ => fx = (.builtin id, [ov])) (fun s Q E o l k => wpAny_holding (gm ov s Q E o (l1.trans l) (P1.mono (o1.fz l) q1) (k _ s .refl rfl))) fun fx h2 l2 o2 q2 => ?_
  subst q2
  exact do_callWith kp_builtin (do_evalArgs hl' (y.up (l1.trans l2))) fun a h3 l3 o3 q3 => by
    obtain ⟨e, q⟩ := q3
    rw [e]
    exact z ov a.pos h3 ((l1.trans l2).trans l3) o3 (P1.mono (o1.fz (l2.trans l3)) q1) q
theorem ev_meth0 {o : Expr} {name : Str} {apos pos : Pos} {pl : Sem Bool} {id : String} {P1 P : Pd} (x : Ev prog w A F B S h env o P1)
    (gm : ∀ ov s' (Q : Value × List Value → Shared → Prop) (E : Value → Shared → Prop), Ok A F B S s'.heap → Le F B h s'.heap → P1 ov (fz S s'.heap) → Q (.builtin id, [ov]) s' → wpAny (model prog w) A (getMethod ov name pl) Q E s')
    (z : ∀ ov h', Le F B h h' → Ok A F B S h' → P1 ov (fz S h') → Do prog w A F B S h' (call (.builtin id) [ov] []) P.p)
    (he : eval (.Call (.Attribute o name apos) [] [] pos) env = (do
      let ov ← eval o env
      standAt apos.atName
      let (f, first) ← PySem.holding [ov] (getMethod ov name pl)
      callWith pos f first (backTo pos (starEach [] env)) []) := by rfl) : Ev prog w A F B S h env (.Call (.Attribute o name apos) [] [] pos) P :=
  ev_meth (R := fun vs _ => vs = []) x gm sp_nil (fun ov vs h' l o q e => by rw [e]; exact z ov h' l o q) rfl (fun _ e => by cases e) he
theorem ev_meth1 {o e1 : Expr} {name : Str} {apos pos : Pos} {pl : Sem Bool} {id : String} {P1 P2 P : Pd} (x : Ev prog w A F B S h env o P1)
    (gm : ∀ ov s' (Q : Value × List Value → Shared → Prop) (E : Value → Shared → Prop), Ok A F B S s'.heap → Le F B h s'.heap → P1 ov (fz S s'.heap) → Q (.builtin id, [ov]) s' → wpAny (model prog w) A (getMethod ov name pl) Q E s')
    (y : Ev prog w A F B S h env e1 P2)
    (z : ∀ ov v h', Le F B h h' → Ok A F B S h' → P1 ov (fz S h') → P2 v (fz S h') → Do prog w A F B S h' (call (.builtin id) [ov, v] []) P.p)
    (hl : backTo pos (starEach [e1] env) = [(false, eval e1 env)] := by rfl)
    (he : eval (.Call (.Attribute o name apos) [e1] [] pos) env = (do
      let ov ← eval o env
      standAt apos.atName
      let (f, first) ← PySem.holding [ov] (getMethod ov name pl)
      callWith pos f first (backTo pos (starEach [e1] env)) []) := by rfl) : Ev prog w A F B S h env (.Call (.Attribute o name apos) [e1] [] pos) P :=
  ev_meth x gm (sp_one y) (fun ov vs h' l o q ⟨v, e, p⟩ => by rw [e]; exact z ov v h' l o q p) hl (fun _ e => by cases e) he
theorem ev_meth2 {o e1 e2 : Expr} {name : Str} {apos pos : Pos} {pl : Sem Bool} {id : String} {P1 P2 P3 P : Pd} (x : Ev prog w A F B S h env o P1)
    (gm : ∀ ov s' (Q : Value × List Value → Shared → Prop) (E : Value → Shared → Prop), Ok A F B S s'.heap → Le F B h s'.heap → P1 ov (fz S s'.heap) → Q (.builtin id, [ov]) s' → wpAny (model prog w) A (getMethod ov name pl) Q E s')
    (y : Ev prog w A F B S h env e1 P2) (y2 : Ev prog w A F B S h env e2 P3)
    (z : ∀ ov v u h', Le F B h h' → Ok A F B S h' → P1 ov (fz S h') → P2 v (fz S h') → P3 u (fz S h') → Do prog w A F B S h' (call (.builtin id) [ov, v, u] []) P.p)
    (hl : backTo pos (starEach [e1, e2] env) = [(false, eval e1 env), (false, eval e2 env)] := by rfl)
    (he : eval (.Call (.Attribute o name apos) [e1, e2] [] pos) env = (do
      let ov ← eval o env
      standAt apos.atName
      let (f, first) ← PySem.holding [ov] (getMethod ov name pl)
      callWith pos f first (backTo pos (starEach [e1, e2] env)) []) := by rfl) : Ev prog w A F B S h env (.Call (.Attribute o name apos) [e1, e2] [] pos) P :=
  ev_meth x gm (sp_two y y2) (fun ov vs h' l o q ⟨v, u, e, p, p2⟩ => by rw [e]; exact z ov v u h' l o q p p2) hl (fun _ e => by cases e) he

/-! ## displays -/
theorem do_newObj {T : String} {vs : List Value} {ds : List PyData} {P : Pd} (hsz : vs.length ≤ sizeLine) (x : all ds vs (fz S h))
    (hP : ∀ a o g, g.get? a = some o → o.cls = .type T → o.data = .seq vs.toArray 0 → all ds vs g → P (.ref a) g) : Do prog w A F B S h (newObj (.type T) (.seq vs.toArray)) P.p := fun s Q E o l k => by
  refine wpAny_newObj_type ?_ (by show vs.toArray.size ≤ sizeLine; rw [List.size_toArray]; exact hsz)
  have st : (fz S h).StaysIn (fz S s.heap) := fz_le l o.fs fun _ m => .inl m
  have st2 : (fz S s.heap).StaysIn (fz S (s.heap.push { cls := .type T, dict := none, data := .seq vs.toArray })) := fz_le (Le.push (F := F) (B := B) _) o.fs fun _ m => .inl m
  refine k _ _ ⟨_, s.toks, rfl, .push _⟩ (hP _ _ _ (fz_get (Heap.get?_push_size _ rfl) o.size) rfl rfl (x.mono fun b o e => st2 b o (st b o e)))
theorem ev_list {es : List Expr} {pos : Pos} {ds : List PyData} {l : List (Bool × Sem Value)} (y : Do prog w A F B S h (spliced l) (all ds)) (hsz : ds.length ≤ sizeLine) (hl : backTo pos (starEach es env) = l := by rfl) : Ev prog w A F B S h env (.List es pos) (plist ds) := by
  show Do _ _ _ _ _ _ _ (do standAt pos; newList (← spliced (backTo pos (starEach es env)))) _
  rw [hl]
  refine Do.stand (y.bind fun vs h1 l1 o1 q1 => ?_)
  exact do_newObj (by rw [q1.length]; exact hsz) q1 fun a o g e c d x => plist_in e c d (by simpa using x)
theorem ev_tuple {es : List Expr} {k : Nat} {pos : Pos} {ds : List PyData} {l : List (Bool × Sem Value)} (y : Do prog w A F B S h (spliced l) (all ds)) (hsz : ds.length ≤ sizeLine) (hl : backTo pos (starEach es env) = l := by rfl) : Ev prog w A F B S h env (.Tuple es k pos) (ptup ds) := by
  show Do _ _ _ _ _ _ _ (do standAt pos; newTuple (← spliced (backTo pos (starEach es env)))) _
  rw [hl]
  refine Do.stand (y.bind fun vs h1 l1 o1 q1 => ?_)
  exact do_newObj (by rw [q1.length]; exact hsz) q1 fun a o g e c d x => ptup_in e c d (by simpa using x)

/-! ## subscripts -/
theorem ev_sub {value slice : Expr} {pos : Pos} {P1 P2 P : Pd} {T id : String} (x : Ev prog w A F B S h env value P1) (y : Ev prog w A F B S h env slice P2)
    (hT : ∀ a (s' : Shared), Ok A F B S s'.heap → P1 a (fz S s'.heap) → s'.TypeIs a T) (hl : typeLookup (.type T) "__getitem__" = pure (some (.builtin id)))
    (z : ∀ a i h', Le F B h h' → Ok A F B S h' → P1 a (fz S h') → P2 i (fz S h') → Do prog w A F B S h' (getItem a i) P.p)
    (hs : ∀ o i, ∃ ops, subscripted slice false o i = PySem.operate ops (getItem o i) := by intro o i; exact ⟨_, rfl⟩) : Ev prog w A F B S h env (.Subscript value slice pos) P := fun s Q E o l k => by
  refine Subscript_ (x s _ E o l fun a s1 g1 q1 => ?_)
  have o1 := o.le g1.le
  refine y s1 _ E o1 (l.trans g1.le) fun i s2 g2 q2 => ?_
  have o2 := o1.le g2.le
  have q1' := P1.mono (o1.fz g2.le) q1
  obtain ⟨ops, e⟩ := hs a i
  exact tail_any (hT a s2 o2 q1') hl (z a i s2.heap (l.trans (g1.le.trans g2.le)) o2 q1' q2 s2 Q E o2 .refl fun v s3 g3 q3 => k v s3 (g1.trans (g2.trans g3)) q3) e

def psl (l u st : Option Int) : Pd := ⟨fun v g => ∃ a l' u' st', v = .ref a ∧ g.IsSlice a l' u' st' ∧ l'.map (·.1) = l ∧ u'.map (·.1) = u ∧ st'.map (·.1) = st,
  fun k ⟨a, l', u', st', e, ⟨o, ho, r⟩, q⟩ => ⟨a, l', u', st', e, ⟨o, k _ _ ho, r⟩, q⟩⟩
/-- a part of a slice -/
def part (i : Option Int) : Pd := ⟨fun v _ => ∃ p : Option (Int × Tok), v = partValue p ∧ p.map (·.1) = i, fun _ e => e⟩
theorem part_none : Do prog w A F B S h (valueOrNone (evalOpt none env)) (part none).p := fun s Q E o l k => wpAny_pure (k _ s .refl ⟨none, rfl, rfl⟩)
theorem part_some {e : Expr} {i : Int} (x : Ev prog w A F B S h env e (pint i)) : Do prog w A F B S h (valueOrNone (evalOpt (some e) env)) (part (some i)).p := by
  show Do _ _ _ _ _ _ _ (eval e env) _
  exact Do.mono x fun v g q => by obtain ⟨t, rfl⟩ := dat_int q; exact ⟨some (i, t), rfl, rfl⟩
theorem ev_slice {lo up st : Option Expr} {pos : Pos} {l u s : Option Int} (x : Do prog w A F B S h (valueOrNone (evalOpt lo env)) (part l).p) (y : Do prog w A F B S h (valueOrNone (evalOpt up env)) (part u).p) (z : Do prog w A F B S h (valueOrNone (evalOpt st env)) (part s).p) :
    Ev prog w A F B S h env (.Slice lo up st pos) (psl l u s) := by
  show Do _ _ _ _ _ _ _ (do
    let l ← valueOrNone (evalOpt lo env)
    let u ← PySem.holding [l] (valueOrNone (evalOpt up env))
    let s ← PySem.holding [l, u] (valueOrNone (evalOpt st env))
    newFields "slice" [l, u, s]) _
  refine x.bind fun a h1 l1 o1 q1 => (y.up l1).holding.bind fun b h2 l2 o2 q2 => (z.up (l1.trans l2)).holding.bind fun c h3 l3 o3 q3 => ?_
  obtain ⟨p1, rfl, e1⟩ := q1
  obtain ⟨p2, rfl, e2⟩ := q2
  obtain ⟨p3, rfl, e3⟩ := q3
  intro s Q E o l k
  unfold newFields
  refine wpAny_newObj_type (hd := by size_fits) ?_
  exact k _ _ ⟨_, s.toks, rfl, .push _⟩ ⟨_, p1, p2, p3, rfl, ⟨_, fz_get (Heap.get?_push_size _ rfl) o.size, rfl, rfl⟩, e1, e2, e3⟩
end
end Mine

/-! ### Base4 -/
namespace Mine
open PySem PySem.W PySem.Calls PyProof.Rows

theorem Le.step {F : List Addr} {B g h h' : Heap} (hB : B.StaysIn g) (x : Le F B g h) (k : ∀ b o, (∃ o1, g.get? b = some o1) → h.get? b = some o → h'.get? b = some o) : Le F B g h' :=
  ⟨fun _ b o e => k b o ⟨o, hB b o e⟩ (x.base hB b o e), fun a o e n => k a o ⟨o, e⟩ (x.keep a o e n), fun a o e => by
    obtain ⟨o1, e1, d1⟩ := x.data a o e
    exact ⟨o1, k a o1 ⟨o, e⟩ e1, d1⟩⟩

/-- iterating: what «t» gives is an iterator over n things -/
def Itr (prog : Program) (w : World) (A : Around) (F : List Addr) (B : Heap) (S : List Addr) (h : Heap) (target : Expr) (t : Sem Value) (n : Nat) (item : Nat → Value → Heap → Heap → Prop) : Prop :=
  ∀ s (Q : Value → Shared → Prop) (E : Value → Shared → Prop), Ok A F B S s.heap → Le F B h s.heap →
    (∀ I fp wr P Md St h' tk, KTurns prog w A target I fp wr n P Md St → St 0 h' → Le F B s.heap h' → (∀ b ∈ wr, s.heap.get? b = none) → (∀ b ∈ fp, b ∉ S) → (∀ b ∈ wr, b ∈ fp) → (∀ i g, St i g → ∀ b ∈ fp, ∃ o, g.get? b = some o) →
      (∀ s' (Q' : Value → Shared → Prop) (E' : Value → Shared → Prop), St 0 s'.heap → Q' (.ref I) s' → wpAny (model prog w) A (pyIter (.ref I)) Q' E' s') →
      (∀ i v h'' S'', i < n → P i v h'' → (fz (wr ++ S) h').StaysIn (fz S'' h'') → item i v (fz S'' h'') h'') → Q (.ref I) { s with heap := h', toks := tk }) → wpAny (model prog w) A t (fun x s₁ => wpAny (model prog w) A (pyIter x) Q E s₁) E s

section
variable {prog : Program} {w : World} {A : Around} {R : Result → Shared → Prop} {s : Shared}
/-- the turns of a comprehension; nothing raises -/
theorem comp_turns {elt target iter : Expr} {ifs : List Expr} {scope : Scope} {pos : Pos} {it acc : Value} {env : Env} (I : Nat → Shared → Prop)
    (turn : ∀ n s, I n s → ∀ E, wpAny (model prog w) A (pyNext it) (fun r s₁ => match r with
      | none => R (.ok .next) s₁
      | some v => wpAny (model prog w) A (letOwnedTupleGo target it v) (fun _ s₁ => wpAny (model prog w) A (assign target env v) (fun _ s₂ =>
          wpAny (model prog w) A (forIn ifs true fun c r => if r = true then do let ok ← isTrue c env (eval c env); pure (ForInStep.yield ok) else pure (ForInStep.yield r)) (fun ok s₃ =>
            if ok = true then wpAny (model prog w) A (eval elt env) (fun x s₄ =>
              wpAny (model prog w) A (call (.builtin "list.append") [acc, x]) (fun _ s₅ => ∃ m, m < n ∧ I m s₅) E s₄) E s₃
            else ∃ m, m < n ∧ I m s₃) E s₂) E s₁) E s₁) E s)
    (n : Nat) (h : I n s) :
    codeAny (model prog w) A (.compLoop (.ListComp elt [⟨target, iter, ifs, 0⟩] scope pos) 0 it acc env) R s := by
  refine codeAny_loop rfl I (fun n s hI => ?_) n h
  show wpAny _ A ((compTurn (.ListComp elt [⟨target, iter, ifs, 0⟩] scope pos) 0 it acc env).onRaise (fun x => do noteFrame x env; theTreesLotGoes x)) _ _ s
  refine wpAny_noted ?_
  rw [compTurn_list]
  refine wpAny_bind (wpAny_standAt (wpAny_bind (wpAny_mono (turn n s hI _) (fun r s₁ h₁ => ?_) fun _ _ h' => h')))
  cases r with
  | none => exact wpAny_pure h₁
  | some v =>
    refine wpAny_bind (wpAny_mono h₁ (fun _ s₁ h₁ => ?_) fun _ _ h' => h')
    refine wpAny_bind (wpAny_mono h₁ (fun _ s₂ h₂ => wpAny_bind (wpAny_mono h₂ (fun ok s₃ h₃ => ?_) fun _ _ h' => h')) fun _ _ h' => h')
    cases ok with
    | false => exact wpAny_pure ⟨rfl, h₃⟩
    | true =>
      exact wpAny_bind (wpAny_bind (wpAny_mono h₃ (fun x s₄ h₄ => wpAny_bind (wpAny_mono h₄ (fun _ s₅ h₅ => wpAny_pure (wpAny_pure ⟨rfl, h₅⟩)) fun _ _ h' => h')) fun _ _ h' => h'))
end

/-- what a turn of a comprehension finds -/
structure Tn (A : Around) (F : List Addr) (B : Heap) (S : List Addr) (h : Heap) (S' : List Addr) (h' : Heap) (C : Addr) (vp : (Str → Option Value) → Heap → Prop) : Prop where
  le : Le F B h h'
  ok : Ok A F B S' h'
  st : (fz S h).StaysIn (fz S' h')
  ns : ∃ m, h'.Ns C m ∧ vp m (fz S' h')

abbrev tests (ifs : List Expr) (env : Env) : Sem Bool := forIn ifs true fun c r => if r = true then do let ok ← isTrue c env (eval c env); pure (ForInStep.yield ok) else pure (ForInStep.yield r)

theorem do_tests_nil {prog : Program} {w : World} {A : Around} {F : List Addr} {B : Heap} {S : List Addr} {h : Heap} {env : Env} : Do prog w A F B S h (tests [] env) (fun ok _ => ok = true) := fun s Q E o l k => wpAny_tests_nil (k _ s .refl rfl)
theorem do_tests_one {prog : Program} {w : World} {A : Around} {F : List Addr} {B : Heap} {S : List Addr} {h : Heap} {env : Env} {c : Expr} {b : Bool} (x : Tr prog w A F B S h env c b) : Do prog w A F B S h (tests [c] env) (fun ok _ => ok = b) := fun s Q E o l k => wpAny_tests_one (x s Q E o l k)

/-- the outs of the first i turns -/
def outs (keep : Nat → Bool) (out : Nat → PyData) (i : Nat) : List PyData := ((List.range i).filter keep).map out
theorem outs_succ (keep : Nat → Bool) (out : Nat → PyData) (i : Nat) : outs keep out (i + 1) = outs keep out i ++ (if keep i then [out i] else []) := by
  unfold outs
  rw [List.range_succ, List.filter_append, List.map_append]
  cases h : keep i <;> simp [h]
theorem outs_length (keep : Nat → Bool) (out : Nat → PyData) (i : Nat) : (outs keep out i).length ≤ i := by
  unfold outs
  rw [List.length_map]
  exact Nat.le_trans (List.length_filter_le _ _) (by simp)

section
variable {prog : Program} {w : World} {A : Around} {F : List Addr} {B : Heap} {S : List Addr} {h : Heap} {env : Env}

def Asg (prog : Program) (w : World) (A : Around) (target : Expr) (cenv : Addr → Env) (item : Value → Heap → Heap → Prop) (vp : (Str → Option Value) → Heap → Prop) : Prop :=
  ∀ C v g (s : Shared) m (Q : Unit → Shared → Prop) (E : Value → Shared → Prop), item v g s.heap → g.StaysIn s.heap → g.get? C = none → s.heap.Ns C m →
    (∀ h' m' tk, h'.Ns C m' → vp m' g → (∀ b o, b ≠ C → s.heap.get? b = some o → h'.get? b = some o) → Q () { s with heap := h', toks := tk }) → wpAny (model prog w) A (assign target (cenv C) v) Q E s

theorem comp_core {elt target iter : Expr} {ifs : List Expr} {scope : Scope} {pos : Pos} {cl : List (Str × Addr)} {n : Nat} {item : Nat → Value → Heap → Heap → Prop} {vp : Nat → (Str → Option Value) → Heap → Prop}
    (keep : Nat → Bool) (out : Nat → PyData) {t : Sem Value}
    (hcell : ∀ y ∈ scope.names, y.2 ≠ .cell) (hkind : scope.kind = .function) (hsz : n ≤ sizeLine)
    (hit : Itr prog w A F B S h target t n item) (hasg : ∀ i, i < n → Asg prog w A target (fun C => compEnvC scope cl C env) (item i) (vp i))
    (htest : ∀ i S' h' C, i < n → Tn A F B S h S' h' C (vp i) → Do prog w A F B S' h' (tests ifs (compEnvC scope cl C env)) (fun ok _ => ok = keep i))
    (helt : ∀ i S' h' C, i < n → keep i = true → Tn A F B S h S' h' C (vp i) → Ev prog w A F B S' h' (compEnvC scope cl C env) elt (dat (out i)))
    (hvp : ∀ i m g g', g.StaysIn g' → vp i m g → vp i m g')
    {s : Shared} (o₀ : Ok A F B S s.heap) (l₀ : Le F B h s.heap) (RR : Value → Addr → Result → Shared → Prop) (E : Value → Shared → Prop)
    (hRR : ∀ D C h' tk m', s.heap.get? D = none → s.heap.get? C = none → D ≠ C → h'.Ns C m' → Le F B s.heap h' → (plist (outs keep out n)) (.ref D) (fz (C :: S) h') → RR (.ref D) C (.ok .next) { s with heap := h', toks := tk }) :
    wpAny (model prog w) A t (fun x s₁ => wpAny (model prog w) A (pyIter x) (fun it s₂ => wpAny (model prog w) A (newList []) (fun acc s₃ => wpAny (model prog w) A (newFunctionEnv scope env.globals cl [] env.qual none .none (some env)) (fun cenv s₄ =>
      codeAny (model prog w) A (.compStart (.ListComp elt [⟨target, iter, ifs, 0⟩] scope pos) 0 it acc { cenv with scope := relabel scope env }) (RR acc cenv.locals) s₄) E s₃) E s₂) E s₁) E s := by
  refine hit s _ E o₀ l₀ fun I fp wr P Md St h₁ tk₁ W hst hl₁ hwr hfS hwf hlive hself hitem => ?_
  refine wpAny_newObj_type (wpAny_newFunctionEnv hcell (by intro y hy; simp at hy) (fun h₂ hns₂ hsb₂ => ?_) hkind)
  dsimp only at hns₂ hsb₂ ⊢
  generalize hH2 : h₁.push { cls := .type "list", dict := none, data := .seq ([] : List Value).toArray } = H2 at hns₂ hsb₂ ⊢
  have hCeq : H2.objs.size = h₁.objs.size + 1 := by rw [← hH2, Heap.size_push]
  generalize hC : H2.objs.size = C at hns₂ hsb₂ hCeq ⊢
  generalize hD : h₁.objs.size = D at hCeq ⊢
  have freshD : h₁.get? D = none := by
    cases e : h₁.get? D with
    | none => rfl
    | some o => exact absurd (Heap.lt_size e) (by rw [hD]; exact Nat.lt_irrefl _)
  have freshC : h₁.get? C = none := by
    cases e : h₁.get? C with
    | none => rfl
    | some o => exact absurd (Heap.lt_size e) (by rw [hD, hCeq]; exact Nat.not_lt.mpr (Nat.le_succ _))
  have hDC : D ≠ C := by omega
  have sD : s.heap.get? D = none := by
    cases e : s.heap.get? D with
    | none => rfl
    | some o => obtain ⟨o', e'⟩ := hl₁.alive e; rw [freshD] at e'; cases e'
  have sC : s.heap.get? C = none := by
    cases e : s.heap.get? C with
    | none => rfl
    | some o => obtain ⟨o', e'⟩ := hl₁.alive e; rw [freshC] at e'; cases e'
  have notF : ∀ b, s.heap.get? b = none → b ∉ F := fun b hb m => by
    obtain ⟨o, e⟩ := o₀.al b (o₀.fs b m)
    rw [hb] at e; cases e
  have notfp : ∀ b, h₁.get? b = none → b ∉ fp := fun b hb m => by
    obtain ⟨o, e⟩ := hlive 0 h₁ hst b m
    rw [hb] at e; cases e
  have ok₁ := o₀.le hl₁
  have hBg : B.StaysIn (fz wr h₁) := fun b o e => fz_get (ok₁.bh b o e) fun m => by
    have := o₀.bh b o e
    rw [hwr b m] at this; cases this
  have toG : Le F B s.heap (fz wr h₁) := ⟨fun _ => hBg, fun a o e n => fz_get (hl₁.keep a o e n) (fun m => by rw [hwr a m] at e; cases e), fun a o e => by
    obtain ⟨o', e', d'⟩ := hl₁.data a o e
    exact ⟨o', fz_get e' (fun m => by rw [hwr a m] at e; cases e), d'⟩⟩
  let S' := C :: D :: (wr ++ S)
  -- what holds at each heap of the loop
  have facts : ∀ h' m' ys i, Le F B (fz wr h₁) h' → St i h' → h'.Ns C m' → h'.IsList D ys → Le F B s.heap h' ∧ Ok A F B S' h' ∧ (fz S s.heap).StaysIn (fz S' h') ∧ (fz (wr ++ S) h₁).StaysIn (fz S' h') := by
    intro h' m' ys i l st hn hl
    have ls := toG.trans l
    refine ⟨ls, ⟨ls.base o₀.bh, o₀.fr.le ls, fun a m => .tail _ (.tail _ (List.mem_append_right _ (o₀.fs a m))), fun a m => ?_⟩, ?_, ?_⟩
    · rcases List.mem_cons.mp m with rfl | m
      · obtain ⟨oL, _, _, e, _⟩ := hn; exact ⟨_, e⟩
      · rcases List.mem_cons.mp m with rfl | m
        · obtain ⟨oL, e, _⟩ := hl; exact ⟨_, e⟩
        · rcases List.mem_append.mp m with m | m
          · exact hlive i h' st a (hwf a m)
          · obtain ⟨o, e⟩ := o₀.al a m; exact ls.alive e
    · refine fz_le ls o₀.fs fun a m => ?_
      rcases List.mem_cons.mp m with rfl | m
      · exact .inr sC
      · rcases List.mem_cons.mp m with rfl | m
        · exact .inr sD
        · rcases List.mem_append.mp m with m | m
          · exact .inr (hwr a m)
          · exact .inl m
    · intro b o e
      obtain ⟨e1, n1⟩ := fz_in e
      have nw : b ∉ wr := fun m => n1 (List.mem_append_left _ m)
      have nS : b ∉ S := fun m => n1 (List.mem_append_right _ m)
      refine fz_get (l.keep b o (fz_get e1 nw) fun m => nS (o₀.fs b m)) fun m => ?_
      rcases List.mem_cons.mp m with rfl | m
      · rw [freshC] at e1; cases e1
      · rcases List.mem_cons.mp m with rfl | m
        · rw [freshD] at e1; cases e1
        · exact n1 m
  have hh₂ : ∀ b o, h₁.get? b = some o → h₂.get? b = some o := fun b o e => hsb₂.extBut b o (by rintro rfl; rw [freshC] at e; cases e) (Heap.get?_push_of_some _ (hH2 ▸ Heap.get?_push_of_some _ e))
  have hacc : h₂.IsList D #[] := ⟨_, hsb₂.extBut _ _ hDC (Heap.get?_push_of_some _ (by rw [← hH2, ← hD]; exact Heap.get?_push_size _ rfl)), rfl, _, rfl⟩
  have hst₂ : St 0 h₂ := W.frame _ _ _ hst fun b _ o e => hh₂ b o e
  have lg₂ : Le F B (fz wr h₁) h₂ := Le.of_keeps fun b o e => hh₂ b o (fz_in e).1
  have loop : codeAny (model prog w) A (.compLoop (.ListComp elt [⟨target, iter, ifs, 0⟩] scope pos) 0 (.ref I) (.ref D) (compEnvC scope cl C env)) (RR (.ref D) C) { s with heap := h₂, toks := tk₁ + 0 } := by
    refine comp_turns (fun k s' => ∃ h' tk m' ys i, s' = { s with heap := h', toks := tk } ∧ St i h' ∧ h'.IsList D ys ∧ h'.Ns C m' ∧ all (outs keep out i) ys.toList (fz S' h') ∧ Le F B (fz wr h₁) h' ∧ i ≤ n ∧ k = n + 1 - i) ?_ (n + 1)
      ⟨h₂, tk₁ + 0, _, #[], 0, rfl, hst₂, hacc, hns₂, .nil, lg₂, Nat.zero_le _, rfl⟩
    rintro k s' ⟨h', tk, m', ys, i, rfl, st, hl, hn, hall, lg, hi, rfl⟩ E'
    by_cases hlt : i < n
    · refine W.item i _ _ _ hlt st fun v ha tka hMd hka => ?_
      refine W.go i v _ _ _ hMd fun hb hP stb hkb => ?_
      have Cw : C ∉ wr := fun m => notfp C freshC (hwf C m)
      have Dw : D ∉ wr := fun m => notfp D freshD (hwf D m)
      have kb : ∀ b o, b ∉ wr → h'.get? b = some o → hb.get? b = some o := fun b o nb e => hkb b o nb (hka b o nb e)
      have lgb : Le F B (fz wr h₁) hb := lg.step hBg fun b o ⟨o1, e1⟩ e => kb b o (fz_in e1).2 e
      have nsb : hb.Ns C m' := hn.at' fun o e => kb C o Cw e
      have lsb : hb.IsList D ys := by obtain ⟨o, e, r⟩ := hl; exact ⟨o, kb D o Dw e, r⟩
      obtain ⟨f1, f2, f3, f4⟩ := facts hb m' ys _ lgb stb nsb lsb
      refine hasg i hlt C v (fz S' hb) { s with heap := hb, toks := tka } m' _ _ (hitem i v hb S' hlt hP f4) fz_stays (by
        cases e : (fz S' hb).get? C with
        | none => rfl
        | some o => exact absurd (List.Mem.head _) (fz_in e).2) nsb fun hc mc tkc nsc vpc hkc => ?_
      have lgc : Le F B (fz wr h₁) hc := lgb.step hBg fun b o ⟨o1, e1⟩ e => hkc b o (by rintro rfl; have q := (fz_in e1).1; rw [freshC] at q; cases q) e
      have stc : St (i + 1) hc := W.frame _ _ _ stb fun b m o e => hkc b o (by rintro rfl; exact notfp _ freshC m) e
      have lsc : hc.IsList D ys := by obtain ⟨o, e, r⟩ := lsb; exact ⟨o, hkc D o hDC e, r⟩
      obtain ⟨g1, g2, g3, g4⟩ := facts hc mc ys _ lgc stc nsc lsc
      have stay_bc : (fz S' hb).StaysIn (fz S' hc) := fun b o e => fz_get (hkc b o (by rintro rfl; exact (fz_in e).2 (.head _)) (fz_in e).1) (fz_in e).2
      have stay_b : (fz S' h').StaysIn (fz S' hb) := fun b o e => fz_get (kb b o (fun m => (fz_in e).2 (.tail _ (.tail _ (List.mem_append_left _ m)))) (fz_in e).1) (fz_in e).2
      have tn : Tn A F B S h S' hc C (vp i) := ⟨l₀.trans g1, g2, fun b o e => g3 b o (fz_le l₀ o₀.fs (fun _ m => .inl m) b o e), mc, nsc, hvp i mc _ _ stay_bc vpc⟩
      refine htest i S' hc C hlt tn { s with heap := hc, toks := tkc } _ _ g2 .refl fun ok sd gd qd => ?_
      obtain ⟨hd, tkd, rfl, ld⟩ := gd
      dsimp only at ld qd
      subst qd
      have lgd := lgc.trans ld
      have std : St (i + 1) hd := W.frame _ _ _ stc fun b m o e => ld.keep b o e fun q => hfS b m (o₀.fs b q)
      have nsd := ld.ns nsc
      have lsd : hd.IsList D ys := by obtain ⟨o, e, r⟩ := lsc; exact ⟨o, ld.keep D o e (notF D sD), r⟩
      obtain ⟨e1, e2, e3, e4⟩ := facts hd mc ys _ lgd std nsd lsd
      have stay_d : (fz S' h').StaysIn (fz S' hd) := fun b o e => g2.fz ld b o (stay_bc b o (stay_b b o e))
      cases hk : keep i with
      | false =>
        simp only [hk, Bool.false_eq_true, if_false]
        exact ⟨n + 1 - (i + 1), by omega, hd, tkd, mc, ys, i + 1, rfl, std, lsd, nsd, by rw [outs_succ, hk]; simpa using hall.mono stay_d, lgd, hlt, rfl⟩
      | true =>
        simp only [hk, if_true]
        have tn' : Tn A F B S h S' hd C (vp i) := ⟨l₀.trans e1, e2, fun b o e => e3 b o (fz_le l₀ o₀.fs (fun _ m => .inl m) b o e), mc, nsd, hvp i mc _ _ (g2.fz ld) (hvp i mc _ _ stay_bc vpc)⟩
        refine helt i S' hd C hlt hk tn' { s with heap := hd, toks := tkd } _ _ e2 .refl fun y se ge qe => ?_
        obtain ⟨he, tke, rfl, le⟩ := ge
        dsimp only at le qe
        have lge := lgd.trans le
        have ste : St (i + 1) he := W.frame _ _ _ std fun b m o e => le.keep b o e fun q => hfS b m (o₀.fs b q)
        have nse := le.ns nsd
        have lse : he.IsList D ys := by obtain ⟨o, e, r⟩ := lsd; exact ⟨o, le.keep D o e (notF D sD), r⟩
        have hys : ys.size ≤ sizeLine := by
          have a1 := hall.length
          have a2 := outs_length keep out i
          have a3 : ys.toList.length = ys.size := by simp
          omega
        refine wpAny_list_append (hsz := hys) lse fun hf lsf skf => ?_
        have lgf : Le F B (fz wr h₁) hf := lge.step hBg fun b o ⟨o1, e1⟩ e => skf.extBut b o (by rintro rfl; have q := (fz_in e1).1; rw [freshD] at q; cases q) e
        have stay_f : (fz S' he).StaysIn (fz S' hf) := fun b o e => fz_get (skf.extBut b o (by rintro rfl; exact (fz_in e).2 (.tail _ (.head _))) (fz_in e).1) (fz_in e).2
        refine ⟨n + 1 - (i + 1), by omega, hf, tke, mc, ys.push y, i + 1, rfl, W.frame _ _ _ ste fun b m o e => skf.extBut b o (by rintro rfl; exact notfp _ freshD m) e, lsf, nse.sameBut skf (Ne.symm hDC), ?_, lgf, hlt, rfl⟩
        rw [outs_succ, hk]
        have := (hall.mono stay_d).mono (e2.fz le)
        simpa using (this.append (all.cons qe .nil)).mono stay_f
    · have hin : i = n := by omega
      subst hin
      refine W.done _ _ _ st fun ha tka hka => ?_
      have Cw : C ∉ wr := fun m => notfp C freshC (hwf C m)
      have Dw : D ∉ wr := fun m => notfp D freshD (hwf D m)
      have lga : Le F B (fz wr h₁) ha := lg.step hBg fun b o ⟨o1, e1⟩ e => hka b o (fz_in e1).2 e
      have nsa : ha.Ns C m' := hn.at' fun o e => hka C o Cw e
      refine hRR D C ha tka m' sD sC hDC nsa (toG.trans lga) ?_
      obtain ⟨oD, eD, cD, nD, dD⟩ := hl
      refine plist_in (fz_get (hka D oD Dw eD) fun m => ?_) cD dD (hall.mono fun b o e => fz_get (hka b o (fun m => (fz_in e).2 (.tail _ (.tail _ (List.mem_append_left _ m)))) (fz_in e).1) fun m => (fz_in e).2 ?_)
      · rcases List.mem_cons.mp m with e | m
        · exact hDC e
        · obtain ⟨o, e⟩ := o₀.al D m; rw [sD] at e; cases e
      · rcases List.mem_cons.mp m with rfl | m
        · exact .head _
        · exact .tail _ (.tail _ (List.mem_append_right _ m))
  exact codeAny_compStart_list loop (hself _ _ _ hst₂ loop)

/-- a list comprehension as a value -/
theorem ev_listcomp {elt target iter : Expr} {ifs : List Expr} {scope : Scope} {pos : Pos} {cl : List (Str × Addr)} {n : Nat} {item : Nat → Value → Heap → Heap → Prop} (vp : Nat → (Str → Option Value) → Heap → Prop)
    (keep : Nat → Bool) (out : Nat → PyData) {l : List PyData}
    (hit : Itr prog w A F B S h target (eval iter env) n item) (hasg : ∀ i, i < n → Asg prog w A target (fun C => compEnvC scope cl C env) (item i) (vp i))
    (htest : ∀ i S' h' C, i < n → Tn A F B S h S' h' C (vp i) → Do prog w A F B S' h' (tests ifs (compEnvC scope cl C env)) (fun ok _ => ok = keep i))
    (helt : ∀ i S' h' C, i < n → keep i = true → Tn A F B S h S' h' C (vp i) → Ev prog w A F B S' h' (compEnvC scope cl C env) elt (dat (out i)))
    (hvp : ∀ i m g g', g.StaysIn g' → vp i m g → vp i m g') (hl : outs keep out n = l) (hsz : n ≤ sizeLine)
    (hclos : closureFor scope env = pure cl := by rfl) (hcell : ∀ y ∈ scope.names, y.2 ≠ .cell := by decide) (hkind : scope.kind = .function := by rfl)
    (hnames : ∀ x ∈ scope.names, x.2 = .local → scope.names.lookup x.1 = some .local := by decide)
    (hs : ∀ x, foldedSetIterable iter env x = pure x := by intro _; rfl) :
    Ev prog w A F B S h env (.ListComp elt [⟨target, iter, ifs, 0⟩] scope pos) (plist l) := fun s Q E o l₀ k => by
  subst hl
  rw [eval_ListComp]
  refine wpAny_comprehension_free (use := none) rfl hs hclos hkind hnames ?_
  refine comp_core keep out hcell hkind hsz hit hasg htest helt hvp o l₀ (fun acc C => compPost (model prog w) A E none Q acc C) E fun D C h' tk m' hD hC hDC hn hle hp => ?_
  refine ⟨m', hn, fun h'' hs'' => ?_⟩
  have kk : ∀ b o, b ≠ C → h'.get? b = some o → h''.get? b = some o := fun b o n e => hs''.extBut b o n e
  have notC : ∀ b o, s.heap.get? b = some o → b ≠ C := fun b o e q => by rw [q, hC] at e; cases e
  refine k _ _ ⟨h'', tk, rfl, ⟨fun x b o' e => kk b o' (notC b o' (x b o' e)) (hle.base x b o' e), fun a o' e n => kk a o' (notC a o' e) (hle.keep a o' e n), fun a o' e => ?_⟩⟩ ?_
  · obtain ⟨o1, e1, d1⟩ := hle.data a o' e
    exact ⟨o1, kk a o1 (notC a o' e) e1, d1⟩
  · refine (plist _).mono (fun b o' e => ?_) hp
    obtain ⟨e1, n1⟩ := fz_in e
    exact fz_get (kk b o' (fun q => n1 (by rw [q]; exact .head _)) e1) fun m => n1 (.tail _ m)

/-! ## the targets -/
def vone (x : Str) (d : PyData) (m : Str → Option Value) (g : Heap) : Prop := ∃ v, m x = some v ∧ (dat d) v g
def vtwo (x y : Str) (d e : PyData) (m : Str → Option Value) (g : Heap) : Prop := (∃ v, m x = some v ∧ (dat d) v g) ∧ ∃ v, m y = some v ∧ (dat e) v g
theorem vone_mono {x : Str} {d : PyData} {m : Str → Option Value} {g g' : Heap} (k : g.StaysIn g') : vone x d m g → vone x d m g' := fun ⟨v, e, p⟩ => ⟨v, e, (dat d).mono k p⟩
theorem vtwo_mono {x y : Str} {d e : PyData} {m : Str → Option Value} {g g' : Heap} (k : g.StaysIn g') : vtwo x y d e m g → vtwo x y d e m g' := fun ⟨⟨v, a, p⟩, u, b, q⟩ => ⟨⟨v, a, (dat d).mono k p⟩, u, b, (dat e).mono k q⟩
def ione (d : PyData) (v : Value) (g _h : Heap) : Prop := (dat d) v g
def itwo (d e : PyData) (v : Value) (g h : Heap) : Prop := ∃ T a b, v = .ref T ∧ h.IsTuple T #[a, b] ∧ (dat d) a g ∧ (dat e) b g

theorem asg_one {x : Str} {px : Pos} {cenv : Addr → Env} {d : PyData} (hc : ∀ C, (cenv C).locals = C) (hk : ∀ C, (cenv C).scope.kind = .function) (hx : ∀ C, (cenv C).kindOf x = some .local) :
    Asg prog w A (.Name x px) cenv (ione d) (vone x d) := fun C v g s m Q E hi hg hC hn k => by
  have hp : ((cenv C).scope.kind == .class || ((cenv C).scope.kind == .module && (cenv C).locals != (cenv C).globals)) = false := by rw [hk]; rfl
  refine wpAny_assign_Name (wpAny_storeName_local (m := m) (hx C) (by rw [hc]; exact hn) (fun h' hn' hs' => ?_) hp)
  rw [hc] at hn' hs'
  exact k h' _ _ hn' ⟨v, by simp, hi⟩ fun b o nb e => hs'.extBut b o nb e
theorem asg_two {x y : Str} {px py tp : Pos} {kk : Nat} {cenv : Addr → Env} {d e : PyData} (hh : A.handled = none) (hc : ∀ C, (cenv C).locals = C) (hk : ∀ C, (cenv C).scope.kind = .function) (hx : ∀ C, (cenv C).kindOf x = some .local) (hy : ∀ C, (cenv C).kindOf y = some .local) (hxy : x ≠ y) :
    Asg prog w A (.Tuple [.Name x px, .Name y py] kk tp) cenv (itwo d e) (vtwo x y d e) := fun C v g s m Q E hi hg hC hn k => by
  obtain ⟨T, a, b, rfl, hT, ha, hb⟩ := hi
  have hp : ((cenv C).scope.kind == .class || ((cenv C).scope.kind == .module && (cenv C).locals != (cenv C).globals)) = false := by rw [hk]; rfl
  refine wpAny_assign_Tuple hh hT rfl rfl fun h' hx' => ?_
  have keep' : ∀ b o, s.heap.get? b = some o → h'.get? b = some o := fun b o e => hx' b o (Nat.ne_of_lt (Heap.lt_size e)) e
  show wpAny _ _ (do PySem.holding [b] (assign (.Name x px) (cenv C) a); do PySem.holding [] (assign (.Name y py) (cenv C) b); pure ()) _ _ _
  refine wpAny_bind (wpAny_holding (wpAny_assign_Name (wpAny_storeName_local (m := m) (hx C) (by rw [hc]; exact hn.keeps keep') (fun h1 hn1 hs1 => ?_) hp)))
  rw [hc] at hn1 hs1
  refine wpAny_bind (wpAny_holding (wpAny_assign_Name (wpAny_storeName_local (m := fun z => if z = x then some a else m z) (hy C) (by rw [hc]; exact hn1) (fun h2 hn2 hs2 => ?_) hp)))
  rw [hc] at hn2 hs2
  refine wpAny_pure (k h2 _ _ hn2 ⟨⟨a, ?_, ha⟩, b, ?_, hb⟩ fun b o nb e => hs2.extBut b o nb (hs1.extBut b o nb (keep' b o e)))
  · simp [hxy]
  · simp
end
end Mine

/-! ### Base5 -/
namespace Mine
open PySem PySem.W PySem.Calls PyProof.Rows

theorem le_live {h : Heap} {a : Addr} {o : Obj} (e : h.get? a = some o) : a < h.objs.size := Heap.lt_size e

section
variable {prog : Program} {w : World} {A : Around} {F : List Addr} {B : Heap} {S : List Addr} {h : Heap} {env : Env}

/-- the general shape: Walks over an iterator that pyIter has just laid, over things that stand frozen -/
theorem itr_of_walks {target : Expr} {t : Sem Value} {P0 : Value → Heap → Prop} {n : Nat} {item : Nat → Value → Heap → Heap → Prop}
    (hgo : ∀ I (s : Shared) v (Q : Unit → Shared → Prop) (E : Value → Shared → Prop), (∃ o, s.heap.get? I = some o ∧ o.cls ≠ .type "enumerate" ∧ o.cls ≠ .type "zip" ∧ o.cls ≠ .type "dict_itemiterator" ∧ o.cls ≠ .type "dict_reverseitemiterator" ∧ o.cls ≠ .type "odict_iterator" ∧ o.cls ≠ .type "itertools.zip_longest" ∧ o.cls ≠ .type "itertools.pairwise") → Q () s → wpAny (model prog w) A (letOwnedTupleGo target (.ref I) v) Q E s)
    (x : Do prog w A F B S h t P0)
    (y : ∀ v (s : Shared) (Q : Value → Shared → Prop) (E : Value → Shared → Prop), Ok A F B S s.heap → P0 v (fz S s.heap) →
      (∀ ob fp P St, Walks prog w A s.heap.objs.size fp [s.heap.objs.size] n P St → St 0 (s.heap.push ob) → ob.isFreed = false → (∀ b ∈ fp, b = s.heap.objs.size ∨ ∃ o, (fz S s.heap).get? b = some o) → s.heap.objs.size ∈ fp →
        (∀ i g, St i g → ∀ b ∈ fp, ∃ o, g.get? b = some o) →
        (∀ i g, St i g → ∃ o, g.get? s.heap.objs.size = some o ∧ o.cls ≠ .type "enumerate" ∧ o.cls ≠ .type "zip" ∧ o.cls ≠ .type "dict_itemiterator" ∧ o.cls ≠ .type "dict_reverseitemiterator" ∧ o.cls ≠ .type "odict_iterator" ∧ o.cls ≠ .type "itertools.zip_longest" ∧ o.cls ≠ .type "itertools.pairwise") →
        (∀ i v' g h'', i < n → P i v' → (fz S s.heap).StaysIn g → item i v' g h'') → Q (.ref s.heap.objs.size) { s with heap := s.heap.push ob }) → wpAny (model prog w) A (pyIter v) Q E s) :
    Itr prog w A F B S h target t n item := fun s Q E o l k => by
  refine x s _ E o l fun v s1 g1 q1 => ?_
  have o1 := o.le g1.le
  refine y v s1 Q E o1 q1 fun ob fp P St W hst hfree hfp hI hlive hcls hitem => ?_
  obtain ⟨h1, tk1, rfl, l1⟩ := g1
  dsimp only at *
  have fresh1 : h1.get? h1.objs.size = none := by
    cases e : h1.get? h1.objs.size with
    | none => rfl
    | some o => exact absurd (Heap.lt_size e) (Nat.lt_irrefl _)
  have fresh0 : s.heap.get? h1.objs.size = none := by
    cases e : s.heap.get? h1.objs.size with
    | none => rfl
    | some o => obtain ⟨o', e'⟩ := l1.alive e; rw [fresh1] at e'; cases e'
  refine k h1.objs.size fp [h1.objs.size] _ _ St _ tk1 (KTurns.ofWalks W fun i v s Q E st q => hgo _ s v Q E (hcls i _ st) q) hst (l1.trans (.push _)) (fun b m => by rw [List.mem_singleton.mp m]; exact fresh0) (fun b m => ?_) (fun b m => by rw [List.mem_singleton.mp m]; exact hI) hlive (fun s' Q' E' st q => W.self 0 s' Q' E' st q) fun i v' h'' S'' hi hP hk => ?_
  · rcases hfp b m with rfl | ⟨ob, e⟩
    · intro m'
      obtain ⟨o', e'⟩ := o.al _ m'
      rw [fresh0] at e'; cases e'
    · exact fun m' => (fz_in e).2 m'
  · refine hitem i v' _ h'' hi hP fun b ob' e => hk b ob' ?_
    obtain ⟨e1, n1⟩ := fz_in e
    refine fz_get (Heap.get?_push_of_some _ e1) fun m => ?_
    rcases List.mem_append.mp m with m | m
    · rw [List.mem_singleton.mp m] at e1; rw [fresh1] at e1; cases e1
    · exact n1 m

theorem go_name {x : Str} {px : Pos} : ∀ I (s : Shared) v (Q : Unit → Shared → Prop) (E : Value → Shared → Prop), (∃ o, s.heap.get? I = some o ∧ o.cls ≠ .type "enumerate" ∧ o.cls ≠ .type "zip" ∧ o.cls ≠ .type "dict_itemiterator" ∧ o.cls ≠ .type "dict_reverseitemiterator" ∧ o.cls ≠ .type "odict_iterator" ∧ o.cls ≠ .type "itertools.zip_longest" ∧ o.cls ≠ .type "itertools.pairwise") → Q () s → wpAny (model prog w) A (letOwnedTupleGo (.Name x px) (.ref I) v) Q E s := fun _ _ _ _ _ _ q => wpAny_pure q
theorem go_tuple {es : List Expr} {kk : Nat} {tp : Pos} : ∀ I (s : Shared) v (Q : Unit → Shared → Prop) (E : Value → Shared → Prop), (∃ o, s.heap.get? I = some o ∧ o.cls ≠ .type "enumerate" ∧ o.cls ≠ .type "zip" ∧ o.cls ≠ .type "dict_itemiterator" ∧ o.cls ≠ .type "dict_reverseitemiterator" ∧ o.cls ≠ .type "odict_iterator" ∧ o.cls ≠ .type "itertools.zip_longest" ∧ o.cls ≠ .type "itertools.pairwise") → Q () s → wpAny (model prog w) A (letOwnedTupleGo (.Tuple es kk tp) (.ref I) v) Q E s := by
  rintro I s v Q E ⟨o, ho, h1, h2, h3, h4, h5, h6, h7⟩ q
  unfold letOwnedTupleGo
  cases v with
  | ref a =>
    dsimp only
    refine wpAny_bind (wpAny_load ho ?_)
    obtain ⟨c, d, dt, sl⟩ := o
    dsimp only at *
    cases c with
    | type n =>
      cases dt with
      | fields vs =>
        dsimp only
        have : (["enumerate", "zip", "dict_itemiterator", "dict_reverseitemiterator", "odict_iterator", "itertools.zip_longest", "itertools.pairwise"].contains n) = false := by
          simp only [ne_eq, Value.type.injEq] at h1 h2 h3 h4 h5 h6 h7
          simp [h1, h2, h3, h4, h5, h6, h7]
        rw [this]
        exact wpAny_pure q
      | _ => exact wpAny_pure q
    | _ => exact wpAny_pure q
  | _ => exact wpAny_pure q

theorem itr_list_gen {target : Expr} {t : Sem Value} {ds : List PyData} {item : Nat → Value → Heap → Heap → Prop}
    (hgo : ∀ I (s : Shared) v (Q : Unit → Shared → Prop) (E : Value → Shared → Prop), (∃ o, s.heap.get? I = some o ∧ o.cls ≠ .type "enumerate" ∧ o.cls ≠ .type "zip" ∧ o.cls ≠ .type "dict_itemiterator" ∧ o.cls ≠ .type "dict_reverseitemiterator" ∧ o.cls ≠ .type "odict_iterator" ∧ o.cls ≠ .type "itertools.zip_longest" ∧ o.cls ≠ .type "itertools.pairwise") → Q () s → wpAny (model prog w) A (letOwnedTupleGo target (.ref I) v) Q E s)
    (hh : A.handled = none) (x : Do prog w A F B S h t (plist ds).p) (hi : ∀ i d v g h'', ds[i]? = some d → (dat d) v g → item i v g h'') : Itr prog w A F B S h target t ds.length item := by
  refine itr_of_walks hgo x fun v s Q E o q k => ?_
  obtain ⟨a, vs, rfl, hl, hall⟩ := plist_out q
  have hl' : s.heap.IsList a vs.toArray := by obtain ⟨ob, e, r⟩ := hl; exact ⟨ob, (fz_in e).1, r⟩
  have hlt : a < s.heap.objs.size := by obtain ⟨ob, e, _⟩ := hl'; exact Heap.lt_size e
  refine wpAny_pyIter_list hl' (k _ [s.heap.objs.size, a] (fun i v => vs.toArray[i]? = some v) (fun i h => h.IsListIter s.heap.objs.size a i ∧ h.IsList a vs.toArray) ?_ ?_ ?_ ?_ ?_ ?_ ?_ ?_)
  · have := Walks.list (prog := prog) (w := w) hh s.heap.objs.size a (Nat.ne_of_lt hlt) vs.toArray
    rw [show vs.toArray.size = ds.length from by simp [hall.length]] at this
    exact this
  · exact ⟨⟨_, Heap.get?_push_size _ rfl, rfl, rfl⟩, hl'.push _⟩
  · rfl
  · intro b m
    rcases List.mem_cons.mp m with rfl | m
    · exact .inl rfl
    · rw [List.mem_singleton.mp m]
      obtain ⟨ob, e, _⟩ := hl; exact .inr ⟨ob, e⟩
  · exact .head _
  · rintro i g ⟨⟨o1, e1, _⟩, ⟨o2, e2, _⟩⟩ b m
    rcases List.mem_cons.mp m with rfl | m
    · exact ⟨_, e1⟩
    · rw [List.mem_singleton.mp m]; exact ⟨_, e2⟩
  · rintro i g ⟨⟨o1, e1, c1, _⟩, _⟩
    refine ⟨o1, e1, ?_⟩
    rw [c1]; simp
  · intro i v' g h'' hin hP hg
    obtain ⟨d, hd⟩ : ∃ d, ds[i]? = some d := ⟨ds[i], by simp [hin]⟩
    obtain ⟨v2, e2, p2⟩ := hall.get hd
    have : v' = v2 := by simp at hP; rw [hP] at e2; exact Option.some.inj e2
    subst this
    exact hi i d v' g h'' hd ((dat d).mono hg p2)
theorem itr_list {x : Str} {px : Pos} {t : Sem Value} {ds : List PyData} (hh : A.handled = none) (y : Do prog w A F B S h t (plist ds).p) : Itr prog w A F B S h (.Name x px) t ds.length (fun i => ione (ds[i]?.getD .none)) :=
  itr_list_gen go_name hh y fun i d v g h'' e p => by rw [e]; exact p
/-- a list of pairs, unpacked -/
theorem itr_pairs {es : List Expr} {kk : Nat} {tp : Pos} {t : Sem Value} {ds : List (PyData × PyData)} (hh : A.handled = none) (y : Do prog w A F B S h t (plist (ds.map fun p => .tuple [p.1, p.2])).p) : Itr prog w A F B S h (.Tuple es kk tp) t ds.length (fun i v g h'' => g.StaysIn h'' → itwo (ds[i]?.getD (.none, .none)).1 (ds[i]?.getD (.none, .none)).2 v g h'') := by
  have := itr_list_gen (item := fun i v g h'' => g.StaysIn h'' → itwo (ds[i]?.getD (.none, .none)).1 (ds[i]?.getD (.none, .none)).2 v g h'') (go_tuple (es := es) (kk := kk) (tp := tp)) hh y fun i d v g h'' e p => by
    rw [List.getElem?_map] at e
    cases e' : ds[i]? with
    | none => rw [e'] at e; cases e
    | some q =>
      rw [e'] at e
      cases e
      intro hs
      obtain ⟨a, vs, rfl, ht, hall⟩ := ptup_out p
      match vs, hall with
      | [], hall => obtain ⟨as, r⟩ := hall; cases r
      | [_], hall => have := hall.length; simp at this
      | [u, u'], hall =>
        obtain ⟨ob, e1, c1, n1, d1⟩ := ht
        exact ⟨a, u, u', rfl, ⟨ob, hs _ _ e1, c1, n1, d1⟩, hall.uncons.1, hall.uncons.2.uncons.1⟩
      | _ :: _ :: _ :: _, hall => have := hall.length; simp at this
  rwa [List.length_map] at this
theorem itr_tuple {x : Str} {px : Pos} {t : Sem Value} {ds : List PyData} (hh : A.handled = none) (y : Do prog w A F B S h t (ptup ds).p) : Itr prog w A F B S h (.Name x px) t ds.length (fun i => ione (ds[i]?.getD .none)) := by
  refine itr_of_walks go_name y fun v s Q E o q k => ?_
  obtain ⟨a, vs, rfl, hl, hall⟩ := ptup_out q
  have hl' : s.heap.IsTuple a vs.toArray := by obtain ⟨ob, e, r⟩ := hl; exact ⟨ob, (fz_in e).1, r⟩
  have hlt : a < s.heap.objs.size := by obtain ⟨ob, e, _⟩ := hl'; exact Heap.lt_size e
  refine wpAny_pyIter_tuple hl' (k _ [s.heap.objs.size, a] (fun i v => vs.toArray[i]? = some v) (fun i h => h.IsTupleIter s.heap.objs.size a i ∧ h.IsTuple a vs.toArray) ?_ ?_ ?_ ?_ ?_ ?_ ?_ ?_)
  · have := Walks.tuple (prog := prog) (w := w) hh s.heap.objs.size a (Nat.ne_of_lt hlt) vs.toArray
    rw [show vs.toArray.size = ds.length from by simp [hall.length]] at this
    exact this
  · exact ⟨⟨_, Heap.get?_push_size _ rfl, rfl, rfl⟩, hl'.push _⟩
  · rfl
  · intro b m
    rcases List.mem_cons.mp m with rfl | m
    · exact .inl rfl
    · rw [List.mem_singleton.mp m]
      obtain ⟨ob, e, _⟩ := hl; exact .inr ⟨ob, e⟩
  · exact .head _
  · rintro i g ⟨⟨o1, e1, _⟩, ⟨o2, e2, _⟩⟩ b m
    rcases List.mem_cons.mp m with rfl | m
    · exact ⟨_, e1⟩
    · rw [List.mem_singleton.mp m]; exact ⟨_, e2⟩
  · rintro i g ⟨⟨o1, e1, c1, _⟩, _⟩
    refine ⟨o1, e1, ?_⟩
    rw [c1]; simp
  · intro i v' g h'' hin hP hg
    obtain ⟨d, hd⟩ : ∃ d, ds[i]? = some d := ⟨ds[i], by simp [hin]⟩
    obtain ⟨v2, e2, p2⟩ := hall.get hd
    have : v' = v2 := by simp at hP; rw [hP] at e2; exact Option.some.inj e2
    subst this
    rw [hd]
    exact (dat d).mono hg p2

/-- a text's signs -/
def signs (x : Str) : List PyData := x.cps.toList.map fun c => .str ⟨#[c]⟩
theorem itr_str {y : Str} {px : Pos} {t : Sem Value} {x : Str} (hh : A.handled = none) (z : Do prog w A F B S h t (pstr x).p) : Itr prog w A F B S h (.Name y px) t x.cps.size (fun i => ione ((signs x)[i]?.getD .none)) := by
  refine itr_of_walks go_name z fun v s Q E o q k => ?_
  obtain ⟨tk, rfl⟩ := dat_str q
  have hit : ∀ i v' (g h'' : Heap), i < x.cps.size → SignAt x i v' → (fz S s.heap).StaysIn g → ione ((signs x)[i]?.getD .none) v' g h'' := by
    rintro i v' g h'' hin ⟨c, u, e, rfl⟩ hg
    have : (signs x)[i]? = some (.str ⟨#[c]⟩) := by
      unfold signs
      rw [List.getElem?_map, Array.getElem?_toList, e]; rfl
    rw [this]
    exact ⟨_, .str _ _⟩
  cases ha : x.cps.all (· < 128)
  · refine wpAny_pyIter_wide ha (k _ [s.heap.objs.size] _ (fun i h => h.IsStrIter s.heap.objs.size "str_iterator" x tk i) (Walks.strWide hh _ x tk) ⟨_, Heap.get?_push_size _ rfl, rfl, rfl⟩ rfl (fun b m => .inl (List.mem_singleton.mp m)) (.head _) ?_ ?_ hit)
    · rintro i g ⟨o1, e1, _⟩ b m; rw [List.mem_singleton.mp m]; exact ⟨_, e1⟩
    · rintro i g ⟨o1, e1, c1, _⟩; refine ⟨o1, e1, ?_⟩; rw [c1]; simp
  · refine wpAny_pyIter_ascii ha (k _ [s.heap.objs.size] _ (fun i h => h.IsStrIter s.heap.objs.size "str_ascii_iterator" x tk i) (Walks.strAscii hh _ x tk) ⟨_, Heap.get?_push_size _ rfl, rfl, rfl⟩ rfl (fun b m => .inl (List.mem_singleton.mp m)) (.head _) ?_ ?_ hit)
    · rintro i g ⟨o1, e1, _⟩ b m; rw [List.mem_singleton.mp m]; exact ⟨_, e1⟩
    · rintro i g ⟨o1, e1, c1, _⟩; refine ⟨o1, e1, ?_⟩; rw [c1]; simp

theorem itr_bytes {y : Str} {px : Pos} {t : Sem Value} {b : Array UInt8} (hh : A.handled = none) (z : Do prog w A F B S h t (byt b).p) : Itr prog w A F B S h (.Name y px) t b.size (fun i => ione (.int ((b[i]?.getD 0).toNat : Int))) := by
  refine itr_of_walks go_name z fun v s Q E o q k => ?_
  obtain ⟨tk, rfl⟩ := q
  refine KBw.pyIter_bytes (k _ [s.heap.objs.size] _ (fun i h => KBw.IsBytesIter h s.heap.objs.size b tk i) (KBw.walks hh _ b tk) ⟨_, Heap.get?_push_size _ rfl, rfl, rfl⟩ rfl (fun b m => .inl (List.mem_singleton.mp m)) (.head _) ?_ ?_ ?_)
  · rintro i g ⟨o1, e1, _⟩ b m; rw [List.mem_singleton.mp m]; exact ⟨_, e1⟩
  · rintro i g ⟨o1, e1, c1, _⟩; refine ⟨o1, e1, ?_⟩; rw [c1]; simp
  · rintro i v' g h'' hin ⟨c, u, e, rfl⟩ hg
    rw [e]
    exact ⟨_, .int _ _⟩

/-- a range of n numbers from a -/
def prange (a : Int) (n : Nat) : Pd := ⟨fun v g => ∃ r b t u v', v = .ref r ∧ IsRange g r a b 1 t u v' ∧ b = a + n, fun k ⟨r, b, t, u, v', e, p, q⟩ => ⟨r, b, t, u, v', e, k _ _ p, q⟩⟩
theorem itr_range {y : Str} {px : Pos} {t : Sem Value} {a : Int} {n : Nat} (hh : A.handled = none) (z : Do prog w A F B S h t (prange a n).p) (hn : n ≤ 1000000) (ha : -1000000 ≤ a ∧ a ≤ 1000000) : Itr prog w A F B S h (.Name y px) t n (fun i => ione (.int (a + (i : Int)))) := by
  refine itr_of_walks go_name z fun v s Q E o q k => ?_
  obtain ⟨r, b, t1, u1, v1, rfl, hr, rfl⟩ := q
  have hr' : IsRange s.heap r a (a + n) 1 t1 u1 v1 := (fz_in hr).1
  have hsz : Builtin.Range.rangeSize a (a + n) 1 = (n : Int) := by
    unfold Builtin.Range.rangeSize
    simp
    omega
  have hsm : Builtin.Range.small a (a + n) 1 = true := by
    unfold Builtin.Range.small Builtin.Range.rangeFitsLong
    rw [hsz]
    simp
    omega
  refine wpAny_pyIter_range hr' hsm (k _ [s.heap.objs.size] _ (fun i h => IsRangeIter h s.heap.objs.size (a + (i : Nat) * 1) ((n : Int) - (i : Nat)) 1) (Walks.range hh _ a 1 n) ?_ rfl (fun b m => .inl (List.mem_singleton.mp m)) (.head _) ?_ ?_ ?_)
  · have := Heap.get?_push_size s.heap (o := { cls := .type "range_iterator", data := .fields #[rawInt a, rawInt (Builtin.Range.rangeSize a (a + n) 1), rawInt 1] }) rfl
    rw [hsz] at this
    rw [hsz]
    simpa [IsRangeIter] using this
  · rintro i g e1 b m; rw [List.mem_singleton.mp m]; exact ⟨_, e1⟩
  · rintro i g e1; refine ⟨_, e1, ?_⟩; simp
  · rintro i v' g h'' hin ⟨u, rfl⟩ hg
    rw [Int.mul_one]
    exact ⟨_, .int _ _⟩

/-! ## dicts with texts for keys -/
def isDict (prog : Program) (w : World) (kvs : List (Str × PyData)) (v : Value) (g : Heap) : Prop :=
  ∃ (a : Addr) (vals : List (Str × Value)), v = .ref a ∧ (a == sysModules) = false ∧ g.DictOf (strKind prog w) a vals ∧ vals.map (·.1) = kvs.map (·.1) ∧ all (kvs.map (·.2)) (vals.map (·.2)) g
def pdict (prog : Program) (w : World) (kvs : List (Str × PyData)) : Pd := ⟨isDict prog w kvs, fun k x => by
  obtain ⟨a, vals, e, n, ⟨o, es, ep, ho, r⟩, m, l⟩ := x
  exact ⟨a, vals, e, n, ⟨o, es, ep, k _ _ ho, r⟩, m, l.mono k⟩⟩
theorem itr_dict {y : Str} {px : Pos} {t : Sem Value} {kvs : List (Str × PyData)} (hh : A.handled = none) (z : Do prog w A F B S h t (pdict prog w kvs).p) : Itr prog w A F B S h (.Name y px) t kvs.length (fun i => ione (.str ((kvs[i]?.map (·.1)).getD Str.empty))) := by
  refine itr_of_walks go_name z fun v s Q E o q k => ?_
  obtain ⟨a, vals, rfl, hns, hd, hm, hall⟩ := q
  have hd' : s.heap.DictOf (strKind prog w) a vals := by obtain ⟨ob, es, ep, e, r⟩ := hd; exact ⟨ob, es, ep, (fz_in e).1, r⟩
  obtain ⟨ep, hat⟩ := hd'.dictAt
  have hlt := hat.lt_size
  have hlen : vals.length = kvs.length := by have := congrArg List.length hm; simpa using this
  refine wpAny_pyIter_dict hns hat (k _ [s.heap.objs.size, a] (fun i v => ∃ k x, vals[i]? = some (k, x) ∧ (strKind prog w).is k v = true) (fun i h => h.IsKeyIter s.heap.objs.size a i vals.length ep ∧ h.DictAt (strKind prog w) a vals ep) ?_ ?_ ?_ ?_ ?_ ?_ ?_ ?_)
  · rw [← hlen]; exact Walks.dictKeys hh _ a (Nat.ne_of_lt hlt) vals ep
  · exact ⟨⟨_, Heap.get?_push_size _ rfl, rfl, rfl⟩, hat.push _⟩
  · rfl
  · intro b m
    rcases List.mem_cons.mp m with rfl | m
    · exact .inl rfl
    · rw [List.mem_singleton.mp m]
      obtain ⟨ob, es, ep, e, _⟩ := hd; exact .inr ⟨ob, e⟩
  · exact .head _
  · rintro i g ⟨⟨o1, e1, _⟩, ⟨o2, es2, e2, _⟩⟩ b m
    rcases List.mem_cons.mp m with rfl | m
    · exact ⟨_, e1⟩
    · rw [List.mem_singleton.mp m]; exact ⟨_, e2⟩
  · rintro i g ⟨⟨o1, e1, c1, _⟩, _⟩
    refine ⟨o1, e1, ?_⟩
    rw [c1]; simp
  · rintro i v' g h'' hin ⟨kk, x, e, hk⟩ hg
    obtain ⟨u, rfl⟩ := Value.isStrOf_shape hk
    have : kvs[i]?.map (·.1) = some kk := by
      rw [← List.getElem?_map, ← hm, List.getElem?_map, e]; rfl
    rw [this]
    exact ⟨_, .str _ _⟩
end
end Mine

/-! ### Base6 -/
namespace Mine
open PySem PySem.W PySem.Calls PyProof.Rows

/-- what an object of the frame's own holds -/
structure Ow where
  p : Obj → Heap → Prop
  mono : ∀ {o : Obj} {g g' : Heap}, g.StaysIn g' → p o g → p o g'
def owl (ds : List PyData) : Ow := ⟨fun o g => ∃ vs n, o = { cls := .type "list", data := .seq vs n } ∧ all ds vs.toList g, fun k ⟨vs, n, d, l⟩ => ⟨vs, n, d, l.mono k⟩⟩

structure En (env : Env) : Prop where
  kf : env.scope.kind = .function
  gl : env.globals = mainGlobals
  bu : env.builtins = builtinsNs
abbrev addrs (env : Env) (own : List (Addr × Ow)) : List Addr := env.locals :: (env.cells.map (·.2) ++ own.map (·.1))

structure St (A : Around) (F : List Addr) (B h₀ : Heap) (S₀ : List Addr) (env : Env) (own : List (Addr × Ow)) (ρ : List (Str × Pd)) (s₀ s : Shared) : Prop where
  ok : Ok A F B (addrs env own ++ S₀) s.heap
  hB : B.StaysIn h₀
  old : Le F B h₀ s.heap
  fresh : ∀ a ∈ addrs env own, h₀.get? a = none
  nd : (addrs env own).Nodup
  nF : ∀ a ∈ env.cells.map (·.2) ++ own.map (·.1), a ∉ F
  loc : ∃ m, s.heap.Ns env.locals m
  cel : ∀ p ∈ env.cells, ∃ v, s.heap.IsCell p.2 v
  vars : ∀ x P, ρ.lookup x = some P → Vr (addrs env own ++ S₀) env s.heap x P
  owns : ∀ q ∈ own, ∃ o, s.heap.get? q.1 = some o ∧ q.2.p o (fz (addrs env own ++ S₀) s.heap)
  same : ∃ h tk, s = { s₀ with heap := h, toks := tk }
  en : En env
  dis : ∀ a ∈ addrs env own, a ∉ S₀

def Sub (ρ : List (Str × Pd)) : List (Str × Pd) → Prop
  | [] => True
  | q :: r => ρ.lookup q.1 = some q.2 ∧ Sub ρ r
theorem Sub.get {ρ : List (Str × Pd)} : ∀ {ρ' : List (Str × Pd)}, Sub ρ ρ' → ∀ x P, ρ'.lookup x = some P → ρ.lookup x = some P
  | [], _, x, P, e => by cases e
  | (y, R) :: r, ⟨h1, h2⟩, x, P, e => by
    rw [List.lookup_cons] at e
    cases q : (x == y) with
    | true => rw [q] at e; cases e; rw [eq_of_beq q]; exact h1
    | false => rw [q] at e; exact h2.get x P e

section
variable {prog : Program} {w : World} {A : Around} {F : List Addr} {B h₀ : Heap} {S₀ : List Addr} {env : Env} {own : List (Addr × Ow)} {ρ ρ' : List (Str × Pd)} {s₀ s s' : Shared}

theorem St.go (I : St A F B h₀ S₀ env own ρ s₀ s) (g : Go F B s s') : St A F B h₀ S₀ env own ρ s₀ s' := by
  obtain ⟨h', tk, rfl, l⟩ := g
  have ok' := I.ok.le l
  refine ⟨ok', I.hB, I.old.trans l, I.fresh, I.nd, I.nF, let ⟨m, n⟩ := I.loc; ⟨m, l.ns n⟩, fun p hp => let ⟨v, c⟩ := I.cel p hp; ⟨v, l.cell c⟩, fun x P hq => (I.vars x P hq).le l I.ok.fs, fun q hq => ?_, ?_, I.en, I.dis⟩
  · obtain ⟨o, e, p⟩ := I.owns q hq
    exact ⟨o, l.keep _ o e (I.nF _ (List.mem_append_right _ (List.mem_map_of_mem hq))), q.2.mono (I.ok.fz l) p⟩
  · obtain ⟨h1, t1, e⟩ := I.same
    exact ⟨h', tk, by rw [e]⟩
theorem St.sub (I : St A F B h₀ S₀ env own ρ s₀ s) (h : Sub ρ ρ') : St A F B h₀ S₀ env own ρ' s₀ s :=
  ⟨I.ok, I.hB, I.old, I.fresh, I.nd, I.nF, I.loc, I.cel, fun x P hq => I.vars x P (h.get x P hq), I.owns, I.same, I.en, I.dis⟩
theorem St.var (I : St A F B h₀ S₀ env own ρ s₀ s) {x : Str} {P : Pd} (m : ρ.lookup x = some P) : Vr (addrs env own ++ S₀) env s.heap x P := I.vars x P m
/-- an own thing stands where it stood for whoever called -/
theorem St.done (I : St A F B h₀ S₀ env own ρ s₀ s) : ∃ h tk, s = { s₀ with heap := h, toks := tk } ∧ Le F B h₀ h := by
  obtain ⟨h, tk, rfl⟩ := I.same
  exact ⟨h, tk, rfl, I.old⟩

/-- the heap is turned at one place of the frame's own: its name's place -/
theorem St.turned (I : St A F B h₀ S₀ env own ρ s₀ s) {a : Addr} {h' : Heap} {tk : Nat} (ha : a ∈ addrs env own) (k : ∀ b o, b ≠ a → s.heap.get? b = some o → h'.get? b = some o) (hal : ∃ o, h'.get? a = some o)
    (hfr : Fs A F B h') (hloc : ∃ m, h'.Ns env.locals m) (hcel : ∀ p ∈ env.cells, ∃ v, h'.IsCell p.2 v) (hvars : ∀ x P, ρ'.lookup x = some P → Vr (addrs env own ++ S₀) env h' x P)
    (howns : ∀ q ∈ own, ∃ o, h'.get? q.1 = some o ∧ q.2.p o (fz (addrs env own ++ S₀) h')) : St A F B h₀ S₀ env own ρ' s₀ { s with heap := h', toks := tk } := by
  have hna : h₀.get? a = none := I.fresh a ha
  have kk : ∀ b o, h₀.get? b = some o → b ≠ a := fun b o e q => by rw [q, hna] at e; cases e
  refine ⟨⟨fun b o e => ?_, hfr, I.ok.fs, fun b m => ?_⟩, I.hB, I.old.step I.hB fun b o ⟨o1, e1⟩ e => k b o (kk b o1 e1) e, I.fresh, I.nd, I.nF, hloc, hcel, hvars, howns, ?_, I.en, I.dis⟩
  · exact k b o (kk b o (I.hB b o e)) (I.ok.bh b o e)
  · by_cases q : b = a
    · rw [q]; exact hal
    · obtain ⟨o, e⟩ := I.ok.al b m; exact ⟨o, k b o q e⟩
  · obtain ⟨h1, t1, e⟩ := I.same
    exact ⟨h', tk, by rw [e]⟩
theorem fz_turned {S : List Addr} {h h' : Heap} {a : Addr} (ha : a ∈ S) (k : ∀ b o, b ≠ a → h.get? b = some o → h'.get? b = some o) : (fz S h).StaysIn (fz S h') := fun b o e => by
  obtain ⟨e1, n1⟩ := fz_in e
  exact fz_get (k b o (fun q => n1 (by rw [q]; exact ha)) e1) n1
theorem Fs.data {A : Around} {F : List Addr} {B h h' : Heap} (x : Fs A F B h) (k : ∀ b o, h.get? b = some o → (∀ vs, o.data ≠ .fields vs) → ∃ o', h'.get? b = some o' ∧ ∀ vs, o'.data ≠ .fields vs) : Fs A F B h' := by
  obtain ⟨outer, h1, h2, h3⟩ := x
  refine ⟨outer, h1, h2, ?_⟩
  clear h1 h2
  induction outer with
  | nil => trivial
  | cons e r ih =>
    obtain ⟨hk, ⟨L, o, hf, hn, ho, hd⟩, hr⟩ := h3
    obtain ⟨o', ho', hd'⟩ := k L o ho hd
    exact ⟨hk, ⟨L, o', hf, hn, ho', hd'⟩, ih hr⟩

theorem cells_lookup_mem {cl : List (Str × Addr)} {x : Str} {c : Addr} (e : cl.lookup x = some c) : (x, c) ∈ cl := mem_of_lookup e

/-- storing a name -/
theorem St.store' {x : Str} {P : Pd} {v : Value} {Q : Unit → Shared → Prop} {E : Value → Shared → Prop} (I : St A F B h₀ S₀ env own ρ s₀ s) (hP : P v (fz (addrs env own ++ S₀) s.heap))
    (hx : env.kindOf x = some .local ∨ (env.kindOf x = some .cell ∧ ∃ c, env.cells.lookup x = some c))
    (k : ∀ s', St A F B h₀ S₀ env own ((x, P) :: ρ) s₀ s' → (fz (addrs env own ++ S₀) s.heap).StaysIn (fz (addrs env own ++ S₀) s'.heap) → Q () s') : wpAny (model prog w) A (storeName env x v) Q E s := by
  have hk := I.en.kf
  rcases hx with hx | ⟨hx, c, hc⟩
  · obtain ⟨m, hn⟩ := I.loc
    have hp : (env.scope.kind == .class || (env.scope.kind == .module && env.locals != env.globals)) = false := by rw [hk]; rfl
    refine wpAny_storeName_local hx hn (fun h' hn' hs' => k _ ?_ (fz_turned (List.mem_append_left _ (.head _)) fun b o nb e => hs'.extBut b o nb e)) hp
    have ha : env.locals ∈ addrs env own := .head _
    have kk : ∀ b o, b ≠ env.locals → s.heap.get? b = some o → h'.get? b = some o := fun b o nb e => hs'.extBut b o nb e
    have fzs := fz_turned (S := addrs env own ++ S₀) (List.mem_append_left _ ha) kk
    have ne : ∀ p ∈ env.cells, p.2 ≠ env.locals := fun p hp q => by
      have := I.nd
      rw [List.nodup_cons] at this
      exact this.1 (q ▸ List.mem_append_left _ (List.mem_map_of_mem hp))
    have ne2 : ∀ p ∈ own, p.1 ≠ env.locals := fun p hp q => by
      have := I.nd
      rw [List.nodup_cons] at this
      exact this.1 (q ▸ List.mem_append_right _ (List.mem_map_of_mem hp))
    obtain ⟨oL, es, ep, hL, hLd, hLr⟩ := id hn'
    refine I.turned ha kk ⟨oL, hL⟩ (I.ok.fr.data fun b o e hd => ?_) ⟨_, hn'⟩ (fun p hp => ?_) (fun y R hq => ?_) fun q hq => ?_
    · by_cases q : b = env.locals
      · rw [q]; exact ⟨oL, hL, fun vs e => by rw [hLd] at e; cases e⟩
      · exact ⟨o, kk b o q e, hd⟩
    · obtain ⟨u, o, e, d⟩ := I.cel p hp
      exact ⟨u, o, kk _ o (ne p hp) e, d⟩
    · by_cases hq2 : y = x
      · subst hq2
        rw [List.lookup_cons, beq_self_eq_true] at hq
        cases hq
        exact ⟨v, .inl ⟨hx, _, hn', by simp⟩, P.mono fzs hP⟩
      · rw [List.lookup_cons, beq_eq_false_iff_ne.mpr hq2] at hq
        obtain ⟨u, H, p⟩ := I.vars y R hq
        refine ⟨u, ?_, R.mono fzs p⟩
        rcases H with ⟨h1, m1, n1, e1⟩ | ⟨h1, c1, e1, o1, g1, d1⟩
        · refine .inl ⟨h1, _, hn', ?_⟩
          rw [if_neg hq2]
          obtain ⟨o2, es2, ep2, a2, b2, c2, d2⟩ := hn
          obtain ⟨o3, es3, ep3, a3, b3, c3, d3⟩ := n1
          rw [a2] at a3; cases a3
          rw [b2] at b3; cases b3
          rw [← d2, d3]; exact e1
        · exact .inr ⟨h1, c1, e1, o1, kk _ o1 (ne _ (cells_lookup_mem e1)) g1, d1⟩
    · obtain ⟨o, e, p⟩ := I.owns q hq
      exact ⟨o, kk _ o (ne2 q hq) e, q.2.mono fzs p⟩
  · have hcm := cells_lookup_mem hc
    obtain ⟨v0, hcell⟩ := I.cel _ hcm
    refine wpAny_storeName_cell hk hx hc hcell fun h' hv hs' => ?_
    have ha : c ∈ addrs env own := .tail _ (List.mem_append_left _ (List.mem_map_of_mem (f := (·.2)) hcm))
    have kk : ∀ b o, b ≠ c → s.heap.get? b = some o → h'.get? b = some o := fun b o nb e => hs'.extBut b o nb e
    have fzs := fz_turned (S := addrs env own ++ S₀) (List.mem_append_left _ ha) kk
    have neL : env.locals ≠ c := fun q => by
      have := I.nd
      rw [List.nodup_cons] at this
      exact this.1 (q ▸ List.mem_append_left _ (List.mem_map_of_mem (f := (·.2)) hcm))
    have nd2 : (env.cells.map (·.2) ++ own.map (·.1)).Nodup := (List.nodup_cons.mp I.nd).2
    have ne2 : ∀ p ∈ own, p.1 ≠ c := fun p hp q => by
      rw [List.nodup_append] at nd2
      exact nd2.2.2 c (List.mem_map_of_mem (f := (·.2)) hcm) p.1 (List.mem_map_of_mem hp) q.symm
    refine k _ ?_ fzs
    have inj : ∀ y d, (y, d) ∈ env.cells → d = c → y = x := fun y d hm q => by
      have nd3 := (List.nodup_append.mp nd2).1
      subst q
      have : env.cells.Pairwise fun p q => p.2 ≠ q.2 := by
        have := nd3
        rw [List.Nodup, List.pairwise_map] at this
        exact this
      exact name_of_addr this hm hcm
    obtain ⟨oc, gc, dc⟩ := id hv
    refine I.turned ha kk ⟨oc, gc⟩ (I.ok.fr.data fun b o e hd => ?_) (let ⟨m, n⟩ := I.loc; ⟨m, n.sameBut hs' neL⟩) (fun p hp => ?_) (fun y R hq => ?_) fun q hq => ?_
    · by_cases q : b = c
      · rw [q]; exact ⟨oc, gc, fun vs e => by rw [dc] at e; cases e⟩
      · exact ⟨o, kk b o q e, hd⟩
    · by_cases q : p.2 = c
      · rw [q]; exact ⟨_, hv⟩
      · obtain ⟨u, o, e, d⟩ := I.cel p hp
        exact ⟨u, o, kk _ o q e, d⟩
    · by_cases hq2 : y = x
      · subst hq2
        rw [List.lookup_cons, beq_self_eq_true] at hq
        cases hq
        exact ⟨v, .inr ⟨.inl hx, c, hc, hv⟩, P.mono fzs hP⟩
      · rw [List.lookup_cons, beq_eq_false_iff_ne.mpr hq2] at hq
        obtain ⟨u, H, p⟩ := I.vars y R hq
        refine ⟨u, ?_, R.mono fzs p⟩
        rcases H with ⟨h1, m1, n1, e1⟩ | ⟨h1, c1, e1, n1⟩
        · exact .inl ⟨h1, m1, n1.sameBut hs' neL, e1⟩
        · exact .inr ⟨h1, c1, e1, n1.sameBut hs' fun q' => hq2 (inj _ _ (cells_lookup_mem e1) q')⟩
    · obtain ⟨o, e, p⟩ := I.owns q hq
      exact ⟨o, kk _ o (ne2 q hq) e, q.2.mono fzs p⟩

theorem St.store {x : Str} {P : Pd} {v : Value} {Q : Unit → Shared → Prop} {E : Value → Shared → Prop} (I : St A F B h₀ S₀ env own ρ s₀ s) (hP : P v (fz (addrs env own ++ S₀) s.heap))
    (hx : env.kindOf x = some .local ∨ (env.kindOf x = some .cell ∧ ∃ c, env.cells.lookup x = some c))
    (k : ∀ s', St A F B h₀ S₀ env own ((x, P) :: ρ) s₀ s' → Q () s') : wpAny (model prog w) A (storeName env x v) Q E s := I.store' hP hx fun s' J _ => k s' J

/-! ## statements: a step of execs -/
abbrev SS (env : Env) (own : List (Addr × Ow)) (S₀ : List Addr) : List Addr := addrs env own ++ S₀

abbrev Kd (env : Env) (x : Str) : Prop := env.kindOf x = some .local ∨ (env.kindOf x = some .cell ∧ ∃ c, env.cells.lookup x = some c)

theorem x_assign {x : Str} {px pos : Pos} {e : Expr} {rest : List Stmt} (P : Pd) {Q : Flow → Shared → Prop} {E : Value → Shared → Prop} (I : St A F B h₀ S₀ env own ρ s₀ s)
    (hev : Ev prog w A F B (SS env own S₀) s.heap env e P) (hx : Kd env x) (k : ∀ s', St A F B h₀ S₀ env own ((x, P) :: ρ) s₀ s' → wpAny (model prog w) A (execs rest env) Q E s')
    (hs : swapsWith e (some (.Name x px)) pos.line env = pure false := by rfl) :
    wpAny (model prog w) A (execs (.Assign [.Name x px] e pos :: rest) env) Q E s :=
  wpAny_execs_cons (wpAny_Assign_Name (hev s _ E I.ok .refl fun v s' g q => (I.go g).store q hx fun s'' I' => k s'' I') hs)
theorem x_return {e : Expr} {pos : Pos} {rest : List Stmt} (P : Pd) {Q : Flow → Shared → Prop} {E : Value → Shared → Prop} (I : St A F B h₀ S₀ env own ρ s₀ s)
    (hev : Ev prog w A F B (SS env own S₀) s.heap env e P) (k : ∀ v s', St A F B h₀ S₀ env own ρ s₀ s' → P v (fz (SS env own S₀) s'.heap) → Q (.ret v) s') :
    wpAny (model prog w) A (execs (.Return (some e) pos :: rest) env) Q E s :=
  wpAny_execs_cons (wpAny_Return_some (hev s _ E I.ok .refl fun v s' g q => k v s' (I.go g) q))
theorem x_if {t : Expr} {b o rest : List Stmt} {pos : Pos} (c : Bool) {Q : Flow → Shared → Prop} {E : Value → Shared → Prop} (I : St A F B h₀ S₀ env own ρ s₀ s)
    (hev : Tr prog w A F B (SS env own S₀) s.heap env t c) (k : ∀ s', St A F B h₀ S₀ env own ρ s₀ s' → wpAny (model prog w) A (execs (if c then b else o) env) (fun f s' => match f with | .next => wpAny (model prog w) A (execs rest env) Q E s' | f => Q f s') E s') :
    wpAny (model prog w) A (execs (.If t b o pos :: rest) env) Q E s :=
  wpAny_execs_cons (wpAny_If (hev s _ E I.ok .refl fun d s' g q => by
    have := k s' (I.go g)
    subst q
    cases d <;> exact this))
theorem x_nil {Q : Flow → Shared → Prop} {E : Value → Shared → Prop} (k : Q .next s) : wpAny (model prog w) A (execs [] env) Q E s := wpAny_execs_nil k
theorem x_assert {t : Expr} {m : Option Expr} {rest : List Stmt} {pos : Pos} {Q : Flow → Shared → Prop} {E : Value → Shared → Prop} (I : St A F B h₀ S₀ env own ρ s₀ s)
    (hev : Tr prog w A F B (SS env own S₀) s.heap env t true) (k : ∀ s', St A F B h₀ S₀ env own ρ s₀ s' → wpAny (model prog w) A (execs rest env) Q E s') :
    wpAny (model prog w) A (execs (.Assert t m pos :: rest) env) Q E s :=
  wpAny_execs_cons (wpAny_Assert_holds (hev s _ E I.ok .refl fun d s' g q => ⟨q, k s' (I.go g)⟩))
theorem ld_var {h : Heap} {S : List Addr} {x : Str} {P : Pd} (hk : env.scope.kind = .function) (V : Vr S env h x P) (hn : (x == ("__classdict__" : Str)) = false) : Do prog w A F B S h (loadName env x) P.p := fun s Q E o l k => by
  obtain ⟨v, H, p⟩ := V.le l o.fs
  have q : Q v s := k v s .refl p
  rcases H with ⟨h1, m, h2, h3⟩ | ⟨h1 | h1, c, h2, h3⟩
  · exact wpAny_loadName_local hk h1 h2 h3 q
  · exact wpAny_loadName_cell hk h1 h2 h3 q
  · exact wpAny_loadName_free hk h1 h2 h3 q hn
theorem x_aug {x : Str} {px pos : Pos} {op : Operator} {e : Expr} {rest : List Stmt} (P : Pd) {P1 P2 : Pd} {Q : Flow → Shared → Prop} {E : Value → Shared → Prop} (I : St A F B h₀ S₀ env own ρ s₀ s)
    (hv : ρ.lookup x = some P1) (hev : Ev prog w A F B (SS env own S₀) s.heap env e P2)
    (z : ∀ a b h', Le F B s.heap h' → Ok A F B (SS env own S₀) h' → P1 a (fz (SS env own S₀) h') → P2 b (fz (SS env own S₀) h') → Do prog w A F B (SS env own S₀) h' (inplaceOp op a b) P.p)
    (hx : Kd env x) (k : ∀ s', St A F B h₀ S₀ env own ((x, P) :: ρ) s₀ s' → wpAny (model prog w) A (execs rest env) Q E s')
    (hn : (x == ("__classdict__" : Str)) = false := by decide) :
    wpAny (model prog w) A (execs (.AugAssign (.Name x px) op e pos :: rest) env) Q E s :=
  wpAny_execs_cons (wpAny_AugAssign_Name (ld_var I.en.kf (I.var hv) hn s _ E I.ok .refl fun a s1 g1 q1 => hev s1 _ E (I.ok.le g1.le) g1.le fun b s2 g2 q2 =>
    z a b s2.heap (g1.le.trans g2.le) (I.ok.le (g1.le.trans g2.le)) (P1.mono ((I.ok.le g1.le).fz g2.le) q1) q2 s2 _ E (I.ok.le (g1.le.trans g2.le)) .refl fun r s3 g3 q3 =>
      (((I.go g1).go g2).go g3).store q3 hx fun s'' I' => k s'' I'))

/-! ## names in expressions -/
theorem ev_v {x : Str} {pos : Pos} {P : Pd} (I : St A F B h₀ S₀ env own ρ s₀ s) (hv : ρ.lookup x = some P) (hd : (x == ("__debug__" : Str)) = false := by decide) (hn : (x == ("__classdict__" : Str)) = false := by decide) :
    Ev prog w A F B (SS env own S₀) s.heap env (.Name x pos) P := ev_var I.en.kf (I.var hv) hd hn
theorem ev_g {h : Heap} {S : List Addr} {x : Str} {pos : Pos} {v : Value} (en : En env) (G : GN B x v) (hx : env.kindOf x = some .globalImplicit := by rfl) (hd : (x == ("__debug__" : Str)) = false := by decide) :
    Ev prog w A F B S h env (.Name x pos) (isv v) := ev_glob en.kf en.gl en.bu hx G hd
end
end Mine

/-! ### Base7 -/
namespace Mine
open PySem PySem.W PySem.Calls PyProof.Rows

theorem fz_sub {S S' : List Addr} {h : Heap} (k : ∀ a ∈ S', a ∈ S) : (fz S h).StaysIn (fz S' h) := fun b o e => fz_get (fz_in e).1 fun m => (fz_in e).2 (k b m)
theorem FunFrames_keep {base h h' : Heap} : ∀ {l : List Env}, (∀ b ∈ l.filterMap (·.frame), ∀ o, h.get? b = some o → h'.get? b = some o) → h.FunFrames base l → h'.FunFrames base l
  | [], _, _ => trivial
  | e :: r, k, ⟨hk, ⟨L, o, hf, hn, ho, hd⟩, hr⟩ => by
    rw [List.filterMap_cons, hf] at k
    exact ⟨hk, ⟨L, o, hf, hn, k L (.head _) o ho, hd⟩, FunFrames_keep (fun b m => k b (.tail _ m)) hr⟩
theorem Fs.keepF {A : Around} {F : List Addr} {B h h' : Heap} (x : Fs A F B h) (k : ∀ b ∈ F, ∀ o, h.get? b = some o → h'.get? b = some o) : Fs A F B h' := by
  obtain ⟨outer, h1, h2, h3⟩ := x
  exact ⟨outer, h1, h2, FunFrames_keep (by rw [h2]; exact k) h3⟩

section
variable {prog : Program} {w : World} {A : Around} {F : List Addr} {B h₀ : Heap} {S₀ : List Addr} {env : Env} {own own' : List (Addr × Ow)} {ρ ρ' : List (Str × Pd)} {s₀ s s' : Shared}

theorem St.F_SS (I : St A F B h₀ S₀ env own ρ s₀ s) : ∀ a ∈ F, a ∈ SS env own S₀ := I.ok.fs

/-- the heap is turned at an own thing -/
theorem St.owned {D : Addr} {ow ow' : Ow} {h' : Heap} {tk : Nat} (I : St A F B h₀ S₀ env ((D, ow) :: own) ρ s₀ s) (k : ∀ b o, b ≠ D → s.heap.get? b = some o → h'.get? b = some o)
    (hD : ∃ o, h'.get? D = some o ∧ ow'.p o (fz (SS env ((D, ow) :: own) S₀) h')) : St A F B h₀ S₀ env ((D, ow') :: own) ρ s₀ { s with heap := h', toks := tk } := by
  have hm : D ∈ addrs env ((D, ow) :: own) := .tail _ (List.mem_append_right _ (.head _))
  have fzs : (fz (SS env ((D, ow) :: own) S₀) s.heap).StaysIn (fz (SS env ((D, ow) :: own) S₀) h') := fz_turned (List.mem_append_left _ hm) k
  have nd := I.nd
  have dF : D ∉ F := I.nF D (List.mem_append_right _ (.head _))
  have dL : env.locals ≠ D := fun q => by
    rw [List.nodup_cons] at nd
    exact nd.1 (q ▸ List.mem_append_right _ (.head _))
  have dC : ∀ p ∈ env.cells, p.2 ≠ D := fun p hp q => by
    have := (List.nodup_append.mp (List.nodup_cons.mp nd).2).2.2
    exact this p.2 (List.mem_map_of_mem hp) D (.head _) q
  have dO : ∀ q ∈ own, q.1 ≠ D := fun q hq e => by
    have := (List.nodup_append.mp (List.nodup_cons.mp nd).2).2.1
    rw [List.map_cons, List.nodup_cons] at this
    exact this.1 (by have := List.mem_map_of_mem (f := (·.1)) hq; rw [e] at this; exact this)
  have hna : h₀.get? D = none := I.fresh D hm
  refine ⟨⟨fun b o e => ?_, I.ok.fr.keepF fun b m o e => k b o (fun q => dF (q ▸ m)) e, I.ok.fs, fun b m => ?_⟩, I.hB, I.old.step I.hB fun b o ⟨o1, e1⟩ e => k b o (fun q => by rw [q, hna] at e1; cases e1) e, I.fresh, I.nd, I.nF, let ⟨m, n⟩ := I.loc; ⟨m, n.at' fun o e => k _ o dL e⟩, fun p hp => ?_, fun x P e => ?_, fun q hq => ?_, ?_, I.en, I.dis⟩
  · exact k b o (fun q => by have := I.hB b o e; rw [q, hna] at this; cases this) (I.ok.bh b o e)
  · by_cases q : b = D
    · obtain ⟨o, e, _⟩ := hD; exact ⟨o, q ▸ e⟩
    · obtain ⟨o, e⟩ := I.ok.al b m; exact ⟨o, k b o q e⟩
  · obtain ⟨u, o, e, d⟩ := I.cel p hp
    exact ⟨u, o, k _ o (dC p hp) e, d⟩
  · obtain ⟨u, H, p⟩ := I.vars x P e
    refine ⟨u, ?_, P.mono fzs p⟩
    rcases H with ⟨h1, m1, n1, e1⟩ | ⟨h1, c1, e1, o1, g1, d1⟩
    · exact .inl ⟨h1, m1, n1.at' fun o e => k _ o dL e, e1⟩
    · exact .inr ⟨h1, c1, e1, o1, k _ o1 (dC _ (cells_lookup_mem e1)) g1, d1⟩
  · rcases List.mem_cons.mp hq with rfl | hq
    · exact hD
    · obtain ⟨o, e, p⟩ := I.owns q (.tail _ hq)
      exact ⟨o, k _ o (dO q hq) e, q.2.mono fzs p⟩
  · obtain ⟨h1, t1, e⟩ := I.same
    exact ⟨h', tk, by rw [e]⟩

/-- a thing of one's own comes in -/
theorem St.gain {D : Addr} {ow : Ow} {h' : Heap} {tk : Nat} (I : St A F B h₀ S₀ env own ρ s₀ s) (hD : s.heap.get? D = none) (l : Le F B s.heap h') (hO : ∃ o, h'.get? D = some o ∧ ow.p o (fz (D :: SS env own S₀) h')) :
    St A F B h₀ S₀ env ((D, ow) :: own) ρ s₀ { s with heap := h', toks := tk } := by
  have J := I.go (s' := { s with heap := h', toks := tk }) ⟨h', tk, rfl, l⟩
  have nS : D ∉ SS env own S₀ := fun m => by obtain ⟨o, e⟩ := I.ok.al D m; rw [hD] at e; cases e
  have sub1 : ∀ a ∈ SS env ((D, ow) :: own) S₀, a ∈ D :: SS env own S₀ := fun a m => by
    rcases List.mem_append.mp m with m | m
    · rcases List.mem_cons.mp m with rfl | m
      · exact .tail _ (.head _)
      · rcases List.mem_append.mp m with m | m
        · exact .tail _ (List.mem_append_left _ (.tail _ (List.mem_append_left _ m)))
        · rcases List.mem_cons.mp m with rfl | m
          · exact .head _
          · exact .tail _ (List.mem_append_left _ (.tail _ (List.mem_append_right _ m)))
    · exact .tail _ (List.mem_append_right _ m)
  have sub2 : ∀ a ∈ SS env own S₀, a ∈ SS env ((D, ow) :: own) S₀ := fun a m => by
    rcases List.mem_append.mp m with m | m
    · rcases List.mem_cons.mp m with rfl | m
      · exact List.mem_append_left _ (.head _)
      · rcases List.mem_append.mp m with m | m
        · exact List.mem_append_left _ (.tail _ (List.mem_append_left _ m))
        · exact List.mem_append_left _ (.tail _ (List.mem_append_right _ (.tail _ m)))
    · exact List.mem_append_right _ m
  have fzs : (fz (SS env own S₀) s.heap).StaysIn (fz (SS env ((D, ow) :: own) S₀) h') := fz_le l I.ok.fs fun a m => by
    rcases List.mem_cons.mp (sub1 a m) with rfl | m
    · exact .inr hD
    · exact .inl m
  have hna : h₀.get? D = none := by
    cases e : h₀.get? D with
    | none => rfl
    | some o => obtain ⟨o', e'⟩ := I.old.alive e; rw [hD] at e'; cases e'
  have nA : D ∉ addrs env own := fun m => nS (List.mem_append_left _ m)
  refine ⟨⟨J.ok.bh, J.ok.fr, fun a m => sub2 a (I.ok.fs a m), fun a m => ?_⟩, I.hB, J.old, fun a m => ?_, ?_, fun a m => ?_, J.loc, J.cel, fun x P e => ?_, fun q hq => ?_, J.same, I.en, fun a m => ?_⟩
  · rcases List.mem_cons.mp (sub1 a m) with rfl | m
    · obtain ⟨o, e, _⟩ := hO; exact ⟨o, e⟩
    · exact J.ok.al a m
  · rcases List.mem_cons.mp (sub1 a (List.mem_append_left _ m)) with rfl | m'
    · exact hna
    · rcases List.mem_cons.mp m with rfl | m
      · exact I.fresh _ (.head _)
      · rcases List.mem_append.mp m with m | m
        · exact I.fresh _ (.tail _ (List.mem_append_left _ m))
        · rcases List.mem_cons.mp m with rfl | m
          · exact hna
          · exact I.fresh _ (.tail _ (List.mem_append_right _ m))
  · have nd := I.nd
    rw [List.nodup_cons] at nd ⊢
    obtain ⟨n1, n2⟩ := nd
    rw [List.nodup_append] at n2
    refine ⟨fun m => ?_, ?_⟩
    · rcases List.mem_append.mp m with m | m
      · exact n1 (List.mem_append_left _ m)
      · rcases List.mem_cons.mp m with q | m
        · exact nA (by rw [show D = env.locals from q.symm]; exact .head _)
        · exact n1 (List.mem_append_right _ m)
    · rw [List.nodup_append]
      refine ⟨n2.1, ?_, fun a ha b hb => ?_⟩
      · rw [List.map_cons, List.nodup_cons]
        exact ⟨fun m => nA (.tail _ (List.mem_append_right _ m)), n2.2.1⟩
      · rcases List.mem_cons.mp hb with rfl | hb
        · rintro rfl; exact nA (.tail _ (List.mem_append_left _ ha))
        · exact n2.2.2 a ha b hb
  · rcases List.mem_append.mp m with m | m
    · exact I.nF a (List.mem_append_left _ m)
    · rcases List.mem_cons.mp m with rfl | m
      · exact fun q => nS (I.ok.fs _ q)
      · exact I.nF a (List.mem_append_right _ m)
  · obtain ⟨v, H, p⟩ := I.vars x P e
    exact ⟨v, H.le l, P.mono fzs p⟩
  · rcases List.mem_cons.mp hq with rfl | hq
    · obtain ⟨o, e, p⟩ := hO
      exact ⟨o, e, ow.mono (fz_sub sub1) p⟩
    · obtain ⟨o, e, p⟩ := I.owns q hq
      exact ⟨o, l.keep _ o e (I.nF _ (List.mem_append_right _ (List.mem_map_of_mem hq))), q.2.mono fzs p⟩
  · rcases List.mem_cons.mp m with rfl | m
    · exact I.dis _ (.head _)
    · rcases List.mem_append.mp m with m | m
      · exact I.dis _ (.tail _ (List.mem_append_left _ m))
      · rcases List.mem_cons.mp m with rfl | m
        · exact fun q => nS (List.mem_append_right _ q)
        · exact I.dis _ (.tail _ (List.mem_append_right _ m))

/-- more is hidden -/
theorem St.grow {wr : List Addr} {h' : Heap} {tk : Nat} (I : St A F B h₀ S₀ env own ρ s₀ s) (hw : ∀ b ∈ wr, s.heap.get? b = none) (l : Le F B s.heap h') (al : ∀ b ∈ wr, ∃ o, h'.get? b = some o) :
    St A F B h₀ (wr ++ S₀) env own ρ s₀ { s with heap := h', toks := tk } := by
  have J := I.go (s' := { s with heap := h', toks := tk }) ⟨h', tk, rfl, l⟩
  have cas : ∀ a ∈ SS env own (wr ++ S₀), a ∈ SS env own S₀ ∨ a ∈ wr := fun a m => by
    rcases List.mem_append.mp m with m | m
    · exact .inl (List.mem_append_left _ m)
    · rcases List.mem_append.mp m with m | m
      · exact .inr m
      · exact .inl (List.mem_append_right _ m)
  have sub : ∀ a ∈ SS env own S₀, a ∈ SS env own (wr ++ S₀) := fun a m => by
    rcases List.mem_append.mp m with m | m
    · exact List.mem_append_left _ m
    · exact List.mem_append_right _ (List.mem_append_right _ m)
  have fzs : (fz (SS env own S₀) s.heap).StaysIn (fz (SS env own (wr ++ S₀)) h') := fz_le l I.ok.fs fun a m => (cas a m).imp id (hw a)
  refine ⟨⟨J.ok.bh, J.ok.fr, fun a m => sub a (I.ok.fs a m), fun a m => ?_⟩, I.hB, J.old, I.fresh, I.nd, I.nF, J.loc, J.cel, fun x P e => ?_, fun q hq => ?_, J.same, I.en, fun a m q => ?_⟩
  · rcases cas a m with m | m
    · exact J.ok.al a m
    · exact al a m
  · obtain ⟨v, H, p⟩ := I.vars x P e
    exact ⟨v, H.le l, P.mono fzs p⟩
  · obtain ⟨o, e, p⟩ := I.owns q hq
    exact ⟨o, l.keep _ o e (I.nF _ (List.mem_append_right _ (List.mem_map_of_mem hq))), q.2.mono fzs p⟩
  · rcases List.mem_append.mp q with q | q
    · obtain ⟨o, e⟩ := I.ok.al a (List.mem_append_left _ m); rw [hw a q] at e; cases e
    · exact I.dis a m q
theorem St.shrink {wr : List Addr} (I : St A F B h₀ (wr ++ S₀) env own ρ s₀ s) (hF : ∀ a ∈ F, a ∈ SS env own S₀) : St A F B h₀ S₀ env own ρ s₀ s := by
  have sub : ∀ a ∈ SS env own S₀, a ∈ SS env own (wr ++ S₀) := fun a m => by
    rcases List.mem_append.mp m with m | m
    · exact List.mem_append_left _ m
    · exact List.mem_append_right _ (List.mem_append_right _ m)
  exact ⟨⟨I.ok.bh, I.ok.fr, hF, fun a m => I.ok.al a (sub a m)⟩, I.hB, I.old, I.fresh, I.nd, I.nF, I.loc, I.cel, fun x P e => let ⟨v, H, p⟩ := I.vars x P e; ⟨v, H, P.mono (fz_sub sub) p⟩, fun q hq => let ⟨o, e, p⟩ := I.owns q hq; ⟨o, e, q.2.mono (fz_sub sub) p⟩, I.same, I.en, fun a m q => I.dis a m (List.mem_append_right _ q)⟩
/-- the hidden things turn -/
theorem St.wrTurned {wr : List Addr} {h' : Heap} {tk : Nat} (I : St A F B h₀ (wr ++ S₀) env own ρ s₀ s) (k : ∀ b o, b ∉ wr → s.heap.get? b = some o → h'.get? b = some o) (al : ∀ b ∈ wr, ∃ o, h'.get? b = some o)
    (hw : ∀ b ∈ wr, b ∉ SS env own S₀) (hF : ∀ b ∈ wr, b ∉ F) (h0 : ∀ b ∈ wr, h₀.get? b = none) : St A F B h₀ (wr ++ S₀) env own ρ s₀ { s with heap := h', toks := tk } := by
  have fzs : (fz (SS env own (wr ++ S₀)) s.heap).StaysIn (fz (SS env own (wr ++ S₀)) h') := fun b o e => fz_get (k b o (fun m => (fz_in e).2 (List.mem_append_right _ (List.mem_append_left _ m))) (fz_in e).1) (fz_in e).2
  have nA : ∀ a ∈ addrs env own, a ∉ wr := fun a m q => hw a q (List.mem_append_left _ m)
  have nL : env.locals ∉ wr := nA _ (.head _)
  have nC : ∀ p ∈ env.cells, p.2 ∉ wr := fun p hp => nA _ (.tail _ (List.mem_append_left _ (List.mem_map_of_mem (f := (·.2)) hp)))
  have nO : ∀ q ∈ own, q.1 ∉ wr := fun q hq => nA _ (.tail _ (List.mem_append_right _ (List.mem_map_of_mem (f := (·.1)) hq)))
  refine ⟨⟨fun b o e => k b o (fun m => by have := I.hB b o e; rw [h0 b m] at this; cases this) (I.ok.bh b o e), I.ok.fr.keepF fun b m o e => k b o (fun q => hF b q m) e, I.ok.fs, fun b m => ?_⟩, I.hB, I.old.step I.hB fun b o ⟨o1, e1⟩ e => k b o (fun m => by rw [h0 b m] at e1; cases e1) e, I.fresh, I.nd, I.nF, let ⟨m, n⟩ := I.loc; ⟨m, n.at' fun o e => k _ o nL e⟩, fun p hp => ?_, fun x P e => ?_, fun q hq => ?_, ?_, I.en, I.dis⟩
  · by_cases q : b ∈ wr
    · exact al b q
    · obtain ⟨o, e⟩ := I.ok.al b m; exact ⟨o, k b o q e⟩
  · obtain ⟨u, o, e, d⟩ := I.cel p hp
    exact ⟨u, o, k _ o (nC p hp) e, d⟩
  · obtain ⟨u, H, p⟩ := I.vars x P e
    refine ⟨u, ?_, P.mono fzs p⟩
    rcases H with ⟨h1, m1, n1, e1⟩ | ⟨h1, c1, e1, o1, g1, d1⟩
    · exact .inl ⟨h1, m1, n1.at' fun o e => k _ o nL e, e1⟩
    · exact .inr ⟨h1, c1, e1, o1, k _ o1 (nC _ (cells_lookup_mem e1)) g1, d1⟩
  · obtain ⟨o, e, p⟩ := I.owns q hq
    exact ⟨o, k _ o (nO q hq) e, q.2.mono fzs p⟩
  · obtain ⟨h1, t1, e⟩ := I.same
    exact ⟨h', tk, by rw [e]⟩

/-- a call's own part, told anew from here -/
theorem St.reroot (I : St A F B h₀ S₀ env own ρ s₀ s) : St A F B (fz (addrs env own) s.heap) S₀ env own ρ s s := by
  have hB : B.StaysIn (fz (addrs env own) s.heap) := fun b o e => fz_get (I.ok.bh b o e) fun m => by
    have := I.hB b o e
    rw [I.fresh b m] at this; cases this
  refine ⟨I.ok, hB, ⟨fun _ => I.ok.bh, fun a o e n => (fz_in e).1, fun a o e => ⟨o, (fz_in e).1, rfl⟩⟩, fun a m => ?_, I.nd, I.nF, I.loc, I.cel, I.vars, I.owns, ⟨s.heap, s.toks, rfl⟩, I.en, I.dis⟩
  cases e : (fz (addrs env own) s.heap).get? a with
  | none => rfl
  | some o => exact absurd m (fz_in e).2
theorem St.back {S₁ : List Addr} (I : St A F B h₀ S₁ env own ρ s₀ s) (I' : St A F B (fz (addrs env own) s.heap) S₀ env own' ρ' s s') (ha : own'.map (·.1) = own.map (·.1)) : St A F B h₀ S₀ env own' ρ' s₀ s' := by
  have eA : addrs env own' = addrs env own := by unfold addrs; rw [ha]
  have toG : Le F B h₀ (fz (addrs env own) s.heap) := ⟨fun _ => I'.hB, fun a o e n => fz_get (I.old.keep a o e n) fun m => (by rw [I.fresh a m] at e; cases e), fun a o e => by
    obtain ⟨o', e', d'⟩ := I.old.data a o e
    exact ⟨o', fz_get e' fun m => (by rw [I.fresh a m] at e; cases e), d'⟩⟩
  refine ⟨I'.ok, I.hB, toG.trans I'.old, fun a m => I.fresh a (eA ▸ m), I'.nd, I'.nF, I'.loc, I'.cel, I'.vars, I'.owns, ?_, I.en, I'.dis⟩
  obtain ⟨h1, t1, rfl⟩ := I.same
  obtain ⟨h2, t2, rfl⟩ := I'.same
  exact ⟨h2, t2, rfl⟩
/-- an own thing is given up: it stands among the frozen things -/
theorem St.freeze {D : Addr} {ow : Ow} (I : St A F B h₀ S₀ env ((D, ow) :: own) ρ s₀ s) (hF : ∀ a ∈ F, a ∈ SS env own S₀) : St A F B h₀ S₀ env own ρ s₀ s ∧ ∃ o, (fz (SS env own S₀) s.heap).get? D = some o ∧ ow.p o (fz (SS env own S₀) s.heap) ∧ s.heap.get? D = some o := by
  have sub2 : ∀ a ∈ SS env own S₀, a ∈ SS env ((D, ow) :: own) S₀ := fun a m => by
    rcases List.mem_append.mp m with m | m
    · rcases List.mem_cons.mp m with rfl | m
      · exact List.mem_append_left _ (.head _)
      · rcases List.mem_append.mp m with m | m
        · exact List.mem_append_left _ (.tail _ (List.mem_append_left _ m))
        · exact List.mem_append_left _ (.tail _ (List.mem_append_right _ (.tail _ m)))
    · exact List.mem_append_right _ m
  have subA : ∀ a ∈ addrs env own, a ∈ addrs env ((D, ow) :: own) := fun a m => by
    rcases List.mem_cons.mp m with rfl | m
    · exact .head _
    · rcases List.mem_append.mp m with m | m
      · exact .tail _ (List.mem_append_left _ m)
      · exact .tail _ (List.mem_append_right _ (.tail _ m))
  have nd := I.nd
  rw [List.nodup_cons] at nd
  obtain ⟨n1, n2⟩ := nd
  rw [List.nodup_append] at n2
  refine ⟨⟨⟨I.ok.bh, I.ok.fr, hF, fun a m => I.ok.al a (sub2 a m)⟩, I.hB, I.old, fun a m => I.fresh a (subA a m), ?_, fun a m => ?_, I.loc, I.cel, fun x P e => let ⟨v, H, p⟩ := I.vars x P e; ⟨v, H, P.mono (fz_sub sub2) p⟩, fun q hq => let ⟨o, e, p⟩ := I.owns q (.tail _ hq); ⟨o, e, q.2.mono (fz_sub sub2) p⟩, I.same, I.en, fun a m => I.dis a (subA a m)⟩, ?_⟩
  · rw [List.nodup_cons, List.nodup_append]
    refine ⟨fun m => n1 ?_, n2.1, (List.nodup_cons.mp n2.2.1).2, fun a ha b hb => n2.2.2 a ha b (.tail _ hb)⟩
    rcases List.mem_append.mp m with m | m
    · exact List.mem_append_left _ m
    · exact List.mem_append_right _ (.tail _ m)
  · refine I.nF a ?_
    rcases List.mem_append.mp m with m | m
    · exact List.mem_append_left _ m
    · exact List.mem_append_right _ (.tail _ m)
  · obtain ⟨o, e, p⟩ := I.owns (D, ow) (.head _)
    refine ⟨o, fz_get e fun m => ?_, ow.mono (fz_sub sub2) p, e⟩
    rcases List.mem_append.mp m with m | m
    · rcases List.mem_cons.mp m with q | m
      · exact n1 (by rw [← show D = env.locals from q]; exact List.mem_append_right _ (.head _))
      · rcases List.mem_append.mp m with m | m
        · exact n2.2.2 D m D (.head _) rfl
        · exact (List.nodup_cons.mp n2.2.1).1 m
    · exact I.dis D (.tail _ (List.mem_append_right _ (.head _))) m
end
end Mine

/-! ### Base8 -/
namespace Mine
open PySem PySem.W PySem.Calls PyProof.Rows

section
variable {prog : Program} {w : World} {A : Around} {F : List Addr} {B h₀ : Heap} {S₀ : List Addr} {env : Env} {own own' : List (Addr × Ow)} {ρ ρ' : List (Str × Pd)} {s₀ s s' : Shared}

abbrev LE (prog : Program) (w : World) (A : Around) (env : Env) (E : Value → Shared → Prop) : Value → Shared → Prop := notedBy (model prog w) A env fun e s' => cameBackBy (model prog w) A env E e s'

theorem St.wrDone {wr : List Addr} {h' : Heap} {tk : Nat} (I : St A F B h₀ (wr ++ S₀) env own ρ s₀ s) (k : ∀ b o, b ∉ wr → s.heap.get? b = some o → h'.get? b = some o)
    (hw : ∀ b ∈ wr, b ∉ SS env own S₀) (hF : ∀ b ∈ wr, b ∉ F) (h0 : ∀ b ∈ wr, h₀.get? b = none) (hFS : ∀ a ∈ F, a ∈ SS env own S₀) : St A F B h₀ S₀ env own ρ s₀ { s with heap := h', toks := tk } := by
  have sub : ∀ a ∈ SS env own S₀, a ∈ SS env own (wr ++ S₀) := fun a m => by
    rcases List.mem_append.mp m with m | m
    · exact List.mem_append_left _ m
    · exact List.mem_append_right _ (List.mem_append_right _ m)
  have fzs : (fz (SS env own (wr ++ S₀)) s.heap).StaysIn (fz (SS env own S₀) h') := fun b o e => fz_get (k b o (fun m => (fz_in e).2 (List.mem_append_right _ (List.mem_append_left _ m))) (fz_in e).1) fun m => (fz_in e).2 (sub b m)
  have nA : ∀ a ∈ addrs env own, a ∉ wr := fun a m q => hw a q (List.mem_append_left _ m)
  have nL : env.locals ∉ wr := nA _ (.head _)
  have nC : ∀ p ∈ env.cells, p.2 ∉ wr := fun p hp => nA _ (.tail _ (List.mem_append_left _ (List.mem_map_of_mem (f := (·.2)) hp)))
  have nO : ∀ q ∈ own, q.1 ∉ wr := fun q hq => nA _ (.tail _ (List.mem_append_right _ (List.mem_map_of_mem (f := (·.1)) hq)))
  refine ⟨⟨fun b o e => k b o (fun m => by have := I.hB b o e; rw [h0 b m] at this; cases this) (I.ok.bh b o e), I.ok.fr.keepF fun b m o e => k b o (fun q => hF b q m) e, hFS, fun b m => ?_⟩, I.hB, I.old.step I.hB fun b o ⟨o1, e1⟩ e => k b o (fun m => by rw [h0 b m] at e1; cases e1) e, I.fresh, I.nd, I.nF, let ⟨m, n⟩ := I.loc; ⟨m, n.at' fun o e => k _ o nL e⟩, fun p hp => ?_, fun x P e => ?_, fun q hq => ?_, ?_, I.en, fun a m q => I.dis a m (List.mem_append_right _ q)⟩
  · obtain ⟨o, e⟩ := I.ok.al b (sub b m); exact ⟨o, k b o (fun q => hw b q m) e⟩
  · obtain ⟨u, o, e, d⟩ := I.cel p hp
    exact ⟨u, o, k _ o (nC p hp) e, d⟩
  · obtain ⟨u, H, p⟩ := I.vars x P e
    refine ⟨u, ?_, P.mono fzs p⟩
    rcases H with ⟨h1, m1, n1, e1⟩ | ⟨h1, c1, e1, o1, g1, d1⟩
    · exact .inl ⟨h1, m1, n1.at' fun o e => k _ o nL e, e1⟩
    · exact .inr ⟨h1, c1, e1, o1, k _ o1 (nC _ (cells_lookup_mem e1)) g1, d1⟩
  · obtain ⟨o, e, p⟩ := I.owns q hq
    exact ⟨o, k _ o (nO q hq) e, q.2.mono fzs p⟩
  · obtain ⟨h1, t1, e⟩ := I.same
    exact ⟨h', tk, by rw [e]⟩

theorem x_for {target iter : Expr} {body rest : List Stmt} {pos : Pos} {n : Nat} {item : Nat → Value → Heap → Heap → Prop} {Q : Flow → Shared → Prop} {E : Value → Shared → Prop}
    (I : St A F B h₀ S₀ env own ρ s₀ s) (hit : Itr prog w A F B (SS env own S₀) s.heap target (eval iter env) n item)
    (own' : Nat → List (Addr × Ow)) (ρ' ρt : Nat → List (Str × Pd)) (K : Nat → Prop) (ha : ∀ i, (own' i).map (·.1) = own.map (·.1)) (h0 : own' 0 = own) (hρ : Sub ρ (ρ' 0)) (hK : K 0)
    (hasg : ∀ i v s1 sb hb S₁ (Q' : Unit → Shared → Prop) (E' : Value → Shared → Prop), i < n → St A F B hb S₁ env (own' i) (ρ' i) sb s1 → item i v (fz (SS env (own' i) S₁) s1.heap) s1.heap →
      (∀ s2, St A F B hb S₁ env (own' i) (ρt i ++ ρ' i) sb s2 → Q' () s2) → wpAny (model prog w) A (assign target env v) Q' E' s1)
    (turn : ∀ i s1 sb hb S₁ (Q' : Flow → Shared → Prop), i < n → K i → (∀ a ∈ S₀, a ∈ S₁) → St A F B hb S₁ env (own' i) (ρt i ++ ρ' i) sb s1 → (∀ s2, St A F B hb S₁ env (own' (i + 1)) (ρ' (i + 1)) sb s2 → K (i + 1) → Q' .next s2 ∧ Q' .cont s2) →
      (∀ ownb ρb s2, ownb.map (·.1) = own.map (·.1) → St A F B hb S₁ env ownb ρb sb s2 → St A F B h₀ S₀ env ownb ρb s₀ s2) →
      (∀ f s2, f ≠ .next → f ≠ .cont → (match f with | .brk => wpAny (model prog w) A (execs rest env) Q E s2 | f => Q f s2) → Q' f s2) →
      wpAny (model prog w) A (execs body env) Q' (LE prog w A env E) s1)
    (after : ∀ s', St A F B h₀ S₀ env (own' n) (ρ' n) s₀ s' → K n → wpAny (model prog w) A (execs rest env) Q E s')
    (hs : ∀ x, foldedSetIterable iter env x = pure x := by intro _; rfl) :
    wpAny (model prog w) A (execs (.For target iter body [] pos :: rest) env) Q E s := by
  have I0 := I
  refine wpAny_execs_cons (wpAny_For (hit s _ _ I.ok .refl fun Ia fp wr P Md Stt h₁ tk₁ W hst hl₁ hwr hfS hwf hlive hself hitem => ?_) hs)
  have eA : ∀ i, addrs env (own' i) = addrs env own := fun i => by unfold addrs; rw [ha]
  have wS : ∀ b ∈ wr, b ∉ SS env own S₀ := fun b m => hfS b (hwf b m)
  have wF : ∀ b ∈ wr, b ∉ F := fun b m q => wS b m (I.ok.fs b q)
  have w0 : ∀ b ∈ wr, h₀.get? b = none := fun b m => by
    cases e : h₀.get? b with
    | none => rfl
    | some o => obtain ⟨o', e'⟩ := I.old.alive e; rw [hwr b m] at e'; cases e'
  have J0 : St A F B h₀ (wr ++ S₀) env (own' 0) (ρ' 0) s₀ { s with heap := h₁, toks := tk₁ } := by
    rw [h0]
    exact (I.sub hρ).grow hwr hl₁ fun b m => hlive 0 h₁ hst b (hwf b m)
  have hF : ∀ i, ∀ a ∈ F, a ∈ SS env (own' i) S₀ := fun i a m => by
    have := I.ok.fs a m
    show a ∈ addrs env (own' i) ++ S₀
    rw [eA]; exact this
  have sub0 : (fz (wr ++ SS env own S₀) h₁).StaysIn (fz (wr ++ SS env own S₀) h₁) := fun _ _ e => e
  refine codeAny_forLoop_any (fun k s' => ∃ i, i ≤ n ∧ k = n + 1 - i ∧ St A F B h₀ (wr ++ S₀) env (own' i) (ρ' i) s₀ s' ∧ Stt i s'.heap ∧ K i ∧ (fz (wr ++ SS env own S₀) h₁).StaysIn (fz (SS env own (wr ++ S₀)) s'.heap)) ?_ (n + 1)
    ⟨0, Nat.zero_le _, rfl, J0, hst, hK, ?_⟩
  · rintro k s' ⟨i, hi, rfl, J, st, hKi, hfz⟩
    have hS' : ∀ b o, (fz (wr ++ SS env own S₀) h₁).get? b = some o → True := fun _ _ _ => trivial
    by_cases hlt : i < n
    · refine W.item i _ _ _ hlt st fun v hA tka hMd hka => ?_
      refine W.go i v _ _ _ hMd fun hb hP stb hkb => ?_
      have kb : ∀ b o, b ∉ wr → s'.heap.get? b = some o → hb.get? b = some o := fun b o nb e => hkb b o nb (hka b o nb e)
      have wSi : ∀ b ∈ wr, b ∉ SS env (own' i) S₀ := fun b m q => by
        have : b ∈ addrs env (own' i) ++ S₀ := q
        rw [eA] at this; exact wS b m this
      have Jb : St A F B h₀ (wr ++ S₀) env (own' i) (ρ' i) s₀ { s' with heap := hb, toks := tka } := J.wrTurned kb (fun b m => hlive (i + 1) hb stb b (hwf b m)) wSi wF w0
      have Jr := Jb.reroot
      have fzb : (fz (wr ++ SS env own S₀) h₁).StaysIn (fz (SS env own (wr ++ S₀)) hb) := fun b o e => by
        have e1 := hfz b o e
        exact fz_get (kb b o (fun m => (fz_in e1).2 (List.mem_append_right _ (List.mem_append_left _ m))) (fz_in e1).1) (fz_in e1).2
      refine hasg i v _ _ _ _ _ _ hlt Jr (by
        have := hitem i v hb (SS env own (wr ++ S₀)) hlt hP fzb
        show item i v (fz (addrs env (own' i) ++ (wr ++ S₀)) hb) hb
        rw [eA]; exact this) fun s2 J2 => ?_
      have fin : ∀ (own₂ : List (Addr × Ow)) (ρ₂ : List (Str × Pd)) (s3 : Shared), own₂.map (·.1) = own.map (·.1) → St A F B (fz (addrs env (own' i)) hb) (wr ++ S₀) env own₂ ρ₂ { s' with heap := hb, toks := tka } s3 →
          St A F B h₀ (wr ++ S₀) env own₂ ρ₂ s₀ s3 ∧ Stt (i + 1) s3.heap ∧ (fz (wr ++ SS env own S₀) h₁).StaysIn (fz (SS env own (wr ++ S₀)) s3.heap) := by
        intro own₂ ρ₂ s3 h2 J3
        have e2 : addrs env own₂ = addrs env own := by unfold addrs; rw [h2]
        refine ⟨Jb.back J3 (h2.trans (ha i).symm), W.frame _ _ _ stb fun b m o e => ?_, fun b o e => ?_⟩
        · refine J3.old.keep b o (fz_get e fun q => ?_) fun q => hfS b m (I0.ok.fs b q)
          rw [eA] at q; exact hfS b m (List.mem_append_left _ q)
        · have e1 := fzb b o e
          obtain ⟨e3, n3⟩ := fz_in e1
          refine fz_get (J3.old.keep b o (fz_get e3 fun q => n3 (List.mem_append_left _ (by rw [eA] at q; exact q))) fun q => n3 ?_) n3
          rcases List.mem_append.mp (I0.ok.fs b q) with q | q
          · exact List.mem_append_left _ q
          · exact List.mem_append_right _ (List.mem_append_right _ q)
      refine turn i s2 _ _ _ _ hlt hKi (fun a m => List.mem_append_right _ m) J2 (fun s3 J3 hK3 => ?_) (fun ownb ρb s3 hb' J3 => ?_) fun f s3 nf nc hx => ?_
      · obtain ⟨f1, f2, f3⟩ := fin _ _ s3 (ha (i + 1)) J3
        have : ∃ m, m < n + 1 - i ∧ ∃ i, i ≤ n ∧ m = n + 1 - i ∧ St A F B h₀ (wr ++ S₀) env (own' i) (ρ' i) s₀ s3 ∧ Stt i s3.heap ∧ K i ∧ (fz (wr ++ SS env own S₀) h₁).StaysIn (fz (SS env own (wr ++ S₀)) s3.heap) :=
          ⟨n + 1 - (i + 1), by omega, i + 1, hlt, rfl, f1, f2, hK3, f3⟩
        exact ⟨this, this⟩
      · obtain ⟨f1, _, _⟩ := fin ownb ρb s3 hb' J3
        have hFb : ∀ a ∈ F, a ∈ SS env ownb S₀ := fun a m => by
          have := I0.ok.fs a m
          show a ∈ addrs env ownb ++ S₀
          have e2 : addrs env ownb = addrs env own := by unfold addrs; rw [hb']
          rw [e2]; exact this
        exact f1.shrink hFb
      · cases f with
        | next => exact absurd rfl nf
        | cont => exact absurd rfl nc
        | brk => exact hx
        | ret v => exact hx
    · have : i = n := by omega
      subst this
      refine W.done _ _ _ st fun hA tka hka => ?_
      have wSi : ∀ b ∈ wr, b ∉ SS env (own' i) S₀ := fun b m q => by
        have : b ∈ addrs env (own' i) ++ S₀ := q
        rw [eA] at this; exact wS b m this
      exact wpAny_execs_nil (after _ (J.wrDone hka wSi wF w0 (hF i)) hKi)
  · intro b o e
    refine fz_get (fz_in e).1 fun m => (fz_in e).2 ?_
    rcases List.mem_append.mp m with m | m
    · exact List.mem_append_right _ (List.mem_append_left _ m)
    · rcases List.mem_append.mp m with m | m
      · exact List.mem_append_left _ m
      · exact List.mem_append_right _ (List.mem_append_right _ m)

theorem asgSt_one {x : Str} {px : Pos} {d : PyData} {sb s1 : Shared} {hb : Heap} {S₁ : List Addr} {v : Value} {Q' : Unit → Shared → Prop} {E' : Value → Shared → Prop}
    (hx : Kd env x) (J : St A F B hb S₁ env own ρ sb s1) (p : (dat d) v (fz (SS env own S₁) s1.heap)) (k : ∀ s2, St A F B hb S₁ env own ((x, dat d) :: ρ) sb s2 → Q' () s2) : wpAny (model prog w) A (assign (.Name x px) env v) Q' E' s1 :=
  wpAny_assign_Name (J.store p hx k)
theorem asgSt_two {x y : Str} {px py tp : Pos} {kk : Nat} {d e : PyData} {sb s1 : Shared} {hb : Heap} {S₁ : List Addr} {v : Value} {Q' : Unit → Shared → Prop} {E' : Value → Shared → Prop} (hh : A.handled = none)
    (hx : Kd env x) (hy : Kd env y) (J : St A F B hb S₁ env own ρ sb s1) (p : itwo d e v (fz (SS env own S₁) s1.heap) s1.heap)
    (k : ∀ s2, St A F B hb S₁ env own ((y, dat e) :: (x, dat d) :: ρ) sb s2 → Q' () s2) : wpAny (model prog w) A (assign (.Tuple [.Name x px, .Name y py] kk tp) env v) Q' E' s1 := by
  obtain ⟨T, a, b, rfl, hT, ha, hb'⟩ := p
  refine wpAny_assign_Tuple hh hT rfl rfl fun h' hx' => ?_
  have J' := J.go (s' := { s1 with heap := h', toks := s1.toks }) ⟨h', s1.toks, rfl, .of_keeps fun b o e => hx' b o (Nat.ne_of_lt (Heap.lt_size e)) e⟩
  have st := J.ok.fz (Le.of_keeps (F := F) (B := B) fun b o e => hx' b o (Nat.ne_of_lt (Heap.lt_size e)) e)
  show wpAny _ _ (do PySem.holding [b] (assign (.Name x px) env a); do PySem.holding [] (assign (.Name y py) env b); pure ()) _ _ _
  refine wpAny_bind (wpAny_holding (wpAny_assign_Name (J'.store' (P := dat d) ((dat d).mono st ha) hx fun s2 J2 st2 => ?_)))
  exact wpAny_bind (wpAny_holding (wpAny_assign_Name (J2.store (P := dat e) ((dat e).mono st2 ((dat e).mono st hb')) hy fun s3 J3 => wpAny_pure (k s3 J3))))

theorem x_while {test : Expr} {body rest : List Stmt} {pos : Pos} {m : Nat} {Q : Flow → Shared → Prop} {E : Value → Shared → Prop} (I : St A F B h₀ S₀ env own ρ s₀ s)
    (own' : Nat → List (Addr × Ow)) (ρ' : Nat → List (Str × Pd)) (h0 : own' 0 = own) (hρ : Sub ρ (ρ' 0))
    (ht : ∀ i s1, i ≤ m → St A F B h₀ S₀ env (own' i) (ρ' i) s₀ s1 → Tr prog w A F B (SS env (own' i) S₀) s1.heap env test (decide (i < m)))
    (turn : ∀ i s1 (Q' : Flow → Shared → Prop), i < m → St A F B h₀ S₀ env (own' i) (ρ' i) s₀ s1 → (∀ s2, St A F B h₀ S₀ env (own' (i + 1)) (ρ' (i + 1)) s₀ s2 → Q' .next s2) → wpAny (model prog w) A (execs body env) Q' (LE prog w A env E) s1)
    (after : ∀ s', St A F B h₀ S₀ env (own' m) (ρ' m) s₀ s' → wpAny (model prog w) A (execs rest env) Q E s') :
    wpAny (model prog w) A (execs (.While test body [] pos :: rest) env) Q E s := by
  refine wpAny_execs_cons (wpAny_While (codeAny_whileLoop (fun k s' => ∃ i, i ≤ m ∧ k = m - i ∧ St A F B h₀ S₀ env (own' i) (ρ' i) s₀ s') ?_ m ⟨0, Nat.zero_le _, by omega, by rw [h0]; exact I.sub hρ⟩))
  rintro k s' ⟨i, hi, rfl, J⟩
  refine ht i s' hi J s' _ _ J.ok .refl fun b s2 g q => ?_
  subst q
  have J2 := J.go g
  by_cases hlt : i < m
  · rw [if_pos (by simpa using hlt)]
    refine turn i s2 _ hlt J2 fun s3 J3 => ?_
    exact ⟨m - (i + 1), by omega, i + 1, hlt, rfl, J3⟩
  · have : i = m := by omega
    subst this
    rw [if_neg (by simp)]
    exact wpAny_execs_nil (after s2 J2)

/-- a tree that makes a thing of one's own -/
def Nw (prog : Program) (w : World) (A : Around) (F : List Addr) (B : Heap) (S : List Addr) (h : Heap) (t : Sem Value) (ow : Ow) : Prop :=
  ∀ s (Q : Value → Shared → Prop) (E : Value → Shared → Prop), Ok A F B S s.heap → Le F B h s.heap →
    (∀ D h' tk, s.heap.get? D = none → (D == sysModules) = false → Le F B s.heap h' → (∃ o, h'.get? D = some o ∧ ow.p o (fz (D :: S) h')) → Q (.ref D) { s with heap := h', toks := tk }) → wpAny (model prog w) A t Q E s

theorem x_own {x : Str} {px pos : Pos} {e : Expr} {rest : List Stmt} {ow : Ow} {Q : Flow → Shared → Prop} {E : Value → Shared → Prop} (I : St A F B h₀ S₀ env own ρ s₀ s)
    (hev : Nw prog w A F B (SS env own S₀) s.heap (eval e env) ow) (hx : Kd env x) (k : ∀ D s', (D == sysModules) = false → St A F B h₀ S₀ env ((D, ow) :: own) ((x, isv (.ref D)) :: ρ) s₀ s' → wpAny (model prog w) A (execs rest env) Q E s')
    (hs : swapsWith e (some (.Name x px)) pos.line env = pure false := by rfl) :
    wpAny (model prog w) A (execs (.Assign [.Name x px] e pos :: rest) env) Q E s :=
  wpAny_execs_cons (wpAny_Assign_Name (hev s _ E I.ok .refl fun D h' tk hD hm l hO => (I.gain (tk := tk) hD l hO).store (P := isv (.ref D)) rfl hx fun s'' I' => k D s'' hm I') hs)

theorem fresh_notModules {s : Shared} (hlim : B.NoLimit) (hb : B.StaysIn s.heap) : (s.heap.objs.size == sysModules) = false := by
  have := modules_low (hlim.keeps hb)
  exact beq_eq_false_iff_ne.mpr (Nat.ne_of_gt this)
theorem nw_newList {S : List Addr} {h : Heap} {vs : List Value} {ds : List PyData} (hlim : B.NoLimit) (hsz : vs.length ≤ sizeLine) (x : all ds vs (fz S h)) : Nw prog w A F B S h (newObj (.type "list") (.seq vs.toArray)) (owl ds) := fun s Q E o l k => by
  refine wpAny_newObj_type ?_ (by show vs.toArray.size ≤ sizeLine; rw [List.size_toArray]; exact hsz)
  have fr : s.heap.get? s.heap.objs.size = none := by
    cases e : s.heap.get? s.heap.objs.size with
    | none => rfl
    | some o => exact absurd (Heap.lt_size e) (Nat.lt_irrefl _)
  refine k _ _ s.toks fr (fresh_notModules hlim o.bh) (.push _) ⟨_, Heap.get?_push_size _ rfl, _, _, rfl, ?_⟩
  refine all.mono (fz_le (l.trans (.push _)) o.fs fun a m => ?_) (by simpa using x)
  rcases List.mem_cons.mp m with rfl | m
  · refine .inr ?_
    cases e : h.get? s.heap.objs.size with
    | none => rfl
    | some o => obtain ⟨o', e'⟩ := l.alive e; rw [fr] at e'; cases e'
  · exact .inl m
theorem St.head {D : Addr} {ow : Ow} (I : St A F B h₀ S₀ env ((D, ow) :: own) ρ s₀ s) : ∃ o, s.heap.get? D = some o ∧ ow.p o (fz (SS env ((D, ow) :: own) S₀) s.heap) := I.owns (D, ow) (.head _)
theorem nw_bind {S : List Addr} {h : Heap} {α : Type} {t : Sem α} {f : α → Sem Value} {P : α → Heap → Prop} {ow : Ow} (x : Do prog w A F B S h t P)
    (y : ∀ a h', Le F B h h' → Ok A F B S h' → P a (fz S h') → Nw prog w A F B S h' (f a) ow) : Nw prog w A F B S h (t >>= f) ow := fun s Q E o l k =>
  wpAny_bind (x s _ E o l fun a s' g q => y a s'.heap (l.trans g.le) (o.le g.le) q s' Q E (o.le g.le) .refl fun D h' tk hD hm l' hO => by
    obtain ⟨h1, t1, rfl, l1⟩ := g
    refine k D h' tk ?_ hm (l1.trans l') hO
    cases e : s.heap.get? D with
    | none => rfl
    | some o => obtain ⟨o', e'⟩ := l1.alive e; rw [hD] at e'; cases e')
theorem nw_list {S : List Addr} {h : Heap} {es : List Expr} {pos : Pos} {ds : List PyData} {l : List (Bool × Sem Value)} (hlim : B.NoLimit) (y : Do prog w A F B S h (spliced l) (all ds)) (hsz : ds.length ≤ sizeLine) (hl : backTo pos (starEach es env) = l := by rfl) : Nw prog w A F B S h (eval (.List es pos) env) (owl ds) := by
  show Nw _ _ _ _ _ _ _ (do standAt pos; newList (← spliced (backTo pos (starEach es env)))) _
  rw [hl]
  refine nw_bind (P := fun _ _ => True) (fun s Q E o l k => wpAny_standAt (k _ s .refl trivial)) fun _ h1 l1 o1 _ => nw_bind (y.up l1) fun vs h2 l2 o2 q2 => ?_
  exact nw_newList hlim (by rw [q2.length]; exact hsz) q2

/-- the calls that are no part of the logic -/
theorem wp_callWith {pos : Pos} {f : Value} {first : List Value} {l : List (Bool × Sem Value)} {kws : List (Option Str × Sem Value)} {Q : Value → Shared → Prop} {E : Value → Shared → Prop} (K : Kp prog w B f)
    (h : wpAny (model prog w) A (evalArgs f true l kws) (fun a s1 => B.StaysIn s1.heap ∧ wpAny (model prog w) A (call f (first ++ a.pos) a.kw) Q E s1) E s) : wpAny (model prog w) A (callWith pos f first l kws) Q E s := by
  unfold callWith
  refine wpAny_bind (wpAny_holding (wpAny_mono h (fun a s1 h1 => wpAny_bind (wpAny_standAt ?_)) fun _ _ x => x))
  obtain ⟨hb, c⟩ := h1
  obtain ⟨kk, hk, hK⟩ := K
  refine wpAny_bind (m := keeperOf f) (hK A s1 _ E hb ?_)
  have tail : ∀ {t : Sem Value}, wpAny (model prog w) A t Q E s1 → wpAny (model prog w) A (t >>= fun r => PySem.holding [r] point >>= fun _ => pure r) Q E s1 :=
    fun ht => wpAny_bind (wpAny_mono ht (fun r s₂ hr => wpAny_bind (wpAny_holding (wpAny_point (wpAny_pure hr)))) fun _ _ x => x)
  have marked (mk : Value) : wpAny (model prog w) A (callMarked mk f (first ++ a.pos) a.kw) Q E s1 := by unfold callMarked; exact wpAny_keep c
  have oper (vs : List Value) : wpAny (model prog w) A (PySem.operate vs (call f (first ++ a.pos) a.kw)) Q E s1 := by
    unfold PySem.operate
    exact wpAny_bind (wpAny_holding (wpAny_mono c (fun r s2 hr => wpAny_bind (wpAny_release' (wpAny_pure hr))) fun _ _ x => x))
  rcases hk with rfl | rfl <;> cases hs : (l.any (·.1) || kws.any (·.1.isNone)) <;> dsimp only
  · split
    · exact tail c
    · exact tail (marked _)
  · exact tail (marked _)
  · exact tail c
  · exact tail (oper _)
end
end Mine

/-! ### Base9 -/
namespace Mine
open PySem PySem.W PySem.Calls PyProof.Rows

section
variable {prog : Program} {w : World} {A : Around} {F : List Addr} {B h₀ : Heap} {S₀ : List Addr} {env : Env} {own own' : List (Addr × Ow)} {ρ ρ' : List (Str × Pd)} {s₀ s s' : Shared}

/-- a list comprehension that is stored under a local name -/
theorem x_asg_comp {x : Str} {px apos : Pos} {rest : List Stmt} {elt target iter : Expr} {ifs : List Expr} {scope : Scope} {pos : Pos} {cl : List (Str × Addr)} {n : Nat} {item : Nat → Value → Heap → Heap → Prop} {Q : Flow → Shared → Prop} {E : Value → Shared → Prop}
    (I : St A F B h₀ S₀ env own ρ s₀ s) (vp : Nat → (Str → Option Value) → Heap → Prop) (keep : Nat → Bool) (out : Nat → PyData) {l : List PyData}
    (hit : Itr prog w A F B (SS env own S₀) s.heap target (eval iter env) n item) (hasg : ∀ i, i < n → Asg prog w A target (fun C => compEnvC scope cl C env) (item i) (vp i))
    (htest : ∀ i S' h' C, i < n → Tn A F B (SS env own S₀) s.heap S' h' C (vp i) → Do prog w A F B S' h' (tests ifs (compEnvC scope cl C env)) (fun ok _ => ok = keep i))
    (helt : ∀ i S' h' C, i < n → keep i = true → Tn A F B (SS env own S₀) s.heap S' h' C (vp i) → Ev prog w A F B S' h' (compEnvC scope cl C env) elt (dat (out i)))
    (hvp : ∀ i m g g', g.StaysIn g' → vp i m g → vp i m g') (hl : outs keep out n = l) (hsz : n ≤ sizeLine) (hx : Kd env x)
    (k : ∀ s', St A F B h₀ S₀ env own ((x, plist l) :: ρ) s₀ s' → wpAny (model prog w) A (execs rest env) Q E s')
    (hclos : closureFor scope env = pure cl := by rfl) (hcell : ∀ y ∈ scope.names, y.2 ≠ .cell := by decide) (hkind : scope.kind = .function := by rfl)
    (hnames : ∀ x ∈ scope.names, x.2 = .local → scope.names.lookup x.1 = some .local := by decide)
    (hs : ∀ x, foldedSetIterable iter env x = pure x := by intro _; rfl)
    (hsw : swapsWith (.ListComp elt [⟨target, iter, ifs, 0⟩] scope pos) (some (.Name x px)) apos.line env = pure true := by rfl) :
    wpAny (model prog w) A (execs (.Assign [.Name x px] (.ListComp elt [⟨target, iter, ifs, 0⟩] scope pos) apos :: rest) env) Q E s := by
  subst hl
  refine wpAny_execs_cons ?_
  rw [exec_Assign_Name_used x px _ apos hsw]
  refine wpAny_bind (wpAny_standAt (wpAny_bind ?_))
  show wpAny _ _ (do let _ ← comprehension (.ListComp elt [⟨target, iter, ifs, 0⟩] scope pos) scope env (firstIterPos [⟨target, iter, ifs, 0⟩] pos) (newList []) false (eval iter env) (some (assign (.Name x px) env)); pure ()) _ _ _
  refine wpAny_bind (wpAny_comprehension_free rfl hs hclos hkind hnames ?_)
  refine comp_core keep out hcell hkind hsz hit hasg htest helt hvp I.ok .refl (fun acc C => compPost (model prog w) A E (some (assign (.Name x px) env)) _ acc C) E fun D C h' tk m' hD hC hDC hn hle hp => ?_
  have J : St A F B h₀ ([C] ++ S₀) env own ρ s₀ { s with heap := h', toks := tk } := I.grow (fun b m => by rw [List.mem_singleton.mp m]; exact hC) hle fun b m => by
    rw [List.mem_singleton.mp m]
    obtain ⟨o, _, _, e, _⟩ := hn; exact ⟨o, e⟩
  have Cn : C ∉ SS env own S₀ := fun m => by obtain ⟨o, e⟩ := I.ok.al C m; rw [hC] at e; cases e
  have CF : C ∉ F := fun m => Cn (I.ok.fs C m)
  have C0 : h₀.get? C = none := by
    cases e : h₀.get? C with
    | none => rfl
    | some o => obtain ⟨o', e'⟩ := I.old.alive e; rw [hC] at e'; cases e'
  have sub : ∀ a ∈ SS env own ([C] ++ S₀), a ∈ C :: SS env own S₀ := fun a m => by
    rcases List.mem_append.mp m with m | m
    · exact .tail _ (List.mem_append_left _ m)
    · rcases List.mem_append.mp m with m | m
      · rw [List.mem_singleton.mp m]; exact .head _
      · exact .tail _ (List.mem_append_right _ m)
  show wpAny _ _ (assign (.Name x px) env (.ref D)) _ _ _
  refine wpAny_assign_Name (J.reroot.store (P := plist (outs keep out n)) ((plist _).mono (fz_sub sub) hp) hx fun s2 J2 => ?_)
  have hk : ∀ o, h'.get? C = some o → s2.heap.get? C = some o := fun o e => J2.old.keep C o (fz_get e fun m => Cn (List.mem_append_left _ m)) CF
  refine ⟨m', hn.at' hk, fun h'' hs'' => ?_⟩
  have J3 := J.back J2 rfl
  have J4 : St A F B h₀ S₀ env own ((x, plist (outs keep out n)) :: ρ) s₀ { s2 with heap := h'', toks := s2.toks } := J3.wrDone (fun b o nb e => hs''.extBut b o (fun q => nb (by rw [q]; exact .head _)) e)
    (fun b m => by rw [List.mem_singleton.mp m]; exact Cn) (fun b m => by rw [List.mem_singleton.mp m]; exact CF) (fun b m => by rw [List.mem_singleton.mp m]; exact C0) I.ok.fs
  exact wpAny_pure (wpAny_pure (k _ J4))

/-- a method of a list of one's own, as a statement -/
theorem x_meth1 {D : Addr} {ds : List PyData} {P : Pd} {name x : Str} {id : String} {px apos cpos pos : Pos} {e : Expr} {rest : List Stmt} {pl : Sem Bool} {Q : Flow → Shared → Prop} {E : Value → Shared → Prop}
    (I : St A F B h₀ S₀ env ((D, owl ds) :: own) ρ s₀ s) (hv : ρ.lookup x = some (isv (.ref D))) (hev : Ev prog w A F B (SS env ((D, owl ds) :: own) S₀) s.heap env e P)
    (gm : ∀ (s' : Shared) vs (Q' : Value × List Value → Shared → Prop) (E' : Value → Shared → Prop), s'.heap.PlainList D vs → Q' (.builtin id, [.ref D]) s' → wpAny (model prog w) A (getMethod (.ref D) name pl) Q' E' s')
    (k : ∀ v s', St A F B h₀ S₀ env ((D, owl ds) :: own) ρ s₀ s' → P v (fz (SS env ((D, owl ds) :: own) S₀) s'.heap) → wpAny (model prog w) A (call (.builtin id) [.ref D, v] []) (fun _ s2 => wpAny (model prog w) A (execs rest env) Q E s2) E s')
    (hl : backTo cpos (starEach [e] env) = [(false, eval e env)] := by rfl)
    (hd : (x == ("__debug__" : Str)) = false := by decide) (hn : (x == ("__classdict__" : Str)) = false := by decide)
    (he : eval (.Call (.Attribute (.Name x px) name apos) [e] [] cpos) env = (do
      let ov ← eval (.Name x px) env
      standAt apos.atName
      let (f, first) ← PySem.holding [ov] (getMethod ov name pl)
      callWith cpos f first (backTo cpos (starEach [e] env)) []) := by rfl)
    (hsw : swapsWith (.Call (.Attribute (.Name x px) name apos) [e] [] cpos) none pos.line env = pure false := by rfl) :
    wpAny (model prog w) A (execs (.Expr (.Call (.Attribute (.Name x px) name apos) [e] [] cpos) pos :: rest) env) Q E s := by
  have hi : interactive env = false := by unfold interactive; rw [I.en.kf]; rfl
  refine wpAny_execs_cons (wpAny_Expr_any ?_ hi hsw)
  rw [he, hl]
  refine wpAny_bind ((ev_v I hv hd hn) s _ E I.ok .refl fun v s1 g1 q1 => ?_)
  obtain rfl : v = .ref D := q1
  have I1 := I.go g1
  refine wpAny_bind (wpAny_standAt (wpAny_bind (wpAny_holding ?_)))
  obtain ⟨o, ho, vs, n, rfl, hall⟩ := I1.head
  refine gm s1 vs _ _ ⟨n, ho⟩ ?_
  refine wp_callWith (B := B) kp_builtin (evalArgs_plain (spliced_cons (hev s1 _ E I1.ok g1.le fun v s2 g2 q2 => spliced_nil ?_)))
  have I2 := I1.go g2
  exact ⟨I2.ok.bh, wpAny_mono (k v s2 I2 q2) (fun _ s3 q3 => q3) fun _ _ q => q⟩

/-- xs.append(e), of a list of one's own -/
theorem x_append {D : Addr} {ds : List PyData} {d : PyData} {x : Str} {px apos cpos pos : Pos} {e : Expr} {rest : List Stmt} {pl : Sem Bool} {Q : Flow → Shared → Prop} {E : Value → Shared → Prop}
    (I : St A F B h₀ S₀ env ((D, owl ds) :: own) ρ s₀ s) (hv : ρ.lookup x = some (isv (.ref D))) (hev : Ev prog w A F B (SS env ((D, owl ds) :: own) S₀) s.heap env e (dat d)) (hsz : ds.length ≤ sizeLine)
    (k : ∀ s', St A F B h₀ S₀ env ((D, owl (ds ++ [d])) :: own) ρ s₀ s' → wpAny (model prog w) A (execs rest env) Q E s')
    (hl : backTo cpos (starEach [e] env) = [(false, eval e env)] := by rfl)
    (hd : (x == ("__debug__" : Str)) = false := by decide) (hn : (x == ("__classdict__" : Str)) = false := by decide)
    (he : eval (.Call (.Attribute (.Name x px) "append" apos) [e] [] cpos) env = (do
      let ov ← eval (.Name x px) env
      standAt apos.atName
      let (f, first) ← PySem.holding [ov] (getMethod ov "append" pl)
      callWith cpos f first (backTo cpos (starEach [e] env)) []) := by rfl)
    (hsw : swapsWith (.Call (.Attribute (.Name x px) "append" apos) [e] [] cpos) none pos.line env = pure false := by rfl) :
    wpAny (model prog w) A (execs (.Expr (.Call (.Attribute (.Name x px) "append" apos) [e] [] cpos) pos :: rest) env) Q E s := by
  refine x_meth1 I hv hev (fun s' vs Q' E' ⟨n, e⟩ q => Calls.getMethod_list_append e rfl rfl q) (fun v s2 I2 q2 => ?_) hl hd hn he hsw
  obtain ⟨o, ho, vs, n, rfl, hall⟩ := I2.head
  have hlen := hall.length
  refine wpAny_list_append_plain ⟨n, ho⟩ (fun h' hp hsb => ?_) (by rw [← Array.length_toList, hlen]; exact hsz)
  obtain ⟨n', hp⟩ := hp
  refine k _ (I2.owned (tk := s2.toks) (ow' := owl (ds ++ [d])) (fun b o nb e => hsb.extBut b o nb e) ⟨_, hp, _, _, rfl, ?_⟩)
  have st : (fz (SS env ((D, owl ds) :: own) S₀) s2.heap).StaysIn (fz (SS env ((D, owl ds) :: own) S₀) h') := fz_turned (List.mem_append_left _ (.tail _ (List.mem_append_right _ (.head _)))) fun b o nb e => hsb.extBut b o nb e
  rw [Array.toList_push]
  exact (hall.mono st).append (.cons ((dat d).mono st q2) .nil)
end
end Mine

/-! ### Base10 -/
namespace Mine
open PySem PySem.W PySem.Calls PyProof.Rows

/-! ## the functions of the text, by their places -/
def top (i : Nat) : Option Stmt := PySem.Challenge.pw_rt0032_01.main.body[i]?
def fb (i : Nat) : List Stmt := match top i with | some (.FunctionDef _ _ b _ _ _ _ _ _ _) => b | _ => []
def fp (i : Nat) : Arguments := match top i with | some (.FunctionDef _ a _ _ _ _ _ _ _ _) => a | _ => default
def fsc (i : Nat) : Scope := match top i with | some (.FunctionDef _ _ _ _ _ _ s _ _ _) => s | _ => default
def fdOf (i : Nat) (name qual : Str) (dV kV doc pm ct cd : Value) (an : Option Addr) : FuncData :=
  { name, qualname := qual, params := fp i, body := .stmts (fb i), scope := fsc i, globals := mainGlobals, closure := [], defaults := dV, kwdefaults := kV, doc, pyModule := pm, annotations := an, code := cd, closureTuple := ct, builtins := builtinsNs }
/-- the function object of place i, and the name that leads to it -/
structure Fn (B : Heap) (a : Addr) (i : Nat) (dV : Value) : Prop where
  at' : ∃ o name qual kV doc pm ct cd an, B.get? a = some o ∧ o.data = .func (fdOf i name qual dV kV doc pm ct cd an) ∧ B.CodeRec cd qual

structure Rm (A : Around) (n : Nat) : Prop where
  hh : A.handled = none
  dp : A.depth + n ≤ 900
  un : A.units + 4 * n ≤ 5000
theorem Rm.down {A : Around} {n : Nat} {env : Env} (x : Rm A (n + 1)) : Rm (A.deeper env) n := ⟨x.hh, by have := x.dp; rw [PyProof.Rows.depth_deeper]; omega, by have := x.un; rw [Around.deeper_units]; omega⟩
theorem Rm.le {A : Around} {n m : Nat} (x : Rm A n) (h : m ≤ n) : Rm A m := ⟨x.hh, by have := x.dp; omega, by have := x.un; omega⟩
theorem Rm.in1 {A : Around} {n : Nat} (x : Rm A (n + 1)) : Rm A.in1 n := ⟨x.hh, by have := x.dp; show A.depth + n ≤ 900; omega, by have := x.un; show A.units + 1 + 4 * n ≤ 5000; omega⟩

theorem Fs.in1 {A : Around} {F : List Addr} {B h : Heap} (x : Fs A F B h) : Fs A.in1 F B h := x
theorem Ok.in1 {A : Around} {F S : List Addr} {B h : Heap} (x : Ok A F B S h) : Ok A.in1 F B S h := ⟨x.bh, x.fr, x.fs, x.al⟩

theorem cells_names : ∀ (names : List (Str × NameKind)) (n : Nat) (acc : List (Str × Addr)), (cellsFrom n names acc).map (·.1) = ((names.filter (·.2 == .cell)).map (·.1)).reverse ++ acc.map (·.1)
  | [], n, acc => rfl
  | (x, k) :: r, n, acc => by
    unfold cellsFrom
    cases h : (k == NameKind.cell)
    · rw [if_neg (by simp), cells_names r n acc, List.filter_cons, if_neg (by simpa using h)]
    · rw [if_pos rfl, cells_names r (n + 1) _, List.filter_cons, if_pos (by simpa using h)]
      simp
theorem lookup_of_nodup {cl : List (Str × Addr)} (hn : (cl.map (·.1)).Nodup) : ∀ p ∈ cl, cl.lookup p.1 = some p.2 := by
  induction cl with
  | nil => intro p m; cases m
  | cons q r ih =>
    intro p m
    rw [List.map_cons, List.nodup_cons] at hn
    rcases List.mem_cons.mp m with rfl | m'
    · obtain ⟨x, c⟩ := p; simp [List.lookup_cons]
    · have ih' := ih hn.2 p m'
      have : (p.1 == q.1) = false := by
        rw [beq_eq_false_iff_ne]
        intro e
        exact hn.1 (e ▸ List.mem_map_of_mem (f := (·.1)) m')
      obtain ⟨y, d⟩ := q
      rw [List.lookup_cons, this]
      exact ih'

section
variable {prog : Program} {w : World} {A : Around} {F : List Addr} {B h₀ : Heap} {S₀ : List Addr} {env : Env} {own own' : List (Addr × Ow)} {ρ ρ' : List (Str × Pd)} {s₀ s s' : Shared}

def bound (env : Env) (binds : List (Str × Value)) (x : Str) (v : Value) : Prop :=
  (env.kindOf x = some .local ∧ bindL env.kindOf binds (fun _ => none) x = some v) ∨ (env.kindOf x = some .cell ∧ (∃ c, env.cells.lookup x = some c) ∧ bindC env.kindOf binds (fun _ => none) x = some v)

theorem do_call {i : Nat} {a : Addr} {dV : Value} {args : Args} {S : List Addr} {h : Heap} {PB : List (Str × Value) → Heap → Prop} {P : Pd} {n : Nat} (rm : Rm A n) (f : Fn B a i dV) (hlim : B.NoLimit)
    (hbind : ∀ fd name qual kV doc pm ct cd an, fd = fdOf i name qual dV kV doc pm ct cd an → Do prog w A.in1 F B S h (bindArgs fd args) PB) (ρ : List (Str × Pd))
    (hkind : ∀ m binds g, PB binds g → ∀ x ∈ binds, (fsc i).names.lookup x.1 = some .local ∨ ((fsc i).names.lookup x.1 = some .cell ∧ ((cellsFrom m (fsc i).names []).lookup x.1).isSome = true))
    (hρ : ∀ name qual kV doc pm ct cd an L binds g, PB binds g → ∀ x P, ρ.lookup x = some P → ∃ v, P v g ∧ bound (callEnvC (fdOf i name qual dV kV doc pm ct cd an) L a) binds x v)
    (run : ∀ name qual kV doc pm ct cd an L s₁ sb h₀ F' A' env (Q' : Flow → Shared → Prop) (E' : Value → Shared → Prop), env = callEnvC (fdOf i name qual dV kV doc pm ct cd an) L a → A' = A.deeper env → F' = L :: F → (∀ m, Rm A (m + 1) → Rm A' m) → Le F B h h₀ → (∀ a ∈ F, a ∈ S) → (∀ a ∈ S, ∃ o, h₀.get? a = some o) →
      St A' F' B h₀ S env [] ρ sb s₁ →
      (∀ f own' ρ' s', St A' F' B h₀ S env own' ρ' sb s' → P (match f with | .ret v => v | _ => .none) (fz S s'.heap) → Q' f s') →
      wpAny (model prog w) A' (execs (fb i) env) Q' E' s₁)
    (hkf : (fsc i).kind = .function := by rfl) (hco : (fsc i).isCoroutine = false := by rfl) (hgen : (fsc i).isGenerator = false := by rfl)
    (hnd : (((fsc i).names.filter (·.2 == .cell)).map (·.1)).reverse.Nodup := by decide +kernel) :
    Do prog w A F B S h (call (.ref a) args.pos args.kw) P.p := fun s Q E o l k => by
  obtain ⟨ob, name, qual, kV, doc, pm, ct, cd, an, ho, hd, hcd⟩ := f.at'
  have ho' := o.bh _ _ ho
  refine wpAny_call ?_
  refine codeAny_call_function (fd := fdOf i name qual dV kV doc pm ct cd an) (by have := rm.dp; have : recursionLimit = 1000 := rfl; omega) ho' hd hco hgen rfl (hcd.keeps o.bh) ?_
  refine hbind _ name qual kV doc pm ct cd an rfl s _ _ o.in1 l fun binds s1 g1 pb => ?_
  have o1 := o.le g1.le
  refine wpAny_newFunctionEnv_cells hkf (hkind _ binds _ pb) fun env he s2 x => ?_
  have henv : env = callEnvC (fdOf i name qual dV kV doc pm ct cd an) s1.heap.objs.size a := he
  have hL : env.locals = s1.heap.objs.size := by rw [henv]; rfl
  refine ⟨(hlim.keeps o1.bh).keeps x.toInCall.keep, codeAny_func ?_⟩
  have hcells : env.cells = cellsFrom (s1.heap.objs.size + 1) (fsc i).names [] := by rw [henv]; rfl
  have freshL : ∀ b, s1.heap.objs.size ≤ b → s1.heap.get? b = none := fun b hb => by
    cases e : s1.heap.get? b with
    | none => rfl
    | some o => exact absurd (Heap.lt_size e) (Nat.not_lt.mpr hb)
  have cellsAbove : ∀ p ∈ env.cells, s1.heap.objs.size < p.2 := fun p hp => hL ▸ x.above p.1 p.2 hp
  have cellsN : (env.cells.map (·.1)).Nodup := by rw [hcells, cells_names]; simpa using hnd
  have cel : ∀ p ∈ env.cells, ∃ v, s2.heap.IsCell p.2 v := fun p hp => ⟨_, x.cell p.1 p.2 (lookup_of_nodup cellsN p hp)⟩
  have le2 : Le F B s1.heap s2.heap := .of_keeps x.toInCall.keep
  have freshA : ∀ b ∈ addrs env [], s1.heap.get? b = none := fun b m => by
    rcases List.mem_cons.mp m with rfl | m
    · rw [hL]; exact freshL _ (Nat.le_refl _)
    · rcases List.mem_append.mp m with m | m
      · obtain ⟨p, hp, rfl⟩ := List.mem_map.mp m
        exact freshL _ (Nat.le_of_lt (cellsAbove p hp))
      · cases m
  have liveA : ∀ b ∈ addrs env [], ∃ o, s2.heap.get? b = some o := fun b m => by
    rcases List.mem_cons.mp m with rfl | m
    · obtain ⟨o, _, _, e, _⟩ := x.toInCall.ns; exact ⟨o, e⟩
    · rcases List.mem_append.mp m with m | m
      · obtain ⟨p, hp, rfl⟩ := List.mem_map.mp m
        obtain ⟨v, o, e, _⟩ := cel p hp; exact ⟨o, e⟩
      · cases m
  have notS : ∀ b ∈ addrs env [], b ∉ S := fun b m q => by obtain ⟨o, e⟩ := o1.al b q; rw [freshA b m] at e; cases e
  have st : (fz S s1.heap).StaysIn (fz (SS env [] S) s2.heap) := fz_le le2 o1.fs fun b m => by
    rcases List.mem_append.mp m with m | m
    · exact .inr (freshA b m)
    · exact .inl m
  have hfs : Fs (A.deeper env) (env.locals :: F) B s2.heap := by
    obtain ⟨outer, e1, e2, e3⟩ := (o1.le le2).fr
    refine ⟨env :: outer, Around.frames_deeper e1, ?_, ?_⟩
    · rw [List.filterMap_cons, e2, hL, show env.frame = some s1.heap.objs.size from by rw [henv]; rfl]
    · refine ⟨by rw [henv]; show (fsc i).kind ≠ .module; rw [hkf]; decide, ?_, e3⟩
      obtain ⟨oL, es, ep, eL, dL, _⟩ := x.toInCall.ns
      refine ⟨env.locals, oL, by rw [hL, henv]; rfl, ?_, eL, fun vs q => by rw [dL] at q; cases q⟩
      cases e : B.get? env.locals with
      | none => rfl
      | some o => have := o1.bh _ _ e; rw [freshA _ (.head _)] at this; cases this
  have J : St (A.deeper env) (env.locals :: F) B s1.heap S env [] ρ s1 s2 := by
    refine ⟨⟨(o1.le le2).bh, hfs, fun b m => ?_, fun b m => ?_⟩, o1.bh, .of_keeps x.toInCall.keep, freshA, ?_, fun b m q => ?_, ⟨_, x.toInCall.ns⟩, cel, fun y R e => ?_, fun q hq => (by cases hq), x.toInCall.same, ⟨by rw [henv]; exact hkf, by rw [henv]; rfl, by rw [henv]; rfl⟩, notS⟩
    · rcases List.mem_cons.mp m with rfl | m
      · exact List.mem_append_left _ (.head _)
      · exact List.mem_append_right _ (o1.fs b m)
    · rcases List.mem_append.mp m with m | m
      · exact liveA b m
      · exact (o1.le le2).al b m
    · rw [List.nodup_cons]
      refine ⟨fun m => ?_, ?_⟩
      · rcases List.mem_append.mp m with m | m
        · obtain ⟨p, hp, q⟩ := List.mem_map.mp m
          have := cellsAbove p hp
          rw [q, hL] at this; exact Nat.lt_irrefl _ this
        · cases m
      · rw [List.map_nil, List.append_nil, List.Nodup, List.pairwise_map]
        exact x.apart
    · rcases List.mem_append.mp m with m | m
      · obtain ⟨p, hp, rfl⟩ := List.mem_map.mp m
        have h1 := cellsAbove p hp
        rcases List.mem_cons.mp q with e | q
        · rw [e, hL] at h1; exact Nat.lt_irrefl _ h1
        · obtain ⟨o, e⟩ := o1.al _ (o1.fs _ q)
          rw [freshL _ (Nat.le_of_lt h1)] at e; cases e
      · cases m
    · obtain ⟨v, p, hb⟩ := hρ name qual kV doc pm ct cd an s1.heap.objs.size binds _ pb y R e
      refine ⟨v, ?_, R.mono st p⟩
      rw [← henv] at hb
      rcases hb with ⟨b1, b2⟩ | ⟨b1, ⟨c, b2⟩, b3⟩
      · exact .inl ⟨b1, _, x.toInCall.ns, b2⟩
      · exact .inr ⟨.inl b1, c, b2, b3 ▸ x.cell y c b2⟩
  refine run name qual kV doc pm ct cd an s1.heap.objs.size s2 s1 s1.heap (env.locals :: F) (A.deeper env) env _ _ henv rfl (by rw [hL]) (fun m r => r.down) (l.trans g1.le) o1.fs o1.al J fun f own' ρ' s' J' hp => ?_
  have fin : Go F B s s' := by
    obtain ⟨h3, t3, rfl, l3⟩ := J'.done
    refine g1.trans ⟨h3, t3, rfl, ⟨l3.base, fun b o e n => l3.keep b o e fun m => ?_, l3.data⟩⟩
    rcases List.mem_cons.mp m with rfl | m
    · rw [freshA _ (.head _)] at e; cases e
    · exact n m
  exact k _ s' fin hp

theorem bindL_not {kd : Str → Option NameKind} {x : Str} : ∀ {l : List (Str × Value)} {m : Str → Option Value}, (∀ p ∈ l, p.1 ≠ x) → bindL kd l m x = m x
  | [], m, _ => rfl
  | (n, v) :: r, m, h => by
    unfold bindL
    rw [bindL_not fun p q => h p (.tail _ q)]
    have := h (n, v) (.head _)
    split
    · exact if_neg fun e => this e.symm
    · rfl
theorem bindC_not {kd : Str → Option NameKind} {x : Str} : ∀ {l : List (Str × Value)} {m : Str → Option Value}, (∀ p ∈ l, p.1 ≠ x) → bindC kd l m x = m x
  | [], m, _ => rfl
  | (n, v) :: r, m, h => by
    unfold bindC
    rw [bindC_not fun p q => h p (.tail _ q)]
    have := h (n, v) (.head _)
    split
    · rfl
    · exact if_neg fun e => this e.symm
theorem bindL_get {kd : Str → Option NameKind} {x : Str} {v : Value} (hk : kd x = some .local) : ∀ {l : List (Str × Value)} {m : Str → Option Value}, (l.map (·.1)).Nodup → (x, v) ∈ l → bindL kd l m x = some v
  | (n, u) :: r, m, hn, hm => by
    rw [List.map_cons, List.nodup_cons] at hn
    unfold bindL
    rcases List.mem_cons.mp hm with e | hm
    · cases e
      rw [bindL_not fun p q e => hn.1 (by have := List.mem_map_of_mem (f := (·.1)) q; rw [e] at this; exact this), if_pos hk]; exact if_pos rfl
    · exact bindL_get hk hn.2 hm
theorem bindC_get {kd : Str → Option NameKind} {x : Str} {v : Value} (hk : kd x ≠ some .local) : ∀ {l : List (Str × Value)} {m : Str → Option Value}, (l.map (·.1)).Nodup → (x, v) ∈ l → bindC kd l m x = some v
  | (n, u) :: r, m, hn, hm => by
    rw [List.map_cons, List.nodup_cons] at hn
    unfold bindC
    rcases List.mem_cons.mp hm with e | hm
    · cases e
      rw [bindC_not fun p q e => hn.1 (by have := List.mem_map_of_mem (f := (·.1)) q; rw [e] at this; exact this), if_neg hk]; exact if_pos rfl
    · exact bindC_get hk hn.2 hm

def okv : List Value → List Pd → Heap → Prop
  | [], [], _ => True
  | v :: vs, P :: Ps, g => P v g ∧ okv vs Ps g
  | _, _, _ => False
theorem okv.mono {g g' : Heap} (k : g.StaysIn g') : ∀ {vs : List Value} {Ps : List Pd}, okv vs Ps g → okv vs Ps g'
  | [], [], _ => trivial
  | _ :: _, P :: _, ⟨p, r⟩ => ⟨P.mono k p, okv.mono k r⟩
theorem okv.get {g : Heap} : ∀ {xs : List Str} {vs : List Value} {Ps : List Pd}, okv vs Ps g → ∀ x P, (xs.zip Ps).lookup x = some P → ∃ v, P v g ∧ (x, v) ∈ xs.zip vs
  | [], _, _, _, x, P, e => by simp at e
  | y :: xs, [], [], _, x, P, e => by simp at e
  | y :: xs, v :: vs, R :: Ps, ⟨p, r⟩, x, P, e => by
    rw [List.zip_cons_cons, List.lookup_cons] at e
    cases q : (x == y) with
    | true => rw [q] at e; cases e; rw [eq_of_beq q]; exact ⟨v, p, .head _⟩
    | false =>
      rw [q] at e
      obtain ⟨u, pu, m⟩ := r.get x P e
      exact ⟨u, pu, .tail _ m⟩
theorem zip_names_nodup : ∀ {xs : List Str} {vs : List Value}, xs.Nodup → ((xs.zip vs).map (·.1)).Nodup
  | [], _, _ => by simp
  | _ :: _, [], _ => by simp
  | x :: xs, v :: vs, h => by
    rw [List.zip_cons_cons, List.map_cons, List.nodup_cons]
    rw [List.nodup_cons] at h
    refine ⟨fun m => h.1 ?_, zip_names_nodup h.2⟩
    obtain ⟨p, hp, e⟩ := List.mem_map.mp m
    have := (List.of_mem_zip hp).1
    rw [e] at this; exact this
theorem lookup_of_mem_names {n : Nat} {names : List (Str × NameKind)} {x : Str} (h : x ∈ (names.filter (·.2 == .cell)).map (·.1)) : ∃ c, (cellsFrom n names []).lookup x = some c := by
  have m : x ∈ (cellsFrom n names []).map (·.1) := by rw [cells_names]; simpa using h
  obtain ⟨p, hp, rfl⟩ := List.mem_map.mp m
  generalize cellsFrom n names [] = l at hp
  induction l with
  | nil => cases hp
  | cons q r ih =>
    obtain ⟨y, d⟩ := q
    rw [List.lookup_cons]
    cases hq : (p.1 == y) with
    | true => exact ⟨d, rfl⟩
    | false =>
      rcases List.mem_cons.mp hp with rfl | hp
      · simp at hq
      · exact ih hp

/-- a call with plain arguments -/
theorem do_fn {i : Nat} {a : Addr} {dV : Value} {S : List Addr} {h : Heap} {P : Pd} {n : Nat} (rm : Rm A n) (f : Fn B a i dV) (hlim : B.NoLimit) (xs : List Str) {vs : List Value} {Ps : List Pd}
    (hv : okv vs Ps (fz S h))
    (hbind : ∀ name qual kV doc pm ct cd an M A₁ E₁ s₁ (Q₁ : List (Str × Value) → Shared → Prop), B.StaysIn s₁.heap → Q₁ (xs.zip vs) s₁ → wpAny M A₁ (bindArgs (fdOf i name qual dV kV doc pm ct cd an) ⟨vs, []⟩) Q₁ E₁ s₁)
    (run : ∀ name qual kV doc pm ct cd an L s₁ sb h₀ F' A' env (Q' : Flow → Shared → Prop) (E' : Value → Shared → Prop), env = callEnvC (fdOf i name qual dV kV doc pm ct cd an) L a → A' = A.deeper env → F' = L :: F → (∀ m, Rm A (m + 1) → Rm A' m) → Le F B h h₀ → (∀ a ∈ F, a ∈ S) → (∀ a ∈ S, ∃ o, h₀.get? a = some o) →
      St A' F' B h₀ S env [] (xs.zip Ps) sb s₁ →
      (∀ f own' ρ' s', St A' F' B h₀ S env own' ρ' sb s' → P (match f with | .ret v => v | _ => .none) (fz S s'.heap) → Q' f s') →
      wpAny (model prog w) A' (execs (fb i) env) Q' E' s₁)
    (hxs : xs.Nodup := by decide +kernel) (hks : (xs.all fun x => (fsc i).names.lookup x == some .local || ((fsc i).names.lookup x == some .cell && ((fsc i).names.filter (·.2 == .cell)).any fun p => p.1 == x)) = true := by decide +kernel)
    (hkf : (fsc i).kind = .function := by rfl) (hco : (fsc i).isCoroutine = false := by rfl) (hgen : (fsc i).isGenerator = false := by rfl)
    (hnd : (((fsc i).names.filter (·.2 == .cell)).map (·.1)).reverse.Nodup := by decide +kernel) :
    Do prog w A F B S h (call (.ref a) vs []) P.p := by
  have kinds : ∀ x ∈ xs, (fsc i).names.lookup x = some .local ∨ ((fsc i).names.lookup x = some .cell ∧ x ∈ ((fsc i).names.filter (·.2 == .cell)).map (·.1)) := fun x hx => by
    have := List.all_eq_true.mp hks x hx
    rw [Bool.or_eq_true, Bool.and_eq_true] at this
    rcases this with q | ⟨q1, q2⟩
    · exact .inl (eq_of_beq q)
    · refine .inr ⟨eq_of_beq q1, ?_⟩
      obtain ⟨p, hp, e⟩ := List.any_eq_true.mp q2
      exact List.mem_map.mpr ⟨p, hp, eq_of_beq e⟩
  refine do_call (args := ⟨vs, []⟩) (PB := fun binds g => binds = xs.zip vs ∧ okv vs Ps g) rm f hlim ?_ (xs.zip Ps) ?_ ?_ run hkf hco hgen hnd
  · rintro fd name qual kV doc pm ct cd an rfl s Q E o l k
    exact hbind name qual kV doc pm ct cd an _ _ _ s _ o.bh (k _ s .refl ⟨rfl, hv.mono (fz_le l o.fs fun _ m => .inl m)⟩)
  · rintro m binds g ⟨rfl, hok⟩ x hx
    rcases kinds x.1 (List.of_mem_zip hx).1 with q | ⟨q, m'⟩
    · exact .inl q
    · obtain ⟨c, hc⟩ := lookup_of_mem_names (n := m) m'
      exact .inr ⟨q, by rw [hc]; rfl⟩
  · rintro name qual kV doc pm ct cd an L binds g ⟨rfl, hok⟩ x P e
    obtain ⟨v, p, m⟩ := hok.get x P e
    refine ⟨v, p, ?_⟩
    rcases kinds x (List.of_mem_zip m).1 with q | ⟨q, m'⟩
    · exact .inl ⟨q, bindL_get q (zip_names_nodup hxs) m⟩
    · refine .inr ⟨q, lookup_of_mem_names m', bindC_get ?_ (zip_names_nodup hxs) m⟩
      show (fsc i).names.lookup x ≠ _
      rw [q]; decide
end
end Mine

/-! ### Fa1 -/
namespace Mine
open PySem PySem.W PySem.Calls PyProof.Rows

section
variable {prog : Program} {w : World} {A : Around} {F : List Addr} {B : Heap} {S : List Addr} {h : Heap} {env : Env}

theorem fz_up (o : Ok A F B S h) {h' : Heap} (l : Le F B h h') : (fz S h).StaysIn h' := fun b ob e => l.keep b ob (fz_in e).1 fun m => (fz_in e).2 (o.fs b m)
/-- a tree that changes nothing, over frozen things -/
theorem Do.frozen {α : Type} {t : Sem α} {a : α} {P : α → Heap → Prop} (x : ∀ s (Q : α → Shared → Prop) (E : Value → Shared → Prop), (fz S h).StaysIn s.heap → Q a s → wpAny (model prog w) A t Q E s)
    (hp : P a (fz S h)) (hm : ∀ {g g' : Heap}, g.StaysIn g' → P a g → P a g') : Do prog w A F B S h t P := fun s Q E o l k => by
  have fs : ∀ a ∈ F, a ∈ S := o.fs
  exact x s Q E (fun b ob e => l.keep b ob (fz_in e).1 fun m => (fz_in e).2 (fs b m)) (k _ s .refl (hm (fz_le l fs fun _ m => .inl m) hp))
/-- a tree that takes tokens alone -/
theorem Do.tok {α : Type} {t : Sem α} {mk : Tok → α} {P : α → Heap → Prop} (x : ∀ s (Q : α → Shared → Prop) (E : Value → Shared → Prop), (∀ t' k, Q (mk t') { s with toks := k }) → wpAny (model prog w) A t Q E s) (hp : ∀ t' g, P (mk t') g) : Do prog w A F B S h t P := fun s Q E o l k =>
  x s Q E fun t' n => k _ _ (Go.toks n) (hp _ _)
/-! ## a tuple of types -/
def tupv (vs : List Value) : Pd := ⟨fun v g => ∃ a, v = .ref a ∧ g.get? a = some { cls := .type "tuple", data := .seq vs.toArray 0 }, fun k ⟨a, e, p⟩ => ⟨a, e, k _ _ p⟩⟩
theorem do_newTupv {vs : List Value} (hsz : vs.length ≤ sizeLine) : Do prog w A F B S h (newObj (.type "tuple") (.seq vs.toArray)) (tupv vs).p := fun s Q E o l k => by
  refine wpAny_newObj_type ?_ (by show vs.toArray.size ≤ sizeLine; rw [List.size_toArray]; exact hsz)
  exact k _ _ ⟨_, s.toks, rfl, .push _⟩ ⟨_, rfl, fz_get (Heap.get?_push_size _ rfl) o.size⟩
theorem ev_tupv {es : List Expr} {k : Nat} {pos : Pos} {vs : List Value} {l : List (Bool × Sem Value)} (y : Do prog w A F B S h (spliced l) (fun vs' _ => vs' = vs)) (hsz : vs.length ≤ sizeLine) (hl : backTo pos (starEach es env) = l := by rfl) : Ev prog w A F B S h env (.Tuple es k pos) (tupv vs) := by
  show Do _ _ _ _ _ _ _ (do standAt pos; newTuple (← spliced (backTo pos (starEach es env)))) _
  rw [hl]
  refine Do.stand (y.bind fun vs' h1 l1 o1 q1 => ?_)
  subst q1
  exact do_newTupv hsz
end

section
variable {prog : Program} {w : World} {A : Around} {E : Value → Shared → Prop} {s : Shared}
theorem plain_issubclass_nested : plainId "issubclass.nested" = true := by decide +kernel
theorem kind_issubclass_nested : builtinKind "issubclass.nested" = none := by decide +kernel
theorem args_issubclass_nested (a b c : Value) : argsOk "issubclass.nested" ⟨[a, b, c], []⟩ := by unfold argsOk; kernel_rfl
theorem issub_nested_str {k : Value} {dep : Int} {tk : Tok} {Q : Fin → Shared → Prop} (hk : k = .int dep tk) (hq : Q (.done (.ret (.bool true))) s) :
    wpAny (model prog w) A (Builtin.«issubclass.nested» ⟨[.type "str", .type "str", k], []⟩) Q E s := by
  subst hk
  have hm : typeOf (.type "str") = pure (.type "type") := by rfl
  have hself : isSubtype (.type "str") (.type "str") = pure true := by rfl
  repeat (any_goals (first | assumption | (rw [hself]) | wp_step))
theorem call_issub_nested_str {k : Value} {dep : Int} {tk : Tok} {Q : Value → Shared → Prop} (hk : k = .int dep tk) (hq : Q (.bool true) s) :
    wpAny (model prog w) A (call (.builtin "issubclass.nested") [.type "str", .type "str", k] []) Q E s := by
  refine call_function_any kind_issubclass_nested plain_issubclass_nested F.entry_issubclass_nested (args_issubclass_nested _ _ _) ?_
  exact issub_nested_str hk hq
theorem call_issub_str {T : Addr} {o : Obj} {rest : List Value} {n : Nat} {Q : Value → Shared → Prop} (ho : s.heap.get? T = some o) (hc : o.cls = .type "tuple") (hd : o.data = .seq (Value.type "str" :: rest).toArray n) (hq : Q (.bool true) s) :
    wpAny (model prog w) A (call (.builtin "issubclass") [.type "str", .ref T] []) Q E s := by
  refine call_function_any F.kind_issubclass F.plain_issubclass F.entry_issubclass (F.args_issubclass_2 _ _) ?_
  refine issubclass_outer ?_
  unfold Builtin.«issubclass.nested»
  have hT : s.TypeIs (.ref T) "tuple" := ⟨o, ho, hc⟩
  have hst : isSubtype (.type "tuple") (.type "tuple") = pure true := by rfl
  refine wpAny_bind (m := typeOf (.ref T)) (wpAny_typeOf hT ?_)
  show wpAny _ _ (if (Value.type "tuple" == Value.type "type") = true then _ else _) _ _ s
  rw [if_neg (by decide)]
  refine wpAny_bind (m := Builtin.Builtins.unionMembers (.ref T)) ?_
  unfold Builtin.Builtins.unionMembers
  refine wpAny_bind (m := typeOf (.ref T)) (wpAny_typeOf hT ?_)
  rw [if_neg (by decide)]
  refine wpAny_pure ?_
  refine wpAny_bind (m := isInstance (.ref T) (.type "tuple")) (wpAny_isInstance hT hst ?_)
  rw [if_pos rfl]
  show wpAny _ _ (if (0 : Int) ≥ Builtin.Builtins.nestingLimit then _ else _) _ _ s
  rw [if_neg (by decide)]
  refine wpAny_bind (m := seqItems? (.ref T)) (wpAny_seqItems ho hd ?_)
  rw [Option.getD_some, List.forIn_toArray, List.forIn_cons]
  refine wpAny_bind (wpAny_bind (wpAny_bind (call_issub_nested_str rfl ?_)))
  refine wpAny_bind (wpAny_pure ?_)
  simp only [if_true]
  exact wpAny_bind (wpAny_pure (wpAny_pure (wpAny_pure (wpAny_pure hq))))
end
end Mine

/-! ### Fa2 -/
namespace Mine
open PySem PySem.W PySem.Calls PyProof.Rows

/-! ## texts as lists of signs -/
def S (l : List Nat) : Str := ⟨l.toArray⟩
theorem S_len (l : List Nat) : (S l).length = l.length := by show l.toArray.size = _; simp
theorem S_app (l m : List Nat) : S l ++ S m = S (l ++ m) := by
  show Str.append (S l) (S m) = _
  simp [S, Str.append]
theorem S_inj {l m : List Nat} (h : S l = S m) : l = m := by
  have := congrArg (fun x : Str => x.cps.toList) h
  simpa [S] using this
theorem S_of (x : Str) : x = S x.cps.toList := by cases x; simp [S]
theorem S_cps (l : List Nat) : (S l).cps.toList = l := by simp [S]

def sub {α : Type} (lo hi : Option Nat) (l : List α) : List α := (l.take (hi.getD l.length)).drop (lo.getD 0)

theorem picks {α : Type} (l : List α) (a : Nat) : ∀ k, ((List.range k).map (a + ·)).filterMap (l[·]?) = (l.drop a).take k
  | 0 => by simp
  | k + 1 => by
    rw [List.range_succ, List.map_append, List.filterMap_append, picks l a k, List.take_add_one]
    congr 1
    rw [List.getElem?_drop]
    cases h : l[a + k]? <;> simp [h]
theorem ssi_plain (lo hi : Option Nat) (n : Nat) : Builtin.Str.strSliceIndices (lo.map Int.ofNat) (hi.map Int.ofNat) 1 n = (List.range (min (hi.getD n) n - min (lo.getD 0) n)).map (min (lo.getD 0) n + ·) := by
  have key : ∀ a b : Nat, sliceRange (a : Int) (b : Int) 1 = (List.range (b - a)).map (a + ·) := sliceRange_one
  rw [← key]
  have e : ∀ (i : Nat) , (if (Int.ofNat i) < 0 then Int.ofNat i + (n : Int) else Int.ofNat i) = (i : Int) := fun i => if_neg (by simp)
  unfold Builtin.Str.strSliceIndices
  cases lo <;> cases hi <;> simp only [Option.map_none, Option.map_some, Option.getD_none, Option.getD_some, e] <;> simp <;> congr 1 <;> omega
theorem sub_eq {α : Type} (lo hi : Option Nat) (l : List α) : (l.drop (min (lo.getD 0) l.length)).take (min (hi.getD l.length) l.length - min (lo.getD 0) l.length) = sub lo hi l := by
  unfold sub
  rw [List.drop_take]
  generalize lo.getD 0 = a
  generalize hi.getD l.length = b
  rcases Nat.le_total a l.length with ha | ha
  · rw [Nat.min_eq_left ha]
    rcases Nat.le_total b l.length with hb | hb
    · rw [Nat.min_eq_left hb]
    · rw [Nat.min_eq_right hb, List.take_of_length_le (by simp), List.take_of_length_le (by simp; omega)]
  · rw [Nat.min_eq_right ha, List.drop_of_length_le (Nat.le_refl _), List.drop_of_length_le ha]; simp
theorem picks_plain {α : Type} (lo hi : Option Nat) (l : List α) : (Builtin.Str.strSliceIndices (lo.map Int.ofNat) (hi.map Int.ofNat) 1 l.length).filterMap (l[·]?) = sub lo hi l := by
  rw [ssi_plain, picks, sub_eq]
theorem fm_congr {α β : Type} {f g : α → Option β} : ∀ {l : List α}, (∀ a ∈ l, f a = g a) → l.filterMap f = l.filterMap g
  | [], _ => rfl
  | a :: l, h => by rw [List.filterMap_cons, List.filterMap_cons, h a (.head _), fm_congr fun b m => h b (.tail _ m)]
theorem rev_range {α : Type} (l : List α) : (List.range l.length).filterMap (fun k => l[l.length - 1 - k]?) = l.reverse := by
  suffices H : ∀ m : List α, (List.range m.reverse.length).filterMap (fun k => m.reverse[m.reverse.length - 1 - k]?) = m by
    have := H l.reverse
    rwa [List.reverse_reverse] at this
  intro m
  induction m with
  | nil => rfl
  | cons x m ih =>
    rw [List.reverse_cons, List.length_append, List.length_singleton, List.range_succ_eq_map, List.filterMap_cons, List.filterMap_map]
    have e0 : (m.reverse ++ [x])[m.reverse.length + 1 - 1 - 0]? = some x := by simp
    rw [e0]
    dsimp only
    congr 1
    rw [fm_congr (g := fun k => m.reverse[m.reverse.length - 1 - k]?)]
    · exact ih
    · intro k hk
      have hk' := List.mem_range.mp hk
      show (m.reverse ++ [x])[m.reverse.length + 1 - 1 - (k + 1)]? = _
      rw [List.getElem?_append_left (by omega), show m.reverse.length + 1 - 1 - (k + 1) = m.reverse.length - 1 - k from by omega]
theorem ssi_rev (n : Nat) : Builtin.Str.strSliceIndices none none (-1) n = (List.range n).map fun k => n - 1 - k := by
  unfold Builtin.Str.strSliceIndices sliceRange
  simp
  rw [show (if -1 < (n : Int) - 1 then (n : Int) else 0).toNat = n from by split <;> omega]
  refine List.map_congr_left fun k hk => ?_
  omega
theorem picks_rev {α : Type} (l : List α) : (Builtin.Str.strSliceIndices none none (-1) l.length).filterMap (l[·]?) = l.reverse := by
  rw [ssi_rev, List.filterMap_map, ← rev_range]; rfl

section
variable {prog : Program} {w : World} {A : Around} {F : List Addr} {B : Heap} {S₁ : List Addr} {h : Heap} {env : Env}

/-- what a pure operation makes -/
def mval (m : Made) : Pd := ⟨fun v _ => match m with | .val u => v = u | .int i => ∃ t, v = .int i t | .str x => ∃ t, v = .str x t | .float b => ∃ t, v = .float b t | .bytes b => ∃ t, v = .bytes b t | .either _ _ => False, fun _ e => e⟩

theorem z_slice_str {l : List Nat} {lo hi : Option Nat} {a i : Value} (pa : (pstr (S l)) a (fz S₁ h)) (pi : (psl (lo.map Int.ofNat) (hi.map Int.ofNat) none) i (fz S₁ h)) (hsz : l.length ≤ sizeLine) :
    Do prog w A F B S₁ h (getItem a i) (pstr (S (sub lo hi l))).p := fun s Q E o lh k => by
  obtain ⟨t, rfl⟩ := dat_str pa
  obtain ⟨b, l', u', st', rfl, hs, e1, e2, e3⟩ := pi
  have hs' : s.heap.IsSlice b l' u' st' := by obtain ⟨ob, e, r⟩ := hs; exact ⟨ob, lh.keep _ _ (fz_in e).1 (fun m => (fz_in e).2 (o.fs _ m)), r⟩
  have e3' : (st'.map (·.1)).getD 1 = 1 := by rw [e3]; rfl
  refine wpAny_getItem_str_slice hs' (by rw [e3']; rfl) ?_
  unfold sliceMade slicePicked
  rw [e1, e2, e3', show (S l).length = l.length from S_len l]
  have pk : (Builtin.Str.strSliceIndices (lo.map Int.ofNat) (hi.map Int.ofNat) 1 l.length).filterMap ((S l).cps[·]?) = sub lo hi l := by
    rw [← picks_plain]; simp [S]
  rw [pk]
  split
  · rename_i hc
    refine k _ s .refl ?_
    have : sub lo hi l = l := by
      rw [← picks_plain]
      simp only [beq_self_eq_true, Bool.true_and, beq_iff_eq] at hc
      rw [ssi_plain] at hc ⊢
      rw [picks]
      simp at hc
      have h0 : min (lo.getD 0) l.length = 0 ∨ l.length = 0 := by omega
      rcases h0 with h0 | h0
      · rw [h0] at hc ⊢; rw [Nat.sub_zero] at hc ⊢; rw [List.drop_zero, hc, List.take_length]
      · rw [List.length_eq_zero_iff.mp h0]; simp
    rw [this]; exact ⟨_, .str _ _⟩
  · refine ⟨?_, k _ _ (Go.toks _) ⟨_, .str _ _⟩⟩
    show (S (sub lo hi l)).length ≤ _
    rw [S_len]; unfold sub; simp; omega
theorem z_rev_str {l : List Nat} {a i : Value} (pa : (pstr (S l)) a (fz S₁ h)) (pi : (psl none none (some (-1))) i (fz S₁ h)) (hsz : l.length ≤ sizeLine) :
    Do prog w A F B S₁ h (getItem a i) (pstr (S l.reverse)).p := fun s Q E o lh k => by
  obtain ⟨t, rfl⟩ := dat_str pa
  obtain ⟨b, l', u', st', rfl, hs, e1, e2, e3⟩ := pi
  have hs' : s.heap.IsSlice b l' u' st' := by obtain ⟨ob, e, r⟩ := hs; exact ⟨ob, lh.keep _ _ (fz_in e).1 (fun m => (fz_in e).2 (o.fs _ m)), r⟩
  have e3' : (st'.map (·.1)).getD 1 = -1 := by rw [e3]; rfl
  refine wpAny_getItem_str_slice hs' (by rw [e3']; rfl) ?_
  unfold sliceMade slicePicked
  rw [e1, e2, e3', show (S l).length = l.length from S_len l]
  have pk : (Builtin.Str.strSliceIndices none none (-1) l.length).filterMap ((S l).cps[·]?) = l.reverse := by
    rw [← picks_rev]; simp [S]
  rw [pk, if_neg (by simp)]
  refine ⟨?_, k _ _ (Go.toks _) ⟨_, .str _ _⟩⟩
  show (S l.reverse).length ≤ _
  rw [S_len]; simpa using hsz
end
end Mine

/-! ### Fa3 -/
namespace Mine
open PySem PySem.W PySem.Calls PyProof.Rows PySem.SeqAt PySem.Spec

theorem slicePick_ssi (items : Array Value) (lo hi st : Option Int) : slicePick items lo hi st = ((Builtin.Str.strSliceIndices lo hi (st.getD 1) items.size).filterMap (items[·]?)).toArray := rfl
theorem all_sub {ds : List PyData} {vs : List Value} {g : Heap} (x : all ds vs g) (lo hi : Option Nat) : all (sub lo hi ds) (sub lo hi vs) g := by
  refine all.of_get ?_ fun i v d e1 e2 => ?_
  · unfold sub; rw [List.length_drop, List.length_drop, List.length_take, List.length_take, x.length]
  · unfold sub at e1 e2
    rw [List.getElem?_drop, List.getElem?_take] at e1 e2
    rw [← x.length] at e2
    split at e1
    · rename_i hlt
      rw [if_pos hlt] at e2
      obtain ⟨u, e3, p⟩ := x.get e2
      rw [e1] at e3; cases e3; exact p
    · cases e1
theorem all_rev {ds : List PyData} {vs : List Value} {g : Heap} (x : all ds vs g) : all ds.reverse vs.reverse g := by
  refine all.of_get (by simp [x.length]) fun i v d e1 e2 => ?_
  have hi : i < vs.length := by
    have := (List.getElem?_eq_some_iff.mp e1).1; simpa using this
  rw [List.getElem?_reverse hi] at e1
  rw [List.getElem?_reverse (by rw [← x.length]; exact hi), ← x.length] at e2
  obtain ⟨u, e3, p⟩ := x.get e2
  rw [e1] at e3; cases e3; exact p
theorem IsPart_of {p : Option (Int × Tok)} : IsPart (partValue p) (p.map (·.1)) := by
  cases p with
  | none => exact .none
  | some q => exact .int _ _

section
variable {prog : Program} {w : World} {A : Around} {F : List Addr} {B : Heap} {S₁ : List Addr} {h : Heap} {env : Env}

theorem z_pick {vs : List Value} {ds ds' : List PyData} {b l : Addr} {lo hi st : Option Int} {l' u' st' : Option (Int × Tok)} (hl : (fz S₁ h).IsList l vs.toArray) (hs : (fz S₁ h).IsSlice b l' u' st') (e1 : l'.map (·.1) = lo) (e2 : u'.map (·.1) = hi) (e3 : st'.map (·.1) = st) (h0 : st ≠ some 0)
    (hv : all ds' (slicePick vs.toArray lo hi st).toList (fz S₁ h)) (hsz : vs.length ≤ sizeLine) :
    Do prog w A F B S₁ h (getItem (.ref l) (.ref b)) (plist ds').p := fun s Q E o lh k => by
  subst e1; subst e2; subst e3
  have up : (fz S₁ h).StaysIn s.heap := fun b ob e => lh.keep _ _ (fz_in e).1 (fun m => (fz_in e).2 (o.fs _ m))
  have hl' : s.heap.IsList l vs.toArray := by obtain ⟨ob, e, r⟩ := hl; exact ⟨ob, up _ _ e, r⟩
  obtain ⟨ob, e, c, d⟩ := hs
  refine wpAny_getItem_list_slice hl' ⟨ob, up _ _ e, c, d⟩ IsPart_of IsPart_of IsPart_of h0 ?_ (by simpa using hsz)
  have st1 : (fz S₁ h).StaysIn (fz S₁ s.heap) := fz_le lh o.fs fun _ m => .inl m
  have st2 : (fz S₁ s.heap).StaysIn (fz S₁ (s.heap.push { cls := .type "list", data := .seq (slicePick vs.toArray (l'.map (·.1)) (u'.map (·.1)) (st'.map (·.1))) })) := fz_le (Le.push (F := F) (B := B) _) o.fs fun _ m => .inl m
  exact k _ _ ⟨_, s.toks, rfl, .push _⟩ (plist_in (fz_get (Heap.get?_push_size _ rfl) o.size) rfl rfl ((hv.mono st1).mono st2))
theorem z_slice_list {ds : List PyData} {lo hi : Option Nat} {a i : Value} (pa : (plist ds) a (fz S₁ h)) (pi : (psl (lo.map Int.ofNat) (hi.map Int.ofNat) none) i (fz S₁ h)) (hsz : ds.length ≤ sizeLine) :
    Do prog w A F B S₁ h (getItem a i) (plist (sub lo hi ds)).p := by
  obtain ⟨l, vs, rfl, hl, hall⟩ := plist_out pa
  obtain ⟨b, l', u', st', rfl, hs, e1, e2, e3⟩ := pi
  refine z_pick (ds := ds) hl hs e1 e2 e3 (by simp) ?_ (by rw [hall.length]; exact hsz)
  rw [slicePick_ssi]
  have : (Builtin.Str.strSliceIndices (lo.map Int.ofNat) (hi.map Int.ofNat) ((none : Option Int).getD 1) vs.toArray.size).filterMap (vs.toArray[·]?) = sub lo hi vs := by rw [← picks_plain]; simp
  rw [this]
  simpa using all_sub hall lo hi
theorem z_rev_list {ds : List PyData} {a i : Value} (pa : (plist ds) a (fz S₁ h)) (pi : (psl none none (some (-1))) i (fz S₁ h)) (hsz : ds.length ≤ sizeLine) :
    Do prog w A F B S₁ h (getItem a i) (plist ds.reverse).p := by
  obtain ⟨l, vs, rfl, hl, hall⟩ := plist_out pa
  obtain ⟨b, l', u', st', rfl, hs, e1, e2, e3⟩ := pi
  refine z_pick (ds := ds) hl hs e1 e2 e3 (by simp) ?_ (by rw [hall.length]; exact hsz)
  rw [slicePick_ssi]
  have : (Builtin.Str.strSliceIndices none none ((some (-1) : Option Int).getD 1) vs.toArray.size).filterMap (vs.toArray[·]?) = vs.reverse := by rw [← picks_rev]; simp
  rw [this]
  simpa using all_rev hall
theorem z_get_list {ds : List PyData} {d : PyData} {i : Nat} {a v : Value} (pa : (plist ds) a (fz S₁ h)) (pi : (pint (i : Int)) v (fz S₁ h)) (e : ds[i]? = some d) (hsz : ds.length ≤ sizeLine) :
    Do prog w A F B S₁ h (getItem a v) (dat d).p := by
  obtain ⟨l, vs, rfl, hl, hall⟩ := plist_out pa
  obtain ⟨t, rfl⟩ := dat_int pi
  obtain ⟨x, ex, px⟩ := hall.get e
  have hi : i < vs.length := (List.getElem?_eq_some_iff.mp ex).1
  refine Do.frozen (fun s Q E up q => ?_) px fun k p => (dat d).mono k p
  have hl' : s.heap.IsList l vs.toArray := by obtain ⟨ob, e, r⟩ := hl; exact ⟨ob, up _ _ e, r⟩
  refine wpAny_getItem_list hl' (by omega) ?_ (by simpa using ex) q
  have : vs.length ≤ sizeLine := by rw [hall.length]; exact hsz
  have h2 : sizeLine = 16777216 := rfl
  omega

theorem z_get_str {l : List Nat} {c : Nat} {i : Nat} {a v : Value} (pa : (pstr (S l)) a (fz S₁ h)) (pi : (pint (i : Int)) v (fz S₁ h)) (e : l[i]? = some c) (hsz : l.length ≤ sizeLine) :
    Do prog w A F B S₁ h (getItem a v) (pstr (S [c])).p := by
  obtain ⟨t, rfl⟩ := dat_str pa
  obtain ⟨u, rfl⟩ := dat_int pi
  have hi : i < l.length := (List.getElem?_eq_some_iff.mp e).1
  have h2 : sizeLine = 16777216 := rfl
  refine fun s Q E o lh k => P.getItem_str (c := c) (by rw [Bool.or_eq_false_iff]; exact ⟨decide_eq_false (by omega), decide_eq_false (by omega)⟩) ?_ (k _ _ (Go.toks _) ⟨_, .str _ _⟩)
  unfold seqIndex?
  have e1 : (if (i : Int) < 0 then (i : Int) + ((S l).length : Int) else (i : Int)) = i := if_neg (by omega)
  rw [e1, if_pos (by rw [S_len]; simp; omega)]
  simpa [S] using e

/-! ## lengths, truths -/
theorem z_len_list {ds : List PyData} {a : Value} (pa : (plist ds) a (fz S₁ h)) (hsz : ds.length ≤ sizeLine) : Do prog w A F B S₁ h (call (.builtin "len") [a] []) (pint (ds.length : Int)).p := fun s Q E o lh k => by
  obtain ⟨l, vs, rfl, hl, hall⟩ := plist_out pa
  have h2 : sizeLine = 16777216 := rfl
  have hl' : s.heap.IsList l vs.toArray := by obtain ⟨ob, e, r⟩ := hl; exact ⟨ob, lh.keep _ _ (fz_in e).1 (fun m => (fz_in e).2 (o.fs _ m)), r⟩
  have hv := hall.length
  refine call_len_list hl' (by simp; omega) (k _ _ (Go.toks _) ?_)
  rw [← hv]; simpa using ⟨_, .int _ _⟩
theorem z_len_str {l : List Nat} {a : Value} (pa : (pstr (S l)) a (fz S₁ h)) (hsz : l.length ≤ sizeLine) : Do prog w A F B S₁ h (call (.builtin "len") [a] []) (pint (l.length : Int)).p := fun s Q E o lh k => by
  obtain ⟨t, rfl⟩ := dat_str pa
  have h2 : sizeLine = 16777216 := rfl
  refine P.len_str (by rw [S_len]; omega) (k _ _ (Go.toks _) ?_)
  rw [S_len]; exact ⟨_, .int _ _⟩
theorem t_str {l : List Nat} {a : Value} (pa : (pstr (S l)) a (fz S₁ h)) (hsz : l.length ≤ sizeLine) : Do prog w A F B S₁ h (truthy a) (fun c _ => c = decide (l ≠ [])) := fun s Q E o lh k => by
  obtain ⟨t, rfl⟩ := dat_str pa
  have h2 : sizeLine = 16777216 := rfl
  refine P.truthy_str (by rw [S_len]; omega) (k _ _ (Go.toks _) ?_)
  rw [S_len]; cases l <;> simp; omega
theorem t_list {ds : List PyData} {a : Value} (pa : (plist ds) a (fz S₁ h)) (hsz : ds.length ≤ sizeLine) : Do prog w A F B S₁ h (truthy a) (fun c _ => c = decide (ds ≠ [])) := fun s Q E o lh k => by
  obtain ⟨l, vs, rfl, hl, hall⟩ := plist_out pa
  have h2 : sizeLine = 16777216 := rfl
  have hl' : s.heap.IsList l vs.toArray := by obtain ⟨ob, e, r⟩ := hl; exact ⟨ob, lh.keep _ _ (fz_in e).1 (fun m => (fz_in e).2 (o.fs _ m)), r⟩
  have hv := hall.length
  refine wpAny_truthy_list hl' (by simp; omega) (k _ _ (Go.toks _) ?_)
  cases vs <;> cases ds <;> simp_all
theorem t_bool {b : Bool} {a : Value} {g : Heap} (pa : (pbool b) a g) : Do prog w A F B S₁ h (truthy a) (fun c _ => c = b) := by
  obtain rfl := dat_bool pa
  exact Do.pure fun _ _ _ => rfl

/-! ## ints -/
theorem z_add {x y : Int} {a b : Value} {g : Heap} (pa : (pint x) a g) (pb : (pint y) b g) : Do prog w A F B S₁ h (binaryOp .Add a b) (pint (x + y)).p := fun s Q E o lh k => by
  obtain ⟨t, rfl⟩ := dat_int pa; obtain ⟨u, rfl⟩ := dat_int pb
  exact AutoIntOps.add_0 (k _ _ (Go.toks _) ⟨_, .int _ _⟩)
theorem z_sub {x y : Int} {a b : Value} {g : Heap} (pa : (pint x) a g) (pb : (pint y) b g) : Do prog w A F B S₁ h (binaryOp .Sub a b) (pint (x - y)).p := fun s Q E o lh k => by
  obtain ⟨t, rfl⟩ := dat_int pa; obtain ⟨u, rfl⟩ := dat_int pb
  exact AutoIntOps.sub_0 (k _ _ (Go.toks _) ⟨_, .int _ _⟩)
theorem z_mul {x y : Int} {a b : Value} {g : Heap} (pa : (pint x) a g) (pb : (pint y) b g) (hm : IntMulOk x y) : Do prog w A F B S₁ h (binaryOp .Mult a b) (pint (x * y)).p := fun s Q E o lh k => by
  obtain ⟨t, rfl⟩ := dat_int pa; obtain ⟨u, rfl⟩ := dat_int pb
  exact AutoIntOps.mul_0 (k _ _ (Go.toks _) ⟨_, .int _ _⟩) hm
theorem z_mod {x y : Int} {a b : Value} {g : Heap} (pa : (pint x) a g) (pb : (pint y) b g) (hy : y ≠ 0) : Do prog w A F B S₁ h (binaryOp .Mod a b) (pint (x.fmod y)).p := fun s Q E o lh k => by
  obtain ⟨t, rfl⟩ := dat_int pa; obtain ⟨u, rfl⟩ := dat_int pb
  exact AutoIntOps.mod_1 (by simpa using hy) (k _ _ (Go.toks _) ⟨_, .int _ _⟩)
theorem z_div {x y : Int} {a b : Value} {g : Heap} (pa : (pint x) a g) (pb : (pint y) b g) (hy : y ≠ 0) (hp : Builtin.divisionGoesByPylong x y = false) : Do prog w A F B S₁ h (binaryOp .FloorDiv a b) (pint (x.fdiv y)).p := fun s Q E o lh k => by
  obtain ⟨t, rfl⟩ := dat_int pa; obtain ⟨u, rfl⟩ := dat_int pb
  exact AutoIntOps.floordiv_1 (by simpa using hy) (by rw [hp]; decide) (k _ _ (Go.toks _) ⟨_, .int _ _⟩)
theorem z_lt {x y : Int} {a b : Value} {g : Heap} (pa : (pint x) a g) (pb : (pint y) b g) : Do prog w A F B S₁ h (compareOp .Lt a b) (pbool (decide (x < y))).p := fun s Q E o lh k => by
  obtain ⟨t, rfl⟩ := dat_int pa; obtain ⟨u, rfl⟩ := dat_int pb
  exact P.lt_int (k _ s .refl ⟨_, .bool _⟩)
theorem z_gt {x y : Int} {a b : Value} {g : Heap} (pa : (pint x) a g) (pb : (pint y) b g) : Do prog w A F B S₁ h (compareOp .Gt a b) (pbool (decide (x > y))).p := fun s Q E o lh k => by
  obtain ⟨t, rfl⟩ := dat_int pa; obtain ⟨u, rfl⟩ := dat_int pb
  exact P.gt_int (k _ s .refl ⟨_, .bool _⟩)
theorem z_ge {x y : Int} {a b : Value} {g : Heap} (pa : (pint x) a g) (pb : (pint y) b g) : Do prog w A F B S₁ h (compareOp .GtE a b) (pbool (decide (x ≥ y))).p := fun s Q E o lh k => by
  obtain ⟨t, rfl⟩ := dat_int pa; obtain ⟨u, rfl⟩ := dat_int pb
  exact P.ge_int (k _ s .refl ⟨_, .bool _⟩)
theorem z_and {x y : Int} {a b : Value} {g : Heap} (pa : (pint x) a g) (pb : (pint y) b g) : Do prog w A F B S₁ h (binaryOp .BitAnd a b) (pint (Builtin.bitAnd x y)).p := fun s Q E o lh k => by
  obtain ⟨t, rfl⟩ := dat_int pa; obtain ⟨u, rfl⟩ := dat_int pb
  exact and_int (k _ _ (Go.toks _) ⟨_, .int _ _⟩)
theorem z_or {x y : Int} {a b : Value} {g : Heap} (pa : (pint x) a g) (pb : (pint y) b g) : Do prog w A F B S₁ h (binaryOp .BitOr a b) (pint (Builtin.bitOr x y)).p := fun s Q E o lh k => by
  obtain ⟨t, rfl⟩ := dat_int pa; obtain ⟨u, rfl⟩ := dat_int pb
  exact or_int (k _ _ (Go.toks _) ⟨_, .int _ _⟩)
theorem z_shl {x : Int} {n : Nat} {a b : Value} {g : Heap} (pa : (pint x) a g) (pb : (pint (n : Int)) b g) (hsz : (Builtin.Int.intBits x : Int) + n ≤ 2 ^ 27) : Do prog w A F B S₁ h (binaryOp .LShift a b) (pint (x * 2 ^ n)).p := fun s Q E o lh k => by
  obtain ⟨t, rfl⟩ := dat_int pa; obtain ⟨u, rfl⟩ := dat_int pb
  exact lshift_int (by omega) hsz (k _ _ (Go.toks _) ⟨_, .int _ _⟩)
theorem z_shr {x : Int} {n : Nat} {a b : Value} {g : Heap} (pa : (pint x) a g) (pb : (pint (n : Int)) b g) : Do prog w A F B S₁ h (binaryOp .RShift a b) (pint (x.fdiv (2 ^ n))).p := fun s Q E o lh k => by
  obtain ⟨t, rfl⟩ := dat_int pa; obtain ⟨u, rfl⟩ := dat_int pb
  exact rshift_int (by omega) (k _ _ (Go.toks _) ⟨_, .int _ _⟩)

/-! ## texts -/
theorem z_cat {x y : List Nat} {a b : Value} {g : Heap} (pa : (pstr (S x)) a g) (pb : (pstr (S y)) b g) (hsz : x.length + y.length ≤ sizeLine) : Do prog w A F B S₁ h (binaryOp .Add a b) (pstr (S (x ++ y))).p := fun s Q E o lh k => by
  obtain ⟨t, rfl⟩ := dat_str pa; obtain ⟨u, rfl⟩ := dat_str pb
  exact SB.add (fun t' n => k _ _ (Go.toks _) (by rw [S_app]; exact ⟨_, .str _ _⟩)) (by rw [S_len, S_len]; exact hsz)

/-! ## equality -/
structure Emb {α : Type} [DecidableEq α] (f : α → PyData) (ok : α → Prop) (n : Nat) : Prop where
  lay : ∀ a, ok a → (f a).canLay0 = true
  dep : ∀ a, (f a).depth ≤ n
  eq : ∀ a b, PyData.eqv (f a) (f b) = decide (a = b)
  mix : ∀ a b, noMix (f a) (f b) = true
theorem Emb.shaped {α : Type} [DecidableEq α] {f : α → PyData} {ok : α → Prop} {n : Nat} (e : Emb f ok n) (hn : n ≤ 64) {a : α} (h : ok a) : shaped (f a) = true := by
  unfold PySem.SeqAt.shaped
  rw [e.lay a h, Bool.true_and]
  exact decide_eq_true (Nat.le_trans (e.dep a) hn)
theorem emb_int : Emb (fun n : Nat => PyData.int (n : Int)) (fun _ => True) 1 := by
  refine ⟨fun _ _ => rfl, fun _ => by simp [PyData.depth], fun a b => ?_, fun _ _ => rfl⟩
  rw [PyData.eqv]
  by_cases h : a = b
  · simp [h]
  · rw [decide_eq_false h]
    exact beq_eq_false_iff_ne.mpr fun e => h (by omega)
theorem emb_bool : Emb PyData.bool (fun _ => True) 1 := ⟨fun _ _ => rfl, fun _ => by simp [PyData.depth], fun a b => by rw [PyData.eqv]; cases a <;> cases b <;> rfl, fun _ _ => rfl⟩
def asc (l : List Nat) : Prop := ∀ c ∈ l, c < 128
theorem emb_str : Emb (fun l : List Nat => PyData.str (S l)) asc 1 := ⟨fun l h => by
    rw [PyData.canLay0]
    unfold PyData.strOk
    rw [Array.all_eq_true']
    intro c hc
    have := h c (by simpa [S] using hc)
    simp; omega, fun _ => by simp [PyData.depth], fun a b => by
    rw [PyData.eqv]
    by_cases h : a = b
    · subst h; simp
    · rw [decide_eq_false h]
      exact beq_eq_false_iff_ne.mpr fun e => h (S_inj e), fun _ _ => rfl⟩
theorem Emb.list {α : Type} [DecidableEq α] {f : α → PyData} {ok : α → Prop} {n : Nat} (e : Emb f ok n) : Emb (fun l : List α => PyData.list (l.map f)) (fun l => ∀ a ∈ l, ok a) (n + 1) := by
  refine ⟨fun l hl => ?_, fun l => ?_, fun a b => ?_, fun a b => ?_⟩
  · rw [PyData.canLay0]
    induction l with
    | nil => rw [List.map_nil, PyData.canLayAll0]
    | cons x l ih => rw [List.map_cons, PyData.canLayAll0, e.lay x (hl x (.head _)), ih fun a m => hl a (.tail _ m)]; rfl
  · rw [PyData.depth]
    refine Nat.succ_le_succ ?_
    induction l with
    | nil => rw [List.map_nil, PyData.depthAll]; exact Nat.zero_le _
    | cons x l ih => rw [List.map_cons, PyData.depthAll]; exact Nat.max_le.mpr ⟨e.dep x, ih⟩
  · rw [PyData.eqv]
    induction a generalizing b with
    | nil => cases b <;> simp [PyData.eqvAll]
    | cons x a ih =>
      cases b with
      | nil => simp [PyData.eqvAll]
      | cons y b =>
        rw [List.map_cons, List.map_cons, PyData.eqvAll, e.eq, ih b]
        by_cases h1 : x = y <;> by_cases h2 : a = b <;> simp [h1, h2]
  · rw [noMix]
    induction a generalizing b with
    | nil => cases b <;> simp [noMixAll]
    | cons x a ih =>
      cases b with
      | nil => simp [noMixAll]
      | cons y b => rw [List.map_cons, List.map_cons, noMixAll, e.mix, ih b]; rfl
theorem Emb.pair {α β : Type} [DecidableEq α] [DecidableEq β] {f : α → PyData} {f' : β → PyData} {ok : α → Prop} {ok' : β → Prop} {n : Nat} (e : Emb f ok n) (e' : Emb f' ok' n) : Emb (fun p : α × β => PyData.tuple [f p.1, f' p.2]) (fun p => ok p.1 ∧ ok' p.2) (n + 1) := by
  refine ⟨fun p h => ?_, fun p => ?_, fun a b => ?_, fun a b => ?_⟩
  · rw [PyData.canLay0, PyData.canLayAll0, PyData.canLayAll0, PyData.canLayAll0, e.lay _ h.1, e'.lay _ h.2]; rfl
  · rw [PyData.depth, PyData.depthAll, PyData.depthAll, PyData.depthAll]
    exact Nat.succ_le_succ (Nat.max_le.mpr ⟨e.dep _, Nat.max_le.mpr ⟨e'.dep _, Nat.zero_le _⟩⟩)
  · rw [PyData.eqv, PyData.eqvAll, PyData.eqvAll, PyData.eqvAll, e.eq, e'.eq]
    obtain ⟨a1, a2⟩ := a
    obtain ⟨b1, b2⟩ := b
    by_cases h1 : a1 = b1 <;> by_cases h2 : a2 = b2 <;> simp [h1, h2]
  · rw [noMix, noMixAll, noMixAll, noMixAll, e.mix, e'.mix]; rfl

theorem dat_up {d : PyData} {v : Value} {g g' : Heap} (p : (dat d) v g) (k : g.StaysIn g') : ∃ as, Reads g' v d as := (dat d).mono k p

section
variable {α : Type} [DecidableEq α] {f : α → PyData} {ok : α → Prop} {n : Nat} {x y : α} {xs : List α} {a b : Value}
theorem z_eq (e : Emb f ok n) (hn : n ≤ 64) (hu : A.units ≤ 6000) (hx : ok x) (hy : ok y) (pa : (dat (f x)) a (fz S₁ h)) (pb : (dat (f y)) b (fz S₁ h)) : Do prog w A F B S₁ h (compareOp .Eq a b) (pbool (decide (x = y))).p :=
  Do.frozen (a := Value.bool (decide (x = y))) (fun s Q E up q => by
    obtain ⟨as, ra⟩ := dat_up pa up
    obtain ⟨bs, rb⟩ := dat_up pb up
    exact eq_dataH ra rb (e.shaped hn hx) (e.shaped hn hy) (by have : cLine = 9900 := rfl; omega) (by rw [e.eq]; exact q)) (dat_bool_in _) fun k p => (pbool _).mono k p
theorem z_ne (e : Emb f ok n) (hn : n ≤ 64) (hu : A.units ≤ 6000) (hx : ok x) (hy : ok y) (pa : (dat (f x)) a (fz S₁ h)) (pb : (dat (f y)) b (fz S₁ h)) : Do prog w A F B S₁ h (compareOp .NotEq a b) (pbool (decide (x ≠ y))).p :=
  Do.frozen (a := Value.bool (decide (x ≠ y))) (fun s Q E up q => by
    obtain ⟨as, ra⟩ := dat_up pa up
    obtain ⟨bs, rb⟩ := dat_up pb up
    refine ne_dataH ra rb (e.shaped hn hx) (e.shaped hn hy) (by have : cLine = 9900 := rfl; omega) ?_
    rw [e.eq]
    have : (!decide (x = y)) = decide (x ≠ y) := by by_cases h : x = y <;> simp [h]
    rw [this]; exact q) (dat_bool_in _) fun k p => (pbool _).mono k p
theorem Emb.count (e : Emb f ok n) (x : α) (xs : List α) : decide (countIn (f x) (xs.map f) ≠ 0) = decide (x ∈ xs) := by
  rw [← any_eqv_countIn (f x) (xs.map f) fun y m => by
    obtain ⟨z, _, rfl⟩ := List.mem_map.mp m
    exact e.mix z x]
  induction xs with
  | nil => simp
  | cons y xs ih =>
    rw [List.map_cons, List.any_cons, ih, e.eq]
    by_cases h1 : x = y <;> by_cases h2 : x ∈ xs <;> simp [h1, h2, eq_comm]
theorem z_in (e : Emb f ok n) (hn : n ≤ 63) (hu : A.units ≤ 6000) (hx : ok x) (hxs : ∀ a ∈ xs, ok a) (pa : (dat (f x)) a (fz S₁ h)) (pb : (plist (xs.map f)) b (fz S₁ h)) : Do prog w A F B S₁ h (compareOp .In a b) (pbool (decide (x ∈ xs))).p :=
  Do.frozen (a := Value.bool (decide (x ∈ xs))) (fun s Q E up q => by
    obtain ⟨as, ra⟩ := dat_up pa up
    obtain ⟨bs, rb⟩ := dat_up pb up
    exact in_list_dataH rb ra (e.list.shaped (by omega) hxs) (e.shaped (by omega) hx) (by have : cLine = 9900 := rfl; omega) (fun y m => by
      obtain ⟨z, _, rfl⟩ := List.mem_map.mp m
      exact e.mix z x) (by rw [e.count]; exact q)) (dat_bool_in _) fun k p => (pbool _).mono k p
theorem z_notin (e : Emb f ok n) (hn : n ≤ 63) (hu : A.units ≤ 6000) (hx : ok x) (hxs : ∀ a ∈ xs, ok a) (pa : (dat (f x)) a (fz S₁ h)) (pb : (plist (xs.map f)) b (fz S₁ h)) : Do prog w A F B S₁ h (compareOp .NotIn a b) (pbool (decide (x ∉ xs))).p :=
  Do.frozen (a := Value.bool (decide (x ∉ xs))) (fun s Q E up q => by
    obtain ⟨as, ra⟩ := dat_up pa up
    obtain ⟨bs, rb⟩ := dat_up pb up
    exact notIn_list_dataH rb ra (e.list.shaped (by omega) hxs) (e.shaped (by omega) hx) (by have : cLine = 9900 := rfl; omega) (fun y m => by
      obtain ⟨z, _, rfl⟩ := List.mem_map.mp m
      exact e.mix z x) (by
        rw [e.count]
        have : (!decide (x ∈ xs)) = decide (x ∉ xs) := by by_cases h : x ∈ xs <;> simp [h]
        rw [this]; exact q)) (dat_bool_in _) fun k p => (pbool _).mono k p
end
end
end Mine

/-! ### Fa4 -/
namespace Mine
open PySem PySem.W PySem.Calls PyProof.Rows PySem.SeqAt

theorem strSub_S (l : List Nat) (i j : Nat) : Builtin.Str.strSub (S l) i j = S ((l.drop i).take (j - i)) := by rw [strSub_mk, S_cps]; rfl
theorem subAt_S (l m : List Nat) (i : Nat) : Builtin.Str.subAt (S l) (S m) i = decide ((l.drop i).take m.length = m) := by
  unfold Builtin.Str.subAt
  rw [S_len]
  have : (S l).cps.extract i (i + m.length) = ((l.drop i).take m.length).toArray := by
    have := strSub_S l i (i + m.length)
    rw [Nat.add_sub_cancel_left] at this
    exact congrArg Str.cps this
  rw [this]
  show (_ == m.toArray) = _
  by_cases h : (l.drop i).take m.length = m
  · rw [h]; simp
  · rw [decide_eq_false h]
    exact beq_eq_false_iff_ne.mpr fun e => h (by simpa using e)
theorem at_one (l : List Nat) (c i : Nat) : StrLaws.At (S l) (S [c]) (S l).length i ↔ l[i]? = some c := by
  unfold StrLaws.At
  rw [subAt_S, S_len, S_len, decide_eq_true_eq]
  constructor
  · rintro ⟨h1, h2⟩
    rw [List.length_singleton] at h1 h2
    have := congrArg (·[0]?) h2
    rw [List.getElem?_take, if_pos (by decide), List.getElem?_drop] at this
    simpa using this
  · intro h
    have hi : i < l.length := (List.getElem?_eq_some_iff.mp h).1
    refine ⟨by rw [List.length_singleton]; omega, ?_⟩
    rw [List.length_singleton]
    apply List.ext_getElem?
    intro k
    cases k with
    | zero => rw [List.getElem?_take, if_pos (by decide), List.getElem?_drop, Nat.add_zero, h]; rfl
    | succ k => rw [List.getElem?_take, if_neg (by omega)]; rfl
theorem rfind_one {l pre post : List Nat} {c : Nat} (e : l = pre ++ c :: post) (h : c ∉ post) : Txt.rfind (S l) (S [c]) = (pre.length : Int) := by
  subst e
  have hat : (pre ++ c :: post)[pre.length]? = some c := by rw [List.getElem?_append_right (Nat.le_refl _)]; simp
  rcases rfind_whole (S (pre ++ c :: post)) (S [c]) with ⟨_, h2⟩ | ⟨i, h1, h2, h3⟩
  · exact absurd ((at_one _ _ _).mpr hat) (h2 _)
  · rw [h1]
    have hi := (at_one _ _ _).mp h2
    by_cases q : i = pre.length
    · rw [q]
    · rcases Nat.lt_or_gt_of_ne q with q | q
      · exact absurd ((at_one _ _ _).mpr hat) (h3 _ q)
      · rw [List.getElem?_append_right (Nat.le_of_lt q)] at hi
        obtain ⟨k, hk⟩ : ∃ k, i - pre.length = k + 1 := ⟨i - pre.length - 1, by omega⟩
        rw [hk, List.getElem?_cons_succ] at hi
        exact absurd (List.mem_of_getElem? hi) h
theorem rstrip_one {pre : List Nat} {c d : Nat} (hcd : d ≠ c) : Txt.rstripChars (S (pre ++ [d] ++ [c])) (S [c]) = S (pre ++ [d]) := by
  have hi : Builtin.Str.strSub (S (pre ++ [d] ++ [c])) 0 (pre.length + 1) = S (pre ++ [d]) := by
    rw [strSub_S, List.drop_zero, Nat.sub_zero]
    congr 1
    rw [List.take_append_of_le_length (by simp)]
    exact List.take_of_length_le (by simp)
  have tw : ((S (pre ++ [d] ++ [c])).cps.toList.drop 0).reverse.takeWhile (S [c]).cps.contains = [c] := by
    rw [S_cps, List.drop_zero, List.reverse_append, List.reverse_append]
    simp [S, List.takeWhile, hcd, Ne.symm hcd]
  have hH : stripHi (S [c]).cps.contains true (S (pre ++ [d] ++ [c])) (stripLo (S [c]).cps.contains false (S (pre ++ [d] ++ [c]))) = pre.length + 1 := by
    show (if true = true then (S (pre ++ [d] ++ [c])).length - _ else _) = _
    rw [if_pos rfl]
    show _ - (((S (pre ++ [d] ++ [c])).cps.toList.drop 0).reverse.takeWhile (S [c]).cps.contains).length = _
    rw [tw, S_len]; simp
  show Txt.stripBy (S [c]).cps.contains false true _ = _
  unfold Txt.stripBy
  rw [if_neg]
  · unfold PySem.stripped
    rw [hH]; exact hi
  · unfold stripSame
    rw [hH, S_len]; simp
theorem starts_S (l m : List Nat) : Txt.startswith (S l) (S m) = decide (l.take m.length = m) := by
  unfold Txt.startswith
  rw [subAt_S, S_len, S_len, List.drop_zero]
  by_cases h : l.take m.length = m
  · have : m.length ≤ l.length := by
      have := congrArg List.length h
      rw [List.length_take] at this; omega
    simp [h, this]
  · simp [h]
theorem ends_S (l m : List Nat) : Txt.endswith (S l) (S m) = decide (m.length ≤ l.length ∧ l.drop (l.length - m.length) = m) := by
  unfold Txt.endswith
  rw [subAt_S, S_len, S_len]
  have e : (l.drop (l.length - m.length)).take m.length = if m.length ≤ l.length then l.drop (l.length - m.length) else (l.drop (l.length - m.length)).take m.length := by
    split
    · exact List.take_of_length_le (by rw [List.length_drop]; omega)
    · rfl
  by_cases h : m.length ≤ l.length
  · rw [e, if_pos h]; simp [h]
  · simp [h]

/-- the way of a stretch -/
def bit (c : Nat) : List Nat := [47, 46, c]
def wayOf : List Nat → List Nat
  | [] => [47]
  | x => x.reverse.flatMap bit
theorem way_cons (c d : Nat) (x : List Nat) : wayOf (c :: d :: x) = wayOf (d :: x) ++ [47, 46, c] := by
  show (c :: d :: x).reverse.flatMap bit = (d :: x).reverse.flatMap bit ++ [47, 46, c]
  rw [List.reverse_cons, List.flatMap_append]
  rfl
theorem way_mem {x : List Nat} {k : Nat} (h : k ∈ wayOf x) : k = 47 ∨ k = 46 ∨ k ∈ x := by
  cases x with
  | nil => exact .inl (List.mem_singleton.mp h)
  | cons c x =>
    obtain ⟨d, hd, hk⟩ := List.mem_flatMap.mp (show k ∈ (c :: x).reverse.flatMap bit from h)
    have hd' := List.mem_reverse.mp hd
    simp only [bit, List.mem_cons, List.not_mem_nil, or_false] at hk
    rcases hk with h | h | h
    · exact .inl h
    · exact .inr (.inl h)
    · exact .inr (.inr (h ▸ hd'))
theorem way_split {c : Nat} {x : List Nat} (hc : ∀ d ∈ c :: x, d ≠ 47) : ∃ pre post, wayOf (c :: x) = pre ++ 47 :: post ∧ 47 ∉ post ∧ ((x = [] ∧ pre = []) ∨ ∃ d y, x = d :: y ∧ pre = wayOf x ∧ (∃ p', pre = p' ++ [d]) ∧ 46 ∈ pre) := by
  have h47 : 47 ∉ [46, c] := by
    have := hc c (.head _)
    simp; omega
  cases x with
  | nil => exact ⟨[], [46, c], rfl, h47, .inl ⟨rfl, rfl⟩⟩
  | cons d y =>
    refine ⟨wayOf (d :: y), [46, c], way_cons c d y, h47, .inr ⟨d, y, rfl, rfl, ?_, ?_⟩⟩
    · cases y with
      | nil => exact ⟨[47, 46], rfl⟩
      | cons e z => exact ⟨wayOf (e :: z) ++ [47, 46], by rw [way_cons]; simp⟩
    · show 46 ∈ (d :: y).reverse.flatMap bit
      exact List.mem_flatMap.mpr ⟨d, by simp, by simp [bit]⟩
theorem way_split' {y : List Nat} (hc : ∀ d ∈ y, d ≠ 47) : ∃ pre post, wayOf y = pre ++ 47 :: post ∧ 47 ∉ post ∧ ((y.tail = [] ∧ pre = []) ∨ ∃ d z, y.tail = d :: z ∧ pre = wayOf y.tail ∧ (∃ p', pre = p' ++ [d]) ∧ 46 ∈ pre) := by
  cases y with
  | nil => exact ⟨[], [], rfl, by simp, .inl ⟨rfl, rfl⟩⟩
  | cons c x => exact way_split hc
theorem way_len (x : List Nat) : (wayOf x).length ≤ 3 * x.length + 1 := by
  cases x with
  | nil => decide
  | cons c x =>
    show ((c :: x).reverse.flatMap bit).length ≤ _
    rw [List.length_flatMap]
    have : ((c :: x).reverse.map fun a => (bit a).length) = (c :: x).reverse.map fun _ => 3 := rfl
    rw [this, List.map_const', List.sum_replicate_nat]
    simp; omega
end Mine

/-! ### Fa5 -/
namespace Mine
open PySem PySem.W PySem.Calls PyProof.Rows PySem.SeqAt
open PySem.Builtin PySem.Builtin.List PySem.MeetsSeq

def EqAt (s : Shared) (y x : Value) (b : Bool) : Prop := ∀ (prog : Program) (w : World) (A : Around) (E : Value → Shared → Prop) (Q : Bool → Shared → Prop), A.units ≤ 6000 → Q b s → wpAny (model prog w) A (eqBool y x) Q E s

theorem rem_loop (l : Addr) (items : Array Value) (n : Nat) (x : Value) (e : Nat → Bool) (j : Nat) (hj : j < items.size) (hit : e j = true) (k : Nat) (hs1 : items.size ≤ sizeLine) :
    ∀ i : Nat, j - i = k → i ≤ j → (∀ m, i ≤ m → m < j → e m = false) → Meets (Builtin.«list.remove.loop» ⟨[.ref l, x, rawInt i], []⟩)
      (fun A R s => A.units ≤ 5000 ∧ s.heap.get? l = some { cls := .type "list", dict := none, data := .seq items n, slots := #[] } ∧ (∀ m (hm : m < items.size), EqAt s items[m] x (e m)) ∧ R (.ok (.ret .none)) { s with heap := s.heap.update l (Obj.mapSeq fun xs => xs.eraseIdxIfInBounds j) }) := by
  induction k with
  | zero =>
    intro i hk hij hno prog w A R s h
    obtain ⟨hp, g, d, tk, os⟩ := s; obtain ⟨hu, hl, he, h⟩ := h
    have hij' : i = j := by omega
    subst hij'
    wp_walk using wpAny_loadPart' hl
    have hi : items[((i : Nat) : Int).toNat]? = some items[i] := by simp [hj]
    rw [hi]
    refine wpAny_bind (he _ hj prog w _ _ _ (by show A.units + 1 ≤ 6000; omega) ?_)
    rw [hit]
    have hz' : (items.eraseIdxIfInBounds i).size ≤ sizeLine + 1 := Nat.le_trans (size_erased items _) (Nat.le_succ_of_le hs1)
    wp_walk using (wpAny_updateSeq hl rfl (hz := hs1) (_hz' := hz')), wpAny_loadPart' hl
    simpa using h
  | succ k ih =>
    intro i hk hij hno prog w A R s h
    obtain ⟨hp, g, d, tk, os⟩ := s; obtain ⟨hu, hl, he, h⟩ := h
    have hlt : i < items.size := by omega
    wp_walk using wpAny_loadPart' hl
    have hi : items[((i : Nat) : Int).toNat]? = some items[i] := by simp [hlt]
    have hc : ((i : Int) + 1) = ((i + 1 : Nat) : Int) := by push_cast; rfl
    rw [hi]
    refine wpAny_bind (he _ hlt prog w _ _ _ (by show A.units + 1 ≤ 6000; omega) ?_)
    rw [hno i (Nat.le_refl _) (by omega)]
    wp_walk
    rw [hc]
    exact ⟨plainId_quiet plain_remove_loop _, codeAny_builtin entry_remove_loop (by
      rw [Around.under_plainId plain_remove_loop _]
      exact ih (i + 1) (by omega) (by omega) (fun m h1 h2 => hno m (by omega) h2) prog w A R _ ⟨hu, hl, he, h⟩)⟩
theorem rem_some (l : Addr) (items : Array Value) (n : Nat) (x : Value) (e : Nat → Bool) (j : Nat) (hj : j < items.size) (hit : e j = true) (hno : ∀ m, m < j → e m = false) (hs1 : items.size ≤ sizeLine) :
    Meets (Builtin.«list.remove» ⟨[.ref l, x], []⟩)
      (fun A R s => A.units ≤ 5000 ∧ s.heap.get? l = some { cls := .type "list", dict := none, data := .seq items n, slots := #[] } ∧ (∀ m (hm : m < items.size), EqAt s items[m] x (e m)) ∧ R (.ok (.ret .none)) { s with heap := s.heap.update l (Obj.mapSeq fun xs => xs.eraseIdxIfInBounds j) }) := by
  intro prog w A R s h
  obtain ⟨hp, g, d, tk, os⟩ := s; obtain ⟨hu, hl, he, h⟩ := h
  wp_walk using wpAny_loadPart' hl
  exact ⟨plainId_quiet plain_remove_loop _, codeAny_builtin entry_remove_loop (by
    rw [Around.under_plainId plain_remove_loop _]
    exact rem_loop l items n x e j hj hit _ hs1 0 rfl (Nat.zero_le _) (fun m _ h2 => hno m h2) prog w A R _ ⟨hu, hl, he, h⟩)⟩
theorem rem_loop_none (l : Addr) (items : Array Value) (n : Nat) (x : Value) (e : Nat → Bool) (hno : ∀ m, m < items.size → e m = false) (k : Nat) :
    ∀ i : Nat, items.size - i = k → Meets (Builtin.«list.remove.loop» ⟨[.ref l, x, rawInt i], []⟩)
      (fun A R s => A.units ≤ 5000 ∧ s.heap.get? l = some { cls := .type "list", dict := none, data := .seq items n, slots := #[] } ∧ (∀ m (hm : m < items.size), EqAt s items[m] x (e m)) ∧ raisesNew "ValueError" A R s) := by
  induction k with
  | zero =>
    intro i hk prog w A R s h
    obtain ⟨hp, g, d, tk, os⟩ := s; obtain ⟨hu, hl, he, h⟩ := h
    wp_walk using wpAny_loadPart' hl
    have hi : items[((i : Nat) : Int).toNat]? = none := by simp; omega
    rw [hi]
    wp_walk
    exact_raiseError plainExc_ValueError h.1 h.2
  | succ k ih =>
    intro i hk prog w A R s h
    obtain ⟨hp, g, d, tk, os⟩ := s; obtain ⟨hu, hl, he, h⟩ := h
    have hlt : i < items.size := by omega
    wp_walk using wpAny_loadPart' hl
    have hi : items[((i : Nat) : Int).toNat]? = some items[i] := by simp [hlt]
    have hc : ((i : Int) + 1) = ((i + 1 : Nat) : Int) := by push_cast; rfl
    rw [hi]
    refine wpAny_bind (he _ hlt prog w _ _ _ (by show A.units + 1 ≤ 6000; omega) ?_)
    rw [hno i hlt]
    wp_walk
    rw [hc]
    exact ⟨plainId_quiet plain_remove_loop _, codeAny_builtin entry_remove_loop (by
      rw [Around.under_plainId plain_remove_loop _]
      exact ih (i + 1) (by omega) prog w A R _ ⟨hu, hl, he, h⟩)⟩
theorem rem_none (l : Addr) (items : Array Value) (n : Nat) (x : Value) (e : Nat → Bool) (hno : ∀ m, m < items.size → e m = false) :
    Meets (Builtin.«list.remove» ⟨[.ref l, x], []⟩)
      (fun A R s => A.units ≤ 5000 ∧ s.heap.get? l = some { cls := .type "list", dict := none, data := .seq items n, slots := #[] } ∧ (∀ m (hm : m < items.size), EqAt s items[m] x (e m)) ∧ raisesNew "ValueError" A R s) := by
  intro prog w A R s h
  obtain ⟨hp, g, d, tk, os⟩ := s; obtain ⟨hu, hl, he, h⟩ := h
  wp_walk using wpAny_loadPart' hl
  exact ⟨plainId_quiet plain_remove_loop _, codeAny_builtin entry_remove_loop (by
    rw [Around.under_plainId plain_remove_loop _]
    exact rem_loop_none l items n x e hno _ 0 rfl prog w A R _ ⟨hu, hl, he, h⟩)⟩
end Mine

/-! ### Fn1 -/
namespace Mine
open PySem PySem.W PySem.Calls PyProof.Rows

def b64n : List Nat := (List.range 26).map (· + 65) ++ (List.range 26).map (· + 97) ++ (List.range 10).map (· + 48) ++ [43, 47]
/-- what stands in the base heap -/
structure Wd (B : Heap) (ad : Nat → Addr) : Prop where
  lim : B.NoLimit
  fn : ∀ i ∈ [2, 3, 5, 6, 8, 19, 23, 24, 25, 26, 28, 29, 30, 31, 32, 33], Fn B (ad i) i .none
  n2 : GN B "_deduplicate_unhashable" (.ref (ad 2))
  n3 : GN B "_compare_args_orderless" (.ref (ad 3))
  n5 : GN B "_buffer" (.ref (ad 5))
  n6 : GN B "_truth" (.ref (ad 6))
  n8 : GN B "b2a_base64" (.ref (ad 8))
  n10 : GN B "b64encode" (.ref (ad 10))
  n19 : GN B "fspath" (.ref (ad 19))
  n23 : GN B "_get_sep" (.ref (ad 23))
  n24 : GN B "join" (.ref (ad 24))
  n25 : GN B "dirname" (.ref (ad 25))
  n26 : GN B "commonpath" (.ref (ad 26))
  n28 : GN B "_law_sixes" (.ref (ad 28))
  n29 : GN B "_law_text" (.ref (ad 29))
  n30 : GN B "_law_held" (.ref (ad 30))
  n31 : GN B "_law_ends" (.ref (ad 31))
  n32 : GN B "_law_whole" (.ref (ad 32))
  n33 : GN B "_law_way" (.ref (ad 33))
  b64 : ∃ T o n, Fn B (ad 10) 10 (.ref T) ∧ B.get? T = some o ∧ o.data = .seq #[.none] n
  tbl : ∃ t, GN B "_B64" (.bytes (b64n.map fun n => n.toUInt8).toArray t)
  t_type : GN B "type" (.type "type")
  t_str : GN B "str" (.type "str")
  t_bytes : GN B "bytes" (.type "bytes")
  t_bool : GN B "bool" (.type "bool")
  t_list : GN B "list" (.type "list")
  t_tuple : GN B "tuple" (.type "tuple")
  t_map : GN B "map" (.type "map")
  t_range : GN B "range" (.type "range")
  t_enumerate : GN B "enumerate" (.type "enumerate")
  t_ValueError : GN B "ValueError" (.type "ValueError")
  b_len : GN B "len" (.builtin "len")
  b_abs : GN B "abs" (.builtin "abs")
  b_sum : GN B "sum" (.builtin "sum")
  b_min : GN B "min" (.builtin "min")
  b_max : GN B "max" (.builtin "max")
  b_chr : GN B "chr" (.builtin "chr")
  b_sorted : GN B "sorted" (.builtin "sorted")
  b_isinstance : GN B "isinstance" (.builtin "isinstance")
  b_issubclass : GN B "issubclass" (.builtin "issubclass")
theorem Wd.f {B : Heap} {ad : Nat → Addr} (W : Wd B ad) (i : Nat) (h : i ∈ [2, 3, 5, 6, 8, 19, 23, 24, 25, 26, 28, 29, 30, 31, 32, 33] := by decide) : Fn B (ad i) i .none := W.fn i h

theorem Fn.kp {prog : Program} {w : World} {B : Heap} {a : Addr} {i : Nat} {dV : Value} (f : Fn B a i dV) : Kp prog w B (.ref a) := let ⟨o, _, _, _, _, _, _, _, _, e, d, _⟩ := f.at'; kp_func e d

section
variable {prog : Program} {w : World} {A : Around} {F : List Addr} {B : Heap} {S : List Addr} {h : Heap} {env : Env} {ad : Nat → Addr}

theorem z_typeOf {T : String} {v : Value} (hT : ∀ s' : Shared, Ok A F B S s'.heap → Le F B h s'.heap → s'.TypeIs v T) (hnb : (Value.type T == Value.type "builtin_function_or_method") = false := by decide) : Do prog w A F B S h (call (.type "type") [v] []) (isv (.type T)).p := fun s Q E o l k =>
  call_type_of (hT s o l) hnb (k _ s .refl rfl)

theorem sp_fspath (W : Wd B ad) (rm : Rm A 2) {x : Str} {v : Value} (p : (pstr x) v (fz S h)) : Do prog w A F B S h (call (.ref (ad 19)) [v] []) (pstr x).p := by
  refine do_fn (P := pstr x) rm (W.f 19) W.lim ["path"] (Ps := [pstr x]) ⟨p, trivial⟩ ?_ ?_
  · intros; exact BindsTo.of_eq rfl _ _ _ _ (by assumption)
  intro name qual kV doc pm ct cd an L s₁ sb h₀ F' A' env Q' E' henv hA hF hrm hl hfS hal I fin
  have en := I.en
  have R := hrm 1 rm
  subst henv
  show wpAny _ _ (execs (fb 19) _) _ _ _
  conv in fb 19 => whnf
  refine x_assign (isv (.type "str")) I (ev_call1 (ev_g en W.t_type) kp_type (ev_v I rfl) fun u h' l o q => ?_) (.inl rfl) fun s2 I2 => ?_
  · obtain ⟨t, rfl⟩ := dat_str q
    exact z_typeOf (T := "str") fun s' _ _ => typeIs_str _ _ _
  refine x_if true I2 (tr_plain (P := pbool true) (ev_call2 (P2 := tupv [.type "str", .type "bytes"]) (ev_g en W.b_issubclass) kp_builtin (ev_v I2 rfl) (ev_tupv ((sp_two (ev_g en W.t_str) (ev_g en W.t_bytes)).mono fun vs g ⟨a, b, e, p, q⟩ => ?_) (by decide)) fun u v' h' l o q1 q2 => ?_) fun a h' l o q => ?_) fun s3 I3 => ?_
  · rw [e, show a = _ from p, show b = _ from q]
  · obtain rfl : u = _ := q1
    obtain ⟨T, rfl, hT⟩ := q2
    exact Do.frozen (a := Value.bool true) (fun s Q E hs q => call_issub_str (hs _ _ hT) rfl rfl q) (dat_bool_in true) fun k p => (pbool true).mono k p
  · obtain rfl := dat_bool q
    exact Do.pure fun _ _ _ => rfl
  · rw [if_pos rfl]
    refine x_return (pstr x) I3 (ev_v I3 rfl) fun v s' I' q => fin _ _ _ s' I' ?_
    exact (pstr x).mono (fz_sub fun a m => List.mem_append_right _ m) q
end
end Mine

/-! ### Fn2 -/
namespace Mine
open PySem PySem.W PySem.Calls PyProof.Rows PySem.SeqAt

section
variable {prog : Program} {w : World} {A : Around} {F : List Addr} {B : Heap} {S₁ : List Addr} {h : Heap} {env : Env} {ad : Nat → Addr}

theorem ev_S {x : Str} {k : Nat} {pos : Pos} (l : List Nat) (e : x = S l := by decide +kernel) : Ev prog w A F B S₁ h env (.Constant (.str x) k pos) (pstr (S l)) := by subst e; exact ev_str

theorem ret_sub {own : List (Addr × Ow)} {S₂ : List Addr} {P : Pd} {v : Value} {g : Heap} (p : P v (fz (SS env own S₂) g)) : P v (fz S₂ g) := P.mono (fz_sub fun a m => List.mem_append_right _ m) p

/-- a text's method of one text -/
theorem ev_sm1 (id : String) {P : Pd} {o e1 : Expr} {name : Str} {apos pos : Pos} {pl : Sem Bool} {l m : List Nat} (x : Ev prog w A F B S₁ h env o (pstr (S l))) (y : Ev prog w A F B S₁ h env e1 (pstr (S m)))
    (gm : ∀ t (s' : Shared) (Q : Value × List Value → Shared → Prop) (E : Value → Shared → Prop), Q (.builtin id, [.str (S l) t]) s' → wpAny (model prog w) A (getMethod (.str (S l) t) name pl) Q E s')
    (z : ∀ t u (s' : Shared) (Q : Value → Shared → Prop) (E : Value → Shared → Prop), (∀ v tk, (∀ g, P v g) → Q v { s' with toks := tk }) → wpAny (model prog w) A (call (.builtin id) [.str (S l) t, .str (S m) u] []) Q E s')
    (hl : backTo pos (starEach [e1] env) = [(false, eval e1 env)] := by rfl)
    (he : eval (.Call (.Attribute o name apos) [e1] [] pos) env = (do
      let ov ← eval o env
      standAt apos.atName
      let (f, first) ← PySem.holding [ov] (getMethod ov name pl)
      callWith pos f first (backTo pos (starEach [e1] env)) []) := by rfl) : Ev prog w A F B S₁ h env (.Call (.Attribute o name apos) [e1] [] pos) P :=
  ev_meth1 (id := id) x (fun ov s' Q E ok _ p q => by obtain ⟨t, rfl⟩ := dat_str p; exact gm t s' Q E q) y (fun ov u h' l ok p q => by
    obtain ⟨t, rfl⟩ := dat_str p
    obtain ⟨t', rfl⟩ := dat_str q
    exact fun s Q E o lh k => z t t' s Q E fun v tk hv => k v _ (Go.toks _) (hv _)) hl he
theorem ev_rfind {o e1 : Expr} {apos pos : Pos} {pl : Sem Bool} {l m : List Nat} (x : Ev prog w A F B S₁ h env o (pstr (S l))) (y : Ev prog w A F B S₁ h env e1 (pstr (S m)))
    (hl : backTo pos (starEach [e1] env) = [(false, eval e1 env)] := by rfl)
    (he : eval (.Call (.Attribute o (Str.ofString "rfind") apos) [e1] [] pos) env = (do
      let ov ← eval o env
      standAt apos.atName
      let (f, first) ← PySem.holding [ov] (getMethod ov (Str.ofString "rfind") pl)
      callWith pos f first (backTo pos (starEach [e1] env)) []) := by rfl) : Ev prog w A F B S₁ h env (.Call (.Attribute o (Str.ofString "rfind") apos) [e1] [] pos) (pint (Txt.rfind (S l) (S m))) :=
  ev_sm1 "str.rfind" x y (fun t s' Q E q => GM.rfind q) (fun t u s' Q E k => SC.rfind (k _ _ fun g => ⟨_, .int _ _⟩)) hl he
theorem ev_rstrip {o e1 : Expr} {apos pos : Pos} {pl : Sem Bool} {l m : List Nat} (x : Ev prog w A F B S₁ h env o (pstr (S l))) (y : Ev prog w A F B S₁ h env e1 (pstr (S m))) (hsz : l.length ≤ sizeLine)
    (hl : backTo pos (starEach [e1] env) = [(false, eval e1 env)] := by rfl)
    (he : eval (.Call (.Attribute o (Str.ofString "rstrip") apos) [e1] [] pos) env = (do
      let ov ← eval o env
      standAt apos.atName
      let (f, first) ← PySem.holding [ov] (getMethod ov (Str.ofString "rstrip") pl)
      callWith pos f first (backTo pos (starEach [e1] env)) []) := by rfl) : Ev prog w A F B S₁ h env (.Call (.Attribute o (Str.ofString "rstrip") apos) [e1] [] pos) (pstr (Txt.rstripChars (S l) (S m))) :=
  ev_sm1 "str.rstrip" x y (fun t s' Q E q => GM.rstrip q) (fun t u s' Q E k => SC.rstripChars (fun t' n => k _ _ fun g => ⟨_, .str _ _⟩) (by rw [S_len]; exact hsz)) hl he
theorem ev_starts {o e1 : Expr} {apos pos : Pos} {pl : Sem Bool} {l m : List Nat} (x : Ev prog w A F B S₁ h env o (pstr (S l))) (y : Ev prog w A F B S₁ h env e1 (pstr (S m)))
    (hl : backTo pos (starEach [e1] env) = [(false, eval e1 env)] := by rfl)
    (he : eval (.Call (.Attribute o (Str.ofString "startswith") apos) [e1] [] pos) env = (do
      let ov ← eval o env
      standAt apos.atName
      let (f, first) ← PySem.holding [ov] (getMethod ov (Str.ofString "startswith") pl)
      callWith pos f first (backTo pos (starEach [e1] env)) []) := by rfl) : Ev prog w A F B S₁ h env (.Call (.Attribute o (Str.ofString "startswith") apos) [e1] [] pos) (pbool (decide (l.take m.length = m))) :=
  ev_sm1 "str.startswith" x y (fun t s' Q E q => GM.startswith q) (fun t u s' Q E k => SC.startswith (k _ s'.toks fun g => by rw [starts_S]; exact ⟨_, .bool _⟩)) hl he
theorem ev_ends {o e1 : Expr} {apos pos : Pos} {pl : Sem Bool} {l m : List Nat} (x : Ev prog w A F B S₁ h env o (pstr (S l))) (y : Ev prog w A F B S₁ h env e1 (pstr (S m)))
    (hl : backTo pos (starEach [e1] env) = [(false, eval e1 env)] := by rfl)
    (he : eval (.Call (.Attribute o (Str.ofString "endswith") apos) [e1] [] pos) env = (do
      let ov ← eval o env
      standAt apos.atName
      let (f, first) ← PySem.holding [ov] (getMethod ov (Str.ofString "endswith") pl)
      callWith pos f first (backTo pos (starEach [e1] env)) []) := by rfl) : Ev prog w A F B S₁ h env (.Call (.Attribute o (Str.ofString "endswith") apos) [e1] [] pos) (pbool (decide (m.length ≤ l.length ∧ l.drop (l.length - m.length) = m))) :=
  ev_sm1 "str.endswith" x y (fun t s' Q E q => GM.endswith q) (fun t u s' Q E k => SC.endswith (k _ s'.toks fun g => by rw [ends_S]; exact ⟨_, .bool _⟩)) hl he

/-- a subscript of a text, of a list: by a slice or a number -/
theorem ev_substr {value slice : Expr} {pos : Pos} {l : List Nat} {P2 P : Pd} (x : Ev prog w A F B S₁ h env value (pstr (S l))) (y : Ev prog w A F B S₁ h env slice P2)
    (z : ∀ a i h', Le F B h h' → Ok A F B S₁ h' → (pstr (S l)) a (fz S₁ h') → P2 i (fz S₁ h') → Do prog w A F B S₁ h' (getItem a i) P.p)
    (hs : ∀ o i, ∃ ops, subscripted slice false o i = PySem.operate ops (getItem o i) := by intro o i; exact ⟨_, rfl⟩) : Ev prog w A F B S₁ h env (.Subscript value slice pos) P :=
  ev_sub (T := "str") x y (fun a s' ok p => by obtain ⟨t, rfl⟩ := dat_str p; exact typeIs_str _ _ _) PySem.F.slot_str_getitem.lookup z hs
theorem ev_sublist {value slice : Expr} {pos : Pos} {ds : List PyData} {P2 P : Pd} (x : Ev prog w A F B S₁ h env value (plist ds)) (y : Ev prog w A F B S₁ h env slice P2)
    (z : ∀ a i h', Le F B h h' → Ok A F B S₁ h' → (plist ds) a (fz S₁ h') → P2 i (fz S₁ h') → Do prog w A F B S₁ h' (getItem a i) P.p)
    (hs : ∀ o i, ∃ ops, subscripted slice false o i = PySem.operate ops (getItem o i) := by intro o i; exact ⟨_, rfl⟩) : Ev prog w A F B S₁ h env (.Subscript value slice pos) P :=
  ev_sub (T := "list") x y (fun a s' ok p => by
    obtain ⟨b, vs, rfl, ⟨ob, e, c, _⟩, _⟩ := plist_out p
    exact ⟨ob, (fz_in e).1, c⟩) slot_list_getitem.lookup z hs

theorem mul_one_text (c : Nat) (n : Nat) (hn : 1 ≤ n) : Txt.mul (S [c]) (n : Int) = S (List.replicate n c) := by
  unfold Txt.mul
  rw [if_neg (by omega)]
  by_cases h1 : n = 1
  · subst h1; rfl
  · rw [if_neg (by rw [S_len]; simp; omega)]
    unfold S
    congr 1
    have : ∀ (k : Nat) (acc : Array Nat), (List.replicate k (#[c] : Array Nat)).foldl (· ++ ·) acc = acc ++ (List.replicate k c).toArray := by
      intro k
      induction k with
      | zero => intro acc; simp
      | succ k ih => intro acc; rw [List.replicate_succ, List.foldl_cons, ih, List.replicate_succ]; apply Array.toList_inj.mp; simp
    have h2 := this n #[]
    simpa using h2
theorem z_mul_text {c n : Nat} {a b : Value} {g : Heap} (pa : (pstr (S [c])) a g) (pb : (pint (n : Int)) b g) (hn : 1 ≤ n) (hsz : n ≤ 1000000) : Do prog w A F B S₁ h (binaryOp .Mult a b) (pstr (S (List.replicate n c))).p := fun s Q E o lh k => by
  obtain ⟨t, rfl⟩ := dat_str pa; obtain ⟨u, rfl⟩ := dat_int pb
  refine SB.mul ⟨by rw [Bool.or_eq_false_iff]; exact ⟨decide_eq_false (by omega), decide_eq_false (by omega)⟩, fun _ _ => ?_, fun _ _ => ?_⟩ fun t' m => k _ _ (Go.toks _) (by rw [mul_one_text c n hn]; exact ⟨_, .str _ _⟩)
  · rw [S_len]
    have : (1 : Int) ≤ (2 ^ 63 - 1) / (n : Int) := Int.le_ediv_of_mul_le (by omega) (by omega)
    simp at this ⊢; omega
  · rw [S_len]
    have h2 : sizeLine = 16777216 := rfl
    show decide (_ > sizeLine) = false
    refine decide_eq_false ?_
    rw [h2]; simp; omega

theorem z_isinst_bytes {x : Str} {v : Value} {g : Heap} (p : (pstr x) v g) : Do prog w A F B S₁ h (call (.builtin "isinstance") [v, .type "bytes"] []) (pbool false).p := fun s Q E o l k => by
  obtain ⟨t, rfl⟩ := dat_str p
  exact call_isinstance (isinstance_false_str (by decide) rfl rfl) (k _ _ (Go.toks _) ⟨_, .bool _⟩)

theorem sp_get_sep (W : Wd B ad) {n : Nat} (rm : Rm A (n + 2)) {x : Str} {v : Value} (p : (pstr x) v (fz S₁ h)) : Do prog w A F B S₁ h (call (.ref (ad 23)) [v] []) (pstr (S [47])).p := by
  refine do_fn (P := pstr (S [47])) rm (W.f 23) W.lim ["path"] (Ps := [pstr x]) ⟨p, trivial⟩ ?_ ?_
  · intros; exact BindsTo.of_eq rfl _ _ _ _ (by assumption)
  intro name qual kV doc pm ct cd an L s₁ sb h₀ F' A' env Q' E' henv hA hF hrm hl hfS hal I fin
  have en := I.en
  subst henv
  conv in fb 23 => whnf
  refine x_if false I (tr_plain (P := pbool false) (ev_call2 (ev_g en W.b_isinstance) kp_builtin (ev_v I rfl) (ev_g en W.t_bytes) fun u u' h' l o q q' => ?_) fun a h' l o q => t_bool q) fun s3 I3 => ?_
  · obtain rfl : u' = _ := q'
    exact z_isinst_bytes q
  · rw [if_neg (by decide)]
    refine x_return (pstr (S [47])) I3 (ev_S [47]) fun v s' I' q => fin _ _ _ s' I' (ret_sub q)

theorem sp_dirname (W : Wd B ad) {n : Nat} (rm : Rm A (n + 3)) {y : List Nat} (hc : ∀ d ∈ y, d ≠ 47 ∧ d ≠ 46 ∧ d < 128) (hlen : y.length ≤ 1000) {v : Value} (p : (pstr (S (wayOf y))) v (fz S₁ h)) :
    Do prog w A F B S₁ h (call (.ref (ad 25)) [v] []) (pstr (S (wayOf y.tail))).p := by
  refine do_fn (P := pstr (S (wayOf y.tail))) rm (W.f 25) W.lim ["p"] (Ps := [pstr (S (wayOf y))]) ⟨p, trivial⟩ ?_ ?_
  · intros; exact BindsTo.of_eq rfl _ _ _ _ (by assumption)
  intro name qual kV doc pm ct cd an L s₁ sb h₀ F' A' env Q' E' henv hA hF hrm hl hfS hal I fin
  have en := I.en
  have R := hrm _ rm
  subst henv
  conv in fb 25 => whnf
  have hsz : sizeLine = 16777216 := rfl
  refine x_assign (pstr (S (wayOf y))) I (ev_call1 (ev_g en W.n19) (W.f 19).kp (ev_v I rfl) fun u h' l o q => sp_fspath W (R.le (by omega)) q) (.inl rfl) fun s2 I2 => ?_
  refine x_assign (pstr (S [47])) I2 (ev_call1 (ev_g en W.n23) (W.f 23).kp (ev_v I2 rfl) fun u h' l o q => sp_get_sep W R q) (.inl rfl) fun s3 I3 => ?_
  have key := way_split' (y := y) fun d m => (hc d m).1
  obtain ⟨pre, post, e1, e2, e3⟩ := key
  have hw := way_len y
  rw [e1, List.length_append, List.length_cons] at hw
  refine x_assign (pint ((pre.length + 1 : Nat) : Int)) I3 (ev_bin (ev_rfind (ev_v I3 rfl) (ev_v I3 rfl)) ev_int fun a b h' l o q1 q2 => ?_) (.inl rfl) fun s4 I4 => ?_
  · rw [rfind_one e1 e2] at q1
    exact z_add q1 q2
  refine x_assign (pstr (S (pre ++ [47]))) I4 (ev_substr (ev_v I4 rfl) (ev_slice part_none (part_some (ev_v I4 rfl)) part_none) fun a i h' l o q1 q2 => ?_) (.inl rfl) fun s5 I5 => ?_
  · have := z_slice_str (prog := prog) (w := w) (A := A') (F := F') (B := B) (lo := none) (hi := some (pre.length + 1)) q1 q2 (by rw [e1, List.length_append, List.length_cons]; omega)
    have e4 : sub none (some (pre.length + 1)) (wayOf y) = pre ++ [47] := by
      rw [e1]
      unfold sub
      show ((pre ++ 47 :: post).take (pre.length + 1)).drop 0 = _
      rw [List.drop_zero, List.take_append, List.take_of_length_le (Nat.le_succ _), Nat.add_sub_cancel_left]; rfl
    rw [e4] at this
    exact this
  refine x_if (decide (y.tail ≠ [])) I5 (tr_bool ?_) fun s6 I6 => ?_
  · have e5 : decide (y.tail ≠ []) = (decide (pre ++ [47] ≠ []) && (decide (pre ++ [47] ≠ List.replicate (pre.length + 1) 47) && true)) := by
      rcases e3 with ⟨h1, h2⟩ | ⟨d, z, h1, h2, ⟨p', h3⟩, h4⟩
      · rw [h1, h2]; rfl
      · have : pre ++ [47] ≠ List.replicate (pre.length + 1) 47 := fun e => by
          have m : 46 ∈ pre ++ [47] := List.mem_append_left _ h4
          rw [e] at m
          have := List.eq_of_mem_replicate m
          exact absurd this (by decide)
        rw [h1]; simp [this]
    rw [e5]
    refine tr_and (tr_plain (P := pstr (S (pre ++ [47]))) (ev_v I5 rfl) fun a h' l o q => t_str q (by rw [List.length_append, List.length_singleton]; omega)) fun _ h1 l1 o1 => ?_
    refine tr_and (b := decide (pre ++ [47] ≠ List.replicate (pre.length + 1) 47)) (tr_cmp (P1 := pstr (S (pre ++ [47]))) (P2 := pstr (S (List.replicate (pre.length + 1) 47))) ((ev_v I5 rfl).up l1) (ev_bin (P1 := pstr (S [47])) (P2 := pint ((pre.length + 1 : Nat) : Int)) ((ev_v I5 rfl).up l1) (ev_call1 (P1 := pstr (S (pre ++ [47]))) (ev_g en W.b_len) kp_builtin ((ev_v I5 rfl).up l1) fun u h' l o q => ?_) fun a b h' l o q1 q2 => ?_) fun a b h' l o q1 q2 => ?_) fun _ h2 l2 o2 => tr_nil rfl
    · have := z_len_str (prog := prog) (w := w) (A := A') (F := F') (B := B) q (by rw [List.length_append, List.length_singleton]; omega)
      rw [List.length_append, List.length_singleton] at this
      exact this
    · exact z_mul_text q1 q2 (by omega) (by omega)
    · refine z_ne emb_str (by omega) (by have := (hrm _ rm).un; omega) ?_ ?_ q1 q2
      · intro k hk
        rcases List.mem_append.mp hk with hk | hk
        · rcases way_mem (x := y) (k := k) (by rw [e1]; exact List.mem_append_left _ hk) with h | h | h
          · omega
          · omega
          · exact (hc k h).2.2
        · rw [List.mem_singleton.mp hk]; decide
      · intro k hk
        rw [List.eq_of_mem_replicate hk]; decide
  rcases e3 with ⟨h1, h2⟩ | ⟨d, z, h1, h2, ⟨p', h3⟩, h4⟩
  · subst h2
    rw [if_neg (by simp [h1])]
    have e6 : wayOf y.tail = [47] := by rw [h1]; rfl
    refine x_nil ?_
    refine x_return (pstr (S [47])) I6 (ev_v I6 rfl) fun v s' I' q => fin _ _ _ s' I' (by rw [e6]; exact ret_sub q)
  · rw [if_pos (by rw [h1]; simp)]
    refine x_assign (pstr (S pre)) I6 ?_ (.inl rfl) fun s7 I7 => x_nil ?_
    · refine Do.mono (ev_rstrip (l := pre ++ [47]) (m := [47]) (ev_v I6 rfl) (ev_v I6 rfl) (by rw [List.length_append, List.length_singleton]; omega)) fun v g q => ?_
      have hd : d ≠ 47 := (hc d (List.mem_of_mem_tail (by rw [h1]; simp))).1
      rw [h3, rstrip_one hd, ← h3] at q
      exact q
    · refine x_return (pstr (S pre)) I7 (ev_v I7 rfl) fun v s' I' q => fin _ _ _ s' I' (by rw [← h2]; exact ret_sub q)
end
end Mine

/-! ### Fn3 -/
namespace Mine
open PySem PySem.W PySem.Calls PyProof.Rows PySem.SeqAt

section
variable {prog : Program} {w : World} {A : Around} {F : List Addr} {B : Heap} {S₁ : List Addr} {h : Heap} {env : Env} {ad : Nat → Addr}

/-! ## inside a comprehension -/
theorem En.comp (e : En env) {scope : Scope} {cl : List (Str × Addr)} {C : Addr} (hk : scope.kind = .function := by rfl) : En (compEnvC scope cl C env) := ⟨hk, e.gl, e.bu⟩
theorem Tn.one {S' : List Addr} {h' : Heap} {C : Addr} {x : Str} {d : PyData} {scope : Scope} {cl : List (Str × Addr)} (T : Tn A F B S₁ h S' h' C (vone x d)) (hx : (compEnvC scope cl C env).kindOf x = some .local := by rfl) : Vr S' (compEnvC scope cl C env) h' x (dat d) := by
  obtain ⟨m, n, v, e, p⟩ := T.ns
  exact ⟨v, .inl ⟨hx, m, n, e⟩, p⟩
theorem Tn.fst {S' : List Addr} {h' : Heap} {C : Addr} {x y : Str} {d d' : PyData} {scope : Scope} {cl : List (Str × Addr)} (T : Tn A F B S₁ h S' h' C (vtwo x y d d')) (hx : (compEnvC scope cl C env).kindOf x = some .local := by rfl) : Vr S' (compEnvC scope cl C env) h' x (dat d) := by
  obtain ⟨m, n, ⟨v, e, p⟩, _⟩ := T.ns
  exact ⟨v, .inl ⟨hx, m, n, e⟩, p⟩
theorem Tn.snd {S' : List Addr} {h' : Heap} {C : Addr} {x y : Str} {d d' : PyData} {scope : Scope} {cl : List (Str × Addr)} (T : Tn A F B S₁ h S' h' C (vtwo x y d d')) (hx : (compEnvC scope cl C env).kindOf y = some .local := by rfl) : Vr S' (compEnvC scope cl C env) h' y (dat d') := by
  obtain ⟨m, n, _, ⟨v, e, p⟩⟩ := T.ns
  exact ⟨v, .inl ⟨hx, m, n, e⟩, p⟩
theorem Tn.free {S' : List Addr} {h' : Heap} {C : Addr} {y : Str} {P : Pd} {vp : (Str → Option Value) → Heap → Prop} {scope : Scope} {cl : List (Str × Addr)} (T : Tn A F B S₁ h S' h' C vp) (V : Vr S₁ env h y P) (hy : env.kindOf y = some .cell := by rfl)
    (hx : (compEnvC scope cl C env).kindOf y = some .cell := by rfl) (hl : cl.lookup y = env.cells.lookup y := by rfl) : Vr S' (compEnvC scope cl C env) h' y P := by
  obtain ⟨v, H, p⟩ := V
  rcases H with ⟨h1, _⟩ | ⟨_, c, e, n⟩
  · rw [hy] at h1; cases h1
  · exact ⟨v, .inr ⟨.inl hx, c, hl.trans e, T.le.cell n⟩, P.mono T.st p⟩
theorem ev_n {h' : Heap} {S' : List Addr} {x : Str} {pos : Pos} {P : Pd} (en : En env) (V : Vr S' env h' x P) (hd : (x == ("__debug__" : Str)) = false := by decide) (hn : (x == ("__classdict__" : Str)) = false := by decide) :
    Ev prog w A F B S' h' env (.Name x pos) P := ev_var en.kf V hd hn
theorem keep_all {n : Nat} {out : Nat → PyData} : outs (fun _ => true) out n = (List.range n).map out := by
  unfold outs
  rw [List.filter_eq_self.mpr fun _ _ => rfl]

theorem Itr.weaken {target : Expr} {t : Sem Value} {n m : Nat} {item item' : Nat → Value → Heap → Heap → Prop} (x : Itr prog w A F B S₁ h target t n item) (e : n = m) (hi : ∀ i v g h', i < n → item i v g h' → item' i v g h') : Itr prog w A F B S₁ h target t m item' := by
  subst e
  exact fun s Q E o l k => x s Q E o l fun I fp wr P Md St h' tk W hst hl hwr hfS hwf hlive hself hitem => k I fp wr P Md St h' tk W hst hl hwr hfS hwf hlive hself fun i v h'' S'' hin hP hst' => hi i v _ _ hin (hitem i v h'' S'' hin hP hst')
theorem itr_S {y : Str} {px : Pos} {t : Sem Value} {l : List Nat} (hh : A.handled = none) (z : Do prog w A F B S₁ h t (pstr (S l)).p) : Itr prog w A F B S₁ h (.Name y px) t l.length (fun i => ione (.str (S [l[i]?.getD 0]))) :=
  Itr.weaken (itr_str hh z) (by simp [S]) fun i v g h' hi q => by
    have hi' : i < l.length := by simpa [S] using hi
    have : (signs (S l))[i]?.getD .none = .str (S [l[i]?.getD 0]) := by
      unfold signs
      rw [S_cps, List.getElem?_map, List.getElem?_eq_getElem hi']
      rfl
    rw [← this]; exact q
theorem range_get {α β : Type} [Inhabited α] (f : α → β) (d : α) (l : List α) : ((List.range l.length).map fun i => f (l[i]?.getD d)) = l.map f := by
  apply List.ext_getElem?
  intro i
  rw [List.getElem?_map, List.getElem?_map]
  by_cases h : i < l.length
  · rw [List.getElem?_range h, List.getElem?_eq_getElem h]; simp [h]
  · rw [List.getElem?_eq_none (by simpa using h), List.getElem?_eq_none (by simpa using h)]; rfl
theorem ev_neg {n : Int} {k : Nat} {p pos : Pos} : Ev prog w A F B S₁ h env (.UnaryOp .USub (.Constant (.int n) k p) pos) (pint (-n)) := by
  show Do _ _ _ _ _ _ _ (do let v ← eval (.Constant (.int n) k p) env; standAt pos; PySem.holding [v] (unaryOp .USub v)) _
  refine Do.bind (ev_int (x := n) (k := k) (pos := p) (env := env)) fun a h1 l1 o1 q1 => Do.stand (Do.holding ?_)
  obtain ⟨t, rfl⟩ := dat_int q1
  exact fun s Q E o l kk => P.neg_int (kk _ _ (Go.toks _) ⟨_, .int _ _⟩)

/-! ## join -/
def joinL (sep : List Nat) : List (List Nat) → List Nat
  | [] => []
  | [x] => x
  | x :: y :: r => x ++ sep ++ joinL sep (y :: r)
theorem txt_join (sep : List Nat) (xs : List (List Nat)) : Txt.join (S sep) (xs.map S) = S (joinL sep xs) := by
  show Builtin.Str.glued _ _ = _
  rw [StrLaws.glued_eq_join]
  induction xs with
  | nil => rfl
  | cons x xs ih =>
    cases xs with
    | nil => rfl
    | cons y r =>
      show S x ++ S sep ++ Str.join (S sep) ((y :: r).map S) = _
      rw [ih, S_app, S_app]
      rfl
theorem strsAre_of {g : Heap} : ∀ {xs : List (List Nat)} {vs : List Value}, all (xs.map fun x => .str (S x)) vs g → StrsAre vs (xs.map S)
  | [], vs, h => by
    obtain ⟨as, r⟩ := h; cases r; exact .nil
  | x :: xs, vs, h => by
    cases vs with
    | nil => obtain ⟨as, r⟩ := h; cases r
    | cons v vs =>
      obtain ⟨h1, h2⟩ := h.uncons
      obtain ⟨t, rfl⟩ := dat_str h1
      exact .cons _ t (strsAre_of h2)
abbrev txs (xs : List (List Nat)) : List PyData := xs.map fun x => .str (S x)
theorem ev_join {o e1 : Expr} {apos pos : Pos} {pl : Sem Bool} {sep : List Nat} {xs : List (List Nat)} (x : Ev prog w A F B S₁ h env o (pstr (S sep))) (y : Ev prog w A F B S₁ h env e1 (plist (txs xs)))
    (hsz : (xs.map List.length).sum + xs.length * sep.length ≤ 16777216)
    (hl : backTo pos (starEach [e1] env) = [(false, eval e1 env)] := by rfl)
    (he : eval (.Call (.Attribute o (Str.ofString "join") apos) [e1] [] pos) env = (do
      let ov ← eval o env
      standAt apos.atName
      let (f, first) ← PySem.holding [ov] (getMethod ov (Str.ofString "join") pl)
      callWith pos f first (backTo pos (starEach [e1] env)) []) := by rfl) : Ev prog w A F B S₁ h env (.Call (.Attribute o (Str.ofString "join") apos) [e1] [] pos) (pstr (S (joinL sep xs))) :=
  ev_meth1 (id := "str.join") x (fun ov s' Q E ok _ p q => by obtain ⟨t, rfl⟩ := dat_str p; exact GM.join q) y (fun ov u h' l ok p q => by
    obtain ⟨t, rfl⟩ := dat_str p
    obtain ⟨D, vs, rfl, hl, hall⟩ := plist_out q
    intro s Q E o lh k
    have hl' : s.heap.IsList D vs.toArray := by obtain ⟨ob, e, r⟩ := hl; exact ⟨ob, lh.keep _ _ (fz_in e).1 (fun m => (fz_in e).2 (o.fs _ m)), r⟩
    have hi := strsAre_of hall
    refine join_list hl' hi ?_ fun t' n => k _ _ (Go.toks _) (by rw [txt_join]; exact ⟨_, .str _ _⟩)
    rw [List.map_map, List.length_map, S_len]
    have : (Str.length ∘ S) = List.length := by funext l; exact S_len l
    rw [this]; exact hsz) hl he

theorem way_join (x : List Nat) : [47] ++ joinL [47] (x.reverse.map fun c => [46, c]) = wayOf x := by
  have key : ∀ y : List Nat, y ≠ [] → [47] ++ joinL [47] (y.map fun c => [46, c]) = y.flatMap bit := by
    intro y
    induction y with
    | nil => intro h; exact absurd rfl h
    | cons c y ih =>
      intro _
      cases y with
      | nil => rfl
      | cons d y =>
        have := ih (by simp)
        show [47] ++ ([46, c] ++ [47] ++ joinL [47] ((d :: y).map fun c => [46, c])) = bit c ++ (d :: y).flatMap bit
        rw [← this]; simp [bit]
  cases x with
  | nil => rfl
  | cons c x => exact key _ (by simp)
theorem sum_map_const {α : Type} (f : α → Nat) (n : Nat) (h : ∀ a, f a = n) : ∀ l : List α, (l.map f).sum = n * l.length
  | [] => by simp
  | a :: l => by rw [List.map_cons, List.sum_cons, sum_map_const f n h l, h, List.length_cons, Nat.mul_succ, Nat.add_comm]

theorem sp_way (W : Wd B ad) {n : Nat} (rm : Rm A (n + 1)) {x : List Nat} (hlen : x.length ≤ 1000) {v : Value} (p : (pstr (S x)) v (fz S₁ h)) :
    Do prog w A F B S₁ h (call (.ref (ad 33)) [v] []) (pstr (S (wayOf x))).p := by
  refine do_fn (P := pstr (S (wayOf x))) rm (W.f 33) W.lim ["stretch"] (Ps := [pstr (S x)]) ⟨p, trivial⟩ ?_ ?_
  · intros; exact BindsTo.of_eq rfl _ _ _ _ (by assumption)
  intro name qual kV doc pm ct cd an L s₁ sb h₀ F' A' env Q' E' henv hA hF hrm hl hfS hal I fin
  have en := I.en
  have R := hrm _ rm
  subst henv
  conv in fb 33 => whnf
  have hsz : sizeLine = 16777216 := rfl
  refine x_return (pstr (S (wayOf x))) I ?_ fun v s' I' q => fin _ _ _ s' I' (ret_sub q)
  refine ev_bin (P1 := pstr (S [47])) (P2 := pstr (S (joinL [47] (x.reverse.map fun c => [46, c])))) (ev_S [47]) (ev_join (ev_S [47]) ?a ?b) fun a b h' l o q1 q2 => ?c
  case a =>
    refine ev_listcomp (n := x.reverse.length) (item := fun i => ione (.str (S [x.reverse[i]?.getD 0]))) (fun i => vone "sign" (.str (S [x.reverse[i]?.getD 0]))) (fun _ => true) (fun i => .str (S [46, x.reverse[i]?.getD 0])) ?_ ?_ ?_ ?_ (fun i m g g' k q => vone_mono k q) ?_ (by rw [List.length_reverse]; omega)
    · exact itr_S R.hh (ev_substr (P := pstr (S x.reverse)) (ev_v I rfl) (ev_slice part_none part_none (part_some ev_neg)) fun a i h' l o q1 q2 => z_rev_str q1 q2 (by omega))
    · exact fun i hi => asg_one (fun _ => rfl) (fun _ => rfl) (fun _ => rfl)
    · exact fun i S' h' C hi T => do_tests_nil
    · intro i S' h' C hi _ T
      refine ev_bin (P1 := pstr (S [46])) (P2 := pstr (S [x.reverse[i]?.getD 0])) (ev_S [46]) (ev_n en.comp T.one) fun a b h' l o q1 q2 => ?_
      exact z_cat q1 q2 (by simp; omega)
    · rw [keep_all, range_get (fun c => PyData.str (S [46, c]))]; simp [txs, List.map_map]
  case b =>
    have : ((x.reverse.map fun c => [46, c]).map List.length).sum = 2 * x.length := by
      rw [List.map_map]
      have := sum_map_const (List.length ∘ fun c : Nat => [46, c]) 2 (fun _ => rfl) x.reverse
      rw [List.length_reverse] at this
      exact this
    rw [this]
    simp; omega
  case c =>
    rw [← way_join]
    refine z_cat q1 q2 ?_
    rw [← List.length_append, way_join]
    have := way_len x; omega
end
end Mine

/-! ### Fn4 -/
namespace Mine
open PySem PySem.W PySem.Calls PyProof.Rows PySem.SeqAt

def dstep {α : Type} [DecidableEq α] (acc : List α) (x : α) : List α := if x ∈ acc then acc else acc ++ [x]
def dedup {α : Type} [DecidableEq α] (xs : List α) : List α := xs.foldl dstep []
theorem dedup_take {α : Type} [DecidableEq α] {xs : List α} {i : Nat} {a : α} (e : xs[i]? = some a) : dedup (xs.take (i + 1)) = dstep (dedup (xs.take i)) a := by
  unfold dedup
  rw [List.take_add_one, e, List.foldl_append]; rfl
theorem dstep_sub {α : Type} [DecidableEq α] {acc : List α} {x y : α} (h : y ∈ dstep acc x) : y ∈ acc ∨ y = x := by
  unfold dstep at h
  split at h
  · exact .inl h
  · rcases List.mem_append.mp h with h | h
    · exact .inl h
    · exact .inr (List.mem_singleton.mp h)
theorem dedup_sub {α : Type} [DecidableEq α] {xs : List α} {y : α} (h : y ∈ dedup xs) : y ∈ xs := by
  have : ∀ (l acc : List α), y ∈ l.foldl dstep acc → y ∈ acc ∨ y ∈ l := by
    intro l
    induction l with
    | nil => intro acc h; exact .inl h
    | cons x l ih =>
      intro acc h
      rcases ih _ h with h | h
      · rcases dstep_sub h with h | h
        · exact .inl h
        · exact .inr (h ▸ .head _)
      · exact .inr (.tail _ h)
  rcases this xs [] h with h | h
  · cases h
  · exact h
theorem dstep_len {α : Type} [DecidableEq α] (acc : List α) (x : α) : (dstep acc x).length ≤ acc.length + 1 := by
  unfold dstep; split <;> simp
theorem dedup_len {α : Type} [DecidableEq α] (xs : List α) : (dedup xs).length ≤ xs.length := by
  have : ∀ (l acc : List α), (l.foldl dstep acc).length ≤ acc.length + l.length := by
    intro l
    induction l with
    | nil => intro acc; simp
    | cons x l ih =>
      intro acc
      have h1 := ih (dstep acc x)
      have h2 := dstep_len acc x
      rw [List.foldl_cons, List.length_cons]; omega
  have := this xs []
  rw [List.length_nil, Nat.zero_add] at this
  exact this

section
variable {prog : Program} {w : World} {A : Around} {F : List Addr} {B : Heap} {S₁ : List Addr} {h h₀ : Heap} {env : Env} {ad : Nat → Addr} {own : List (Addr × Ow)} {ρ : List (Str × Pd)} {s₀ s : Shared} {D : Addr} {ds : List PyData}

theorem ret_own (I : St A F B h₀ S₁ env ((D, owl ds) :: own) ρ s₀ s) : (plist ds) (.ref D) (fz S₁ s.heap) := by
  obtain ⟨o, ho, vs, n, rfl, hall⟩ := I.head
  refine plist_in (fz_get ho fun m => I.dis D (.tail _ (List.mem_append_right _ (.head _))) m) rfl rfl (hall.mono (fz_sub fun a m => List.mem_append_right _ m))
section
variable {α : Type} [DecidableEq α] {f : α → PyData} {ok : α → Prop} {n : Nat} {x y : α} {xs : List α} {a b : Value}
theorem own_reads {h' : Heap} (I : St A F B h₀ S₁ env ((D, owl ds) :: own) ρ s₀ s) (l : Le F B s.heap h') : ∃ vs n, h'.get? D = some { cls := .type "list", data := .seq vs n } ∧ all ds vs.toList (fz (SS env ((D, owl ds) :: own) S₁) h') := by
  obtain ⟨o, ho, vs, n, rfl, hall⟩ := I.head
  exact ⟨vs, n, l.keep D _ ho (I.nF D (List.mem_append_right _ (.head _))), hall.mono (I.ok.fz l)⟩
theorem z_notin_own (e : Emb f ok n) (hn : n ≤ 60) (hu : A.units ≤ 6000) (hx : ok x) (hxs : ∀ a ∈ xs, ok a) {h' : Heap} (I : St A F B h₀ S₁ env ((D, owl (xs.map f)) :: own) ρ s₀ s) (l : Le F B s.heap h') (pa : (dat (f x)) a (fz (SS env ((D, owl (xs.map f)) :: own) S₁) h')) :
    Do prog w A F B (SS env ((D, owl (xs.map f)) :: own) S₁) h' (compareOp .NotIn a (.ref D)) (pbool (decide (x ∉ xs))).p := fun s' Q E o l' k => by
  obtain ⟨vs, m, ho, hall⟩ := own_reads I (l.trans l')
  have up : (fz (SS env ((D, owl (xs.map f)) :: own) S₁) h').StaysIn s'.heap := fun b ob e => l'.keep b ob (fz_in e).1 fun m => (fz_in e).2 (o.fs b m)
  obtain ⟨as, ra⟩ := dat_up pa up
  obtain ⟨bs, rb⟩ : (plist (xs.map f)) (.ref D) s'.heap := plist_in ho rfl rfl (hall.mono fz_stays)
  exact notIn_list_dataH rb ra (e.list.shaped (by omega) hxs) (e.shaped (by omega) hx) (by have : cLine = 9900 := rfl; omega) (fun y m => by
      obtain ⟨z, _, rfl⟩ := List.mem_map.mp m
      exact e.mix z x) (by
        rw [e.count]
        have : (!decide (x ∈ xs)) = decide (x ∉ xs) := by by_cases h : x ∈ xs <;> simp [h]
        rw [this]; exact k _ s' .refl (dat_bool_in _))

theorem sp_dedup (W : Wd B ad) {k : Nat} (rm : Rm A (k + 1)) (e : Emb f ok n) (hn : n ≤ 60) (hxs : ∀ a ∈ xs, ok a) (hlen : xs.length ≤ 100000) {v : Value} (p : (plist (xs.map f)) v (fz S₁ h)) :
    Do prog w A F B S₁ h (call (.ref (ad 2)) [v] []) (plist ((dedup xs).map f)).p := by
  refine do_fn (P := plist ((dedup xs).map f)) rm (W.f 2) W.lim ["unhashable_params"] (Ps := [plist (xs.map f)]) ⟨p, trivial⟩ ?_ ?_
  · intros; exact BindsTo.of_eq rfl _ _ _ _ (by assumption)
  intro name qual kV doc pm ct cd an L s₁ sb h₀ F' A' env Q' E' henv hA hF hrm hl hfS hal I fin
  have en := I.en
  have R := hrm _ rm
  subst henv
  conv in fb 2 => whnf
  have hsz : sizeLine = 16777216 := rfl
  have hu : A'.units ≤ 6000 := by have := R.un; omega
  refine x_own (ow := owl []) I (nw_list W.lim sp_dats_nil (by simp)) (.inl rfl) fun D s2 _ I2 => ?_
  refine x_for I2 (itr_list (x := "t") R.hh (ev_v I2 (x := "unhashable_params") rfl)) (fun i => [(D, owl ((dedup (xs.take i)).map f))]) (fun i => [("new_unhashable", isv (.ref D)), ("unhashable_params", plist (xs.map f))]) (fun i => [("t", dat ((xs.map f)[i]?.getD .none))]) (fun _ => True)
    (fun i => rfl) rfl ⟨rfl, rfl, trivial⟩ trivial (fun i v s1 sb hb S₁ Q' E' hi J hv k => asgSt_one (.inl rfl) J hv k) ?_ fun s3 I3 _ => ?_
  · intro i s3 sb3 hb S₂ Q2 hi _ hS I3 next esc out
    have hi' : i < xs.length := by simpa using hi
    have ea : xs[i]? = some xs[i] := List.getElem?_eq_getElem hi'
    have ea' : (xs.map f)[i]?.getD .none = f xs[i] := by rw [List.getElem?_map, ea]; rfl
    rw [ea'] at I3
    refine x_if (decide (xs[i] ∉ dedup (xs.take i))) I3 (tr_cmp (P1 := dat (f xs[i])) (P2 := isv (.ref D)) (ev_v I3 rfl) (ev_v I3 rfl) fun a c h' l o q1 q2 => ?_) fun s4 I4 => ?_
    · obtain rfl : c = _ := q2
      exact z_notin_own e hn hu (hxs _ (List.getElem_mem hi')) (fun a m => hxs a (List.mem_of_mem_take (dedup_sub m))) I3 l q1
    · by_cases hm : xs[i] ∈ dedup (xs.take i)
      · rw [if_neg (by simpa using hm)]
        refine x_nil (x_nil (next s4 ?_ trivial).1)
        have := I4.sub (ρ' := [("new_unhashable", isv (.ref D)), ("unhashable_params", plist (xs.map f))]) ⟨rfl, rfl, trivial⟩
        rw [dedup_take ea, dstep, if_pos hm]
        exact this
      · rw [if_pos (by simpa using hm)]
        have hlen2 : (dedup (xs.take i)).length ≤ xs.length := Nat.le_trans (dedup_len _) (by simp; omega)
        refine x_append (d := f xs[i]) I4 rfl (ev_v I4 rfl) (by simp; omega) fun s5 I5 => ?_
        refine x_nil (x_nil (next s5 ?_ trivial).1)
        have := I5.sub (ρ' := [("new_unhashable", isv (.ref D)), ("unhashable_params", plist (xs.map f))]) ⟨rfl, rfl, trivial⟩
        rw [dedup_take ea, dstep, if_neg hm, List.map_append]
        exact this
  · have I3' := I3
    simp only [List.length_map, List.take_length] at I3'
    refine x_return (isv (.ref D)) I3' (ev_v I3' rfl) fun v s' I' q => fin _ _ _ s' I' ?_
    obtain rfl : v = _ := q
    exact ret_own I'
end
end
end Mine

/-! ### Base11 -/
namespace Mine
open PySem PySem.W PySem.Calls PyProof.Rows

section
variable {M : Model} {A : Around} {E : Value → Shared → Prop} {s : Shared}
theorem note_first {base : Heap} {env : Env} {outer : List Env} {L e : Addr} {oe : Obj} {vs : Array Value} {a0 : Value} {Q : Unit → Shared → Prop}
    (hfr : A.frames = some (env :: outer)) (hl : s.heap.FunFrames base (env :: outer)) (hf : env.frame = some L)
    (he : s.heap.get? e = some oe) (hkb : base.StaysIn s.heap) (hen : base.get? e = none) (hd : oe.data = .fields vs) (h1 : vs[1]? = some .none) (h0 : vs[0]? = some a0)
    (h : ∀ h', Heap.NotedW base (env :: outer) e oe.cls a0 (rawInt L) s.heap h' → Q () { s with heap := h' }) : wpAny M A (noteFrame (.ref e) env) Q E s := by
  unfold noteFrame
  simp only [hf]
  refine wpAny_bind (wpAny_field he hd h1 ?_)
  rw [if_neg (by decide)]
  exact wpAny_entryW hfr hl hf he hkb hen hd (Array.getElem?_eq_some_iff.mp h1).1 h0 h
theorem flight_some {base : Heap} {l : List Env} {e L : Addr} {cls a0 : Value} {Q : Unit → Shared → Prop} (hh : Heap.HeldW base l e cls a0 L s.heap)
    (hQ : ∀ h', Heap.HeldW base l e cls a0 L h' → s.heap.UpToSlots h' → Q () { s with heap := h' }) : wpAny M A (setFlight (.ref e) (some L)) Q E s := by
  obtain ⟨hkb, hen, hl, oe, vs, T, oT, ts, he, hcls, hd, h1, hnT, hTe, hT, hdT, h3⟩ := hh
  have hsz3 : 3 < ts.size := (Array.getElem?_eq_some_iff.mp h3).1
  have other : ∀ b, b ≠ T → (s.heap.update T (Obj.mapFields (·.setIfInBounds 3 ((some L : Option Addr).elim Value.none fun f => rawInt f)))).get? b = s.heap.get? b :=
    fun b hb => Heap.get?_update_other _ _ (Ne.symm hb)
  have noRecord : ∀ b o, s.heap.get? b = some o → (∀ vs, o.data ≠ .fields vs) → b ≠ T := fun b o hb hnf q => by
    rw [q, hT] at hb; injection hb with hb; subst hb; exact hnf ts hdT
  unfold setFlight
  refine wpAny_bind (wpAny_field he hd h1 ?_)
  rw [if_pos (show (Value.ref T != Value.none) = true from by simp)]
  refine wpAny_setField hT hdT hsz3 (hQ _ ⟨fun b o hbo => (other b fun q => by rw [q, hnT] at hbo; cases hbo).trans (hkb b o hbo), hen,
    hl.of_keeps fun b o hb hnf => ⟨o, (other b (noRecord b o hb hnf)).trans hb, rfl⟩, ?_⟩ fun b o hb hnf => ⟨o.slots, (other b (noRecord b o hb hnf)).trans hb⟩)
  exact ⟨oe, vs, T, _, _, (other e (Ne.symm hTe)).trans he, hcls, hd, h1, hnT, hTe, Heap.get?_update_self _ hT (Obj.isFreed_of_fields (Obj.data_mapFields hdT _)), Obj.data_mapFields hdT _, by simp [hsz3]⟩
end

section
variable {prog : Program} {w : World} {A : Around} {F : List Addr} {B h₀ : Heap} {S₀ : List Addr} {env : Env} {own own' : List (Addr × Ow)} {ρ ρ' : List (Str × Pd)} {s₀ s s' : Shared}

theorem St.slots (I : St A F B h₀ S₀ env own ρ s₀ s) {h' : Heap} (k : (hideAll s.heap F).StaysIn h') (u : s.heap.UpToSlots h') : St A F B h₀ S₀ env own ρ s₀ { s with heap := h' } := by
  have bF : ∀ a ∈ F, B.get? a = none := fun a m => by
    obtain ⟨outer, _, e2, e3⟩ := I.ok.fr
    exact (e3.mem (by rw [e2]; exact m)).1
  refine I.go ⟨h', s.toks, rfl, fun hb b o e => k b o (hideAll_get _ (hb b o e) fun m => by rw [bF b m] at e; cases e), fun a o e n => k a o (hideAll_get _ e n), fun a o e => ?_⟩
  by_cases hd : ∃ vs, o.data = .fields vs
  · refine ⟨o, k a o (hideAll_get _ e fun m => ?_), rfl⟩
    obtain ⟨outer, _, e2, e3⟩ := I.ok.fr
    obtain ⟨_, o', ho', hd'⟩ := e3.mem (b := a) (by rw [e2]; exact m)
    rw [e] at ho'; cases ho'
    obtain ⟨vs, hv⟩ := hd
    exact hd' vs hv
  · obtain ⟨sl, hs⟩ := u a o e fun vs q => hd ⟨vs, q⟩
    exact ⟨_, hs, rfl⟩
theorem wp_glob {x : Str} {pos : Pos} {v : Value} {Q : Value → Shared → Prop} {E : Value → Shared → Prop} (hk : env.scope.kind = .function) (hg : env.globals = mainGlobals) (hb : env.builtins = builtinsNs) (hx : env.kindOf x = some .globalImplicit) (G : GN B x v) (hd : (x == ("__debug__" : Str)) = false)
    (bh : B.StaysIn s.heap) (q : Q v s) : wpAny (model prog w) A (eval (.Name x pos) env) Q E s := by
  obtain ⟨mg, mb, g1, g2, g3⟩ := G
  have n1 : s.heap.Ns env.globals mg := by rw [hg]; exact g1.keeps bh
  have n2 : s.heap.Ns env.builtins mb := by rw [hb]; exact g2.keeps bh
  refine Name_function_global hk hx ?_ hd
  rcases g3 with g3 | ⟨g3, g4⟩
  · exact loadGlobal_global n1 g3 q
  · exact loadGlobal_builtin n1 g3 n2 g4 q
theorem St.mark (I : St A F B h₀ S₀ env own ρ s₀ s) (x : Option Value) : St (A.mark x) F B h₀ S₀ env own ρ s₀ s :=
  ⟨⟨I.ok.bh, I.ok.fr, I.ok.fs, I.ok.al⟩, I.hB, I.old, I.fresh, I.nd, I.nF, I.loc, I.cel, I.vars, I.owns, I.same, I.en, I.dis⟩

/-- an exception that comes out of a loop within a try, and is caught by its first clause -/
theorem caught {outer : List Env} {e : Addr} {h' : Heap} {tk : Nat} {X T : String} {x : Str} {np pos : Pos} {b₀ : Stmt} {suite : List Stmt} {rest : List ExceptHandler} {Q : Flow → Shared → Prop} {E : Value → Shared → Prop}
    (I : St A F B h₀ S₀ env own ρ s₀ s) (hfr : A.frames = some (env :: outer)) (hf : env.frame = some env.locals) (hx : Heap.NewExc s.heap h' e X)
    (hexc : isSubtype (.type T) (.type "BaseException") = pure true) (hnt : isSubtype (.type ((Manifest.find? T).elim "type" fun x => x.metatype)) (.type "tuple") = pure false) (hsub : isSubtype (.type X) (.type T) = pure true)
    (G : GN B x (.type T)) (hgx : env.kindOf x = some .globalImplicit) (hdx : (x == ("__debug__" : Str)) = false)
    (k : ∀ s6 (E' : Value → Shared → Prop), St (A.mark (some (.ref e))) F B h₀ S₀ env own ρ s₀ s6 → wpAny (model prog w) (A.mark (some (.ref e))) (execs (b₀ :: suite) env) Q E' s6) :
    LE prog w A env (fun e s₁ => wpAny (model prog w) A (noteFrame e env) (fun _ s₂ => wpAny (model prog w) A (setFlight e none) (fun _ s₃ => wpAny (model prog w) A (handleBy e env (.ExceptHandler (some (.Name x np)) none (b₀ :: suite) pos :: rest)) Q E s₃) E s₂) E s₁)
      (.ref e) { s with heap := h', toks := tk } := by
  obtain ⟨ob, t, he, hcls, hd⟩ := hx.there
  obtain ⟨hk, _, ho⟩ : True ∧ True ∧ True := ⟨trivial, trivial, trivial⟩
  have hF : F = (env :: outer).filterMap (·.frame) := by
    obtain ⟨o2, e1, e2, e3⟩ := I.ok.fr
    rw [hfr] at e1; cases e1; exact e2.symm
  have hfun : s.heap.FunFrames B (env :: outer) := by
    obtain ⟨o2, e1, e2, e3⟩ := I.ok.fr
    rw [hfr] at e1; cases e1; exact e3
  have hfun2 : s.heap.FunFrames (hideAll s.heap F) (env :: outer) := funFrames_hide hfun fun en hen a ha => by rw [hF]; exact List.mem_filterMap.mpr ⟨en, hen, ha⟩
  have hfun3 : h'.FunFrames (hideAll s.heap F) (env :: outer) := hfun2.of_keeps fun b o e _ => ⟨o, hx.keeps b o e, rfl⟩
  have hkb : (hideAll s.heap F).StaysIn h' := fun b o e => hx.keeps b o (of_hideAll _ e)
  have hen : (hideAll s.heap F).get? e = none := by
    cases q : (hideAll s.heap F).get? e with
    | none => rfl
    | some o => have := of_hideAll _ q; rw [hx.new] at this; cases this
  have u1 : s.heap.UpToSlots h' := .of_keeps hx.keeps
  show wpAny (model prog w) A (noteFrame (.ref e) env) _ _ _
  refine note_first (base := hideAll s.heap F) (s := { s with heap := h', toks := tk }) hfr hfun3 hf he hkb hen hd rfl rfl fun h2 hn => ?_
  obtain ⟨n1, n2, n3, n4⟩ := hn
  have H2 : Heap.HeldW (hideAll s.heap F) (env :: outer) e (.type X) t env.locals h2 := ⟨n1, hen, n2, by rw [← hcls]; exact n3⟩
  unfold cameBackBy
  have H2' := H2
  obtain ⟨_, _, _, oe, vs, TT, oT, ts, he2, hc2, hd2, h12, hnT, hTe, hT, hdT, h3⟩ := H2'
  refine wpAny_bind (wpAny_field he2 hd2 h12 ?_)
  rw [if_neg (by simp), hf]
  refine flight_some (s := { s with heap := h2, toks := tk }) H2 fun h4 H4 u4 => ?_
  refine wpAny_noteFrame_againW (base := hideAll s.heap F) hf H4.2.2.2 ?_
  refine wpAny_landsW H4 fun h5 H5 u5 => ?_
  have u : s.heap.UpToSlots h5 := ((u1.trans n4).trans u4).trans u5
  have I5 := (I.slots H5.1 u)
  have I5' : St A F B h₀ S₀ env own ρ s₀ { s with heap := h5, toks := tk } := I5.go (Go.toks tk)
  obtain ⟨o5, v5, T5, oT5, ts5, he5, hc5, _⟩ := H5.2.2.2
  refine wpAny_handleBy_builtin (X := X) (T := T) (b := true) hexc hnt hsub ?_
  have Ig := I5'.mark (some (.ref e))
  refine wp_glob (s := { s with heap := h5, toks := tk }) Ig.en.kf Ig.en.gl Ig.en.bu hgx G hdx Ig.ok.bh ⟨rfl, ⟨o5, he5, hc5.1⟩, ?_⟩
  rw [if_pos rfl]
  refine lands_againW (s := { s with heap := h5, toks := tk }) H5 fun h6 H6 u6 => ?_
  have I6 : St A F B h₀ S₀ env own ρ s₀ { s with heap := h6, toks := tk } := (I.slots H6.1 (u.trans u6)).go (Go.toks tk)
  exact k _ _ (I6.mark (some (.ref e)))
end
end Mine

/-! ### Fn5 -/
namespace Mine
open PySem PySem.W PySem.Calls PyProof.Rows PySem.SeqAt

def rems {α : Type} [DecidableEq α] : List α → List α → Option (List α)
  | t, [] => some t
  | t, a :: r => if a ∈ t then rems (t.erase a) r else none
def cmp {α : Type} [DecidableEq α] (xs ys : List α) : Bool := rems (dedup ys) (dedup xs) == some []
theorem rems_append {α : Type} [DecidableEq α] (t r r' : List α) : rems t (r ++ r') = (rems t r).bind fun u => rems u r' := by
  induction r generalizing t with
  | nil => rfl
  | cons a r ih =>
    show (if a ∈ t then rems (t.erase a) (r ++ r') else none) = (if a ∈ t then rems (t.erase a) r else none).bind _
    split
    · exact ih _
    · rfl
theorem rems_take {α : Type} [DecidableEq α] {t xs : List α} {i : Nat} {a : α} {u : List α} (e : xs[i]? = some a) (h : rems t (xs.take i) = some u) : rems t (xs.take (i + 1)) = if a ∈ u then some (u.erase a) else none := by
  rw [List.take_add_one, e, rems_append, h]
  show rems u [a] = _
  unfold rems
  split <;> rfl
theorem rems_fail {α : Type} [DecidableEq α] {t xs : List α} {i : Nat} (h : rems t (xs.take i) = none) : rems t xs = none := by
  rw [← List.take_append_drop i xs, rems_append, h]; rfl
theorem rems_len {α : Type} [DecidableEq α] {t xs u : List α} (h : rems t xs = some u) : u.length ≤ t.length ∧ ∀ a ∈ u, a ∈ t := by
  induction xs generalizing t with
  | nil => cases h; exact ⟨Nat.le_refl _, fun a m => m⟩
  | cons a r ih =>
    have h' : (if a ∈ t then rems (t.erase a) r else none) = some u := h
    split at h'
    · obtain ⟨i1, i2⟩ := ih h'
      exact ⟨Nat.le_trans i1 List.length_erase_le, fun b m => List.mem_of_mem_erase (i2 b m)⟩
    · cases h'

section
variable {prog : Program} {w : World} {A : Around} {F : List Addr} {B : Heap} {S₁ : List Addr} {h h₀ : Heap} {env : Env} {ad : Nat → Addr} {own : List (Addr × Ow)} {ρ : List (Str × Pd)} {s₀ s : Shared} {D : Addr} {ds : List PyData}

theorem St.unmark {x : Option Value} (I : St (A.mark x) F B h₀ S₁ env own ρ s₀ s) : St A F B h₀ S₁ env own ρ s₀ s :=
  ⟨⟨I.ok.bh, I.ok.fr, I.ok.fs, I.ok.al⟩, I.hB, I.old, I.fresh, I.nd, I.nF, I.loc, I.cel, I.vars, I.owns, I.same, I.en, I.dis⟩
theorem x_try {body rest : List Stmt} {h1 : ExceptHandler} {hs : List ExceptHandler} {pos : Pos} {Q : Flow → Shared → Prop} {E : Value → Shared → Prop}
    (x : wpAny (model prog w) A (execs body env) (fun f s₁ => match f with | .next => wpAny (model prog w) A (execs rest env) Q E s₁ | f => Q f s₁)
      (fun e s₁ => wpAny (model prog w) A (noteFrame e env) (fun _ s₂ => wpAny (model prog w) A (setFlight e none) (fun _ s₃ => wpAny (model prog w) A (handleBy e env (h1 :: hs)) (fun f s' => match f with | .next => wpAny (model prog w) A (execs rest env) Q E s' | f => Q f s') E s₃) E s₂) E s₁) s) :
    wpAny (model prog w) A (execs (.Try body (h1 :: hs) [] [] pos :: rest) env) Q E s :=
  wpAny_execs_cons (wpAny_Try_except (wpAny_mono x (fun f s1 h1 => by cases f <;> first | exact wpAny_execs_nil h1 | exact h1) fun _ _ q => q))

theorem gm_remove {M : Model} {l : Addr} {o : Obj} {pl : Sem Bool} {Q : Value × List Value → Shared → Prop} {E : Value → Shared → Prop} (ho : s.heap.get? l = some o) (hc : o.cls = .type "list") (hd : o.dict = none)
    (h : Q (.builtin "list.remove", [.ref l]) s) : wpAny M A (getMethod (.ref l) (Str.ofString "remove") pl) Q E s := by
  have hT : s.TypeIs (.ref l) "list" := ⟨o, ho, hc⟩
  unfold getMethod
  refine wpAny_bind (wpAny_specialOf hT list_getattribute ?_)
  show wpAny M A (if (Manifest.canonical "list.__getattribute__" != "object.__getattribute__") = true then _ else _) Q E s
  rw [canon_list_getattribute, if_neg Bool.false_ne_true]
  refine wpAny_bind (wpAny_specialOf hT list_getattr_none ?_)
  refine wpAny_bind (wpAny_specialOf hT PySem.F.slot_list_remove.lookup ?_)
  refine wpAny_bind (wpAny_of_eq PySem.F.type_list_remove ?_)
  refine wpAny_bind (wpAny_load ho ?_)
  rw [hd]
  exact wpAny_bind (wpAny_rule (wpAny_pure h))
theorem nw_call1 {fe e1 : Expr} {pos : Pos} {f : Value} {P1 : Pd} {ow : Ow} (x : Ev prog w A F B S₁ h env fe (isv f)) (K : Kp prog w B f) (y : Ev prog w A F B S₁ h env e1 P1)
    (z : ∀ v h', Le F B h h' → Ok A F B S₁ h' → P1 v (fz S₁ h') → Nw prog w A F B S₁ h' (call f [v] []) ow)
    (hl : backTo pos (starEach [e1] env) = [(false, eval e1 env)] := by rfl)
    (he : eval (.Call fe [e1] [] pos) env = (do callWith pos (← eval fe env) [] (backTo pos (starEach [e1] env)) []) := by rfl) : Nw prog w A F B S₁ h (eval (.Call fe [e1] [] pos) env) ow := by
  rw [he, hl]
  refine nw_bind x fun v h1 l1 o1 q1 => ?_
  obtain rfl : v = f := q1
  intro s Q E o l k
  refine wp_callWith K (evalArgs_plain (spliced_cons (y s _ E o (l1.trans l) fun u s2 g2 q2 => spliced_nil ⟨o.bh |> fun b => g2.le.base b, ?_⟩)))
  have l2 : Le F B h s2.heap := (l1.trans l).trans g2.le
  refine z u s2.heap l2 (o.le g2.le) q2 s2 _ _ (o.le g2.le) .refl fun D h' tk hD hm l' hO => ?_
  obtain ⟨h3, t3, rfl, l3⟩ := g2
  refine k D h' tk ?_ hm (l3.trans l') hO
  cases e : s.heap.get? D with
  | none => rfl
  | some o => obtain ⟨o', e'⟩ := l3.alive e; rw [hD] at e'; cases e'
theorem nw_copy {v : Value} (hlim : B.NoLimit) (p : (plist ds) v (fz S₁ h)) (hsz : ds.length ≤ sizeLine) : Nw prog w A F B S₁ h (call (.type "list") [v] []) (owl ds) := fun s Q E o l k => by
  obtain ⟨a, vs, rfl, ⟨ob, e, c, n, d⟩, hall⟩ := plist_out p
  have fr : s.heap.get? s.heap.objs.size = none := by
    cases e : s.heap.get? s.heap.objs.size with
    | none => rfl
    | some o => exact absurd (Heap.lt_size e) (Nat.lt_irrefl _)
  refine call_list_seq a (.inl rfl) (l.keep _ _ (fz_in e).1 fun m => (fz_in e).2 (o.fs _ m)) c d (fun h' c' hk hD => ?_) (by simp [hall.length]; exact hsz)
  refine k s.heap.objs.size h' s.toks fr (fresh_notModules hlim o.bh) (.of_keeps hk) ⟨_, hD, _, _, rfl, ?_⟩
  refine all.mono (fz_le (l.trans (.of_keeps hk)) o.fs fun a m => ?_) (by simpa using hall)
  rcases List.mem_cons.mp m with rfl | m
  · refine .inr ?_
    cases e : h.get? s.heap.objs.size with
    | none => rfl
    | some o => obtain ⟨o', e'⟩ := l.alive e; rw [fr] at e'; cases e'
  · exact .inl m
theorem z_not {a : Value} {c : Bool} (x : Do prog w A F B S₁ h (truthy a) (fun d _ => d = c)) : Do prog w A F B S₁ h (unaryOp .Not a) (pbool (!c)).p := by
  unfold unaryOp
  refine Do.holding ?_
  show Do _ _ _ _ _ _ _ (do let d ← truthy a; pure (Value.bool (!d))) _
  refine Do.bind x fun d h2 l2 o2 q2 => Do.pure fun _ _ _ => ?_
  subst q2
  exact dat_bool_in _
theorem t_own (I : St A F B h₀ S₁ env ((D, owl ds) :: own) ρ s₀ s) {h' : Heap} (l : Le F B s.heap h') (hsz : ds.length ≤ sizeLine) : Do prog w A F B (SS env ((D, owl ds) :: own) S₁) h' (truthy (.ref D)) (fun c _ => c = decide (ds ≠ [])) := fun s' Q E o l' k => by
  obtain ⟨vs, m, ho, hall⟩ := own_reads I (l.trans l')
  have h2 : sizeLine = 16777216 := rfl
  have hv := hall.length
  refine wpAny_truthy_list (items := vs) ⟨_, ho, rfl, m, rfl⟩ (by rw [← Array.length_toList, hv]; omega) (k _ _ (Go.toks _) ?_)
  obtain ⟨vs⟩ := vs
  cases vs <;> cases ds <;> simp_all

section
variable {α : Type} [DecidableEq α] {f : α → PyData} {ok : α → Prop} {n : Nat} {x y : α} {xs ys : List α} {a b : Value}
theorem eqAt_own (e : Emb f ok n) (hn : n ≤ 60) (hx : ok x) (hxs : ∀ a ∈ xs, ok a) {vs : Array Value} {v : Value} {g : Heap} {s' : Shared} (hg : g.StaysIn s'.heap) (hall : all (xs.map f) vs.toList g) (pv : (dat (f x)) v g) :
    ∀ m (hm : m < vs.size), EqAt s' vs[m] v (decide (xs[m]? = some x)) := by
  intro m hm prog w A E Q hu q
  have hlen := hall.length
  rw [List.length_map, Array.length_toList] at hlen
  have hmx : m < xs.length := by omega
  have e1 : xs[m]? = some xs[m] := List.getElem?_eq_getElem hmx
  obtain ⟨u, eu, pu⟩ := hall.get (i := m) (d := f xs[m]) (by rw [List.getElem?_map, e1]; rfl)
  have : u = vs[m] := by
    rw [Array.getElem?_toList, Array.getElem?_eq_getElem hm] at eu
    exact (Option.some.inj eu).symm
  subst this
  obtain ⟨as, ra⟩ := dat_up pu hg
  obtain ⟨bs, rb⟩ := dat_up pv hg
  refine eqBoolOverData prog w A E s' _ _ _ _ as bs Q ra rb (e.lay _ (hxs _ (List.getElem_mem hmx))) (e.lay _ hx) ?_ ?_
  · have : cLine = 9900 := rfl
    have h1 := e.dep xs[m]
    have h2 : min (f xs[m]).depth (f x).depth ≤ (f xs[m]).depth := Nat.min_le_left _ _
    omega
  · rw [e.eq]
    rw [e1] at q
    have : decide (xs[m] = x) = decide (some xs[m] = some x) := by simp
    rw [this]; exact q
theorem erase_idx {j : Nat} (hj : xs[j]? = some x) (hno : ∀ m, m < j → xs[m]? ≠ some x) : xs.eraseIdx j = xs.erase x := by
  induction xs generalizing j with
  | nil => simp at hj
  | cons y r ih =>
    cases j with
    | zero =>
      simp at hj; subst hj
      simp
    | succ j =>
      have hy : y ≠ x := fun e => hno 0 (by omega) (by simp [e])
      rw [List.eraseIdx_cons_succ, List.erase_cons_tail (by simpa using hy), ih (by simpa using hj) fun m hm => by
        have := hno (m + 1) (by omega); simpa using this]
theorem first_idx (h : x ∈ xs) : ∃ j : Nat, j < xs.length ∧ xs[j]? = some x ∧ ∀ m, m < j → xs[m]? ≠ some x := by
  induction xs with
  | nil => cases h
  | cons y r ih =>
    by_cases hy : y = x
    · exact ⟨0, by simp, by simp [hy], fun m hm => absurd hm (by omega)⟩
    · rcases List.mem_cons.mp h with e | h
      · exact absurd e.symm hy
      · obtain ⟨j, h1, h2, h3⟩ := ih h
        refine ⟨j + 1, by simpa using h1, by simpa using h2, fun m hm => ?_⟩
        cases m with
        | zero => simpa using hy
        | succ m => have := h3 m (by omega); simpa using this
theorem all_erase {ds : List PyData} {vs : List Value} {g : Heap} (h : all ds vs g) (j : Nat) : all (ds.eraseIdx j) (vs.eraseIdx j) g := by
  induction vs generalizing ds j with
  | nil => obtain ⟨as, r⟩ := h; cases r; exact .nil
  | cons v vs ih =>
    cases ds with
    | nil => obtain ⟨as, r⟩ := h; cases r
    | cons d ds =>
      obtain ⟨h1, h2⟩ := h.uncons
      cases j with
      | zero => exact h2
      | succ j => exact .cons h1 (ih h2 j)
theorem map_eraseIdx {β : Type} (g : α → β) : ∀ (l : List α) (j : Nat), (l.eraseIdx j).map g = (l.map g).eraseIdx j
  | [], _ => rfl
  | _ :: _, 0 => rfl
  | a :: l, j + 1 => by rw [List.map_cons, List.eraseIdx_cons_succ, List.eraseIdx_cons_succ, List.map_cons, map_eraseIdx g l j]

/-- xs.remove(e), where it is there -/
theorem own_remove (e : Emb f ok n) (hn : n ≤ 60) (hu : A.units ≤ 5000) (hx : ok x) (hxs : ∀ a ∈ xs, ok a) (hm : x ∈ xs) (hsz : xs.length ≤ sizeLine) (I : St A F B h₀ S₁ env ((D, owl (xs.map f)) :: own) ρ s₀ s) {v : Value} (pv : (dat (f x)) v (fz (SS env ((D, owl (xs.map f)) :: own) S₁) s.heap))
    {Q : Value → Shared → Prop} {E : Value → Shared → Prop} (k : ∀ s', St A F B h₀ S₁ env ((D, owl ((xs.erase x).map f)) :: own) ρ s₀ s' → Q .none s') : wpAny (model prog w) A (call (.builtin "list.remove") [.ref D, v] []) Q E s := by
  obtain ⟨o, ho, vs, m, rfl, hall⟩ := I.head
  obtain ⟨j, j1, j2, j3⟩ := first_idx hm
  have hlen := hall.length
  rw [List.length_map, Array.length_toList] at hlen
  have hD : D ∈ SS env ((D, owl (xs.map f)) :: own) S₁ := List.mem_append_left _ (.tail _ (List.mem_append_right _ (.head _)))
  refine call_meets PySem.F.slot_list_remove (T := "list") ⟨_, ho, rfl⟩ PySem.F.entry_list_remove (PySem.F.args_list_remove_2 _ _) (rem_some D vs m v (fun i => decide (xs[i]? = some x)) j (by omega) (by simpa using j2) (fun i hi => by simpa using j3 i hi) (by omega)) ⟨hu, ho, eqAt_own e hn hx hxs fz_stays hall pv, ?_⟩
  have hne : (vs.eraseIdxIfInBounds j).size ≠ vs.size := by
    unfold Array.eraseIdxIfInBounds
    rw [dif_pos (by omega), Array.size_eraseIdx]; omega
  have hd' : (Obj.mapSeq (fun xs => xs.eraseIdxIfInBounds j) { cls := .type "list", data := .seq vs m } : Obj) = { cls := .type "list", data := .seq (vs.eraseIdxIfInBounds j) (m + 1) } := by simp [Obj.mapSeq, hne]
  have hg := Heap.get?_update_self (Obj.mapSeq fun xs => xs.eraseIdxIfInBounds j) ho (by rw [hd']; rfl)
  rw [hd'] at hg
  have kk : ∀ b o, b ≠ D → s.heap.get? b = some o → (s.heap.update D (Obj.mapSeq fun xs => xs.eraseIdxIfInBounds j)).get? b = some o := fun b o nb e => (Heap.get?_update_other _ _ (Ne.symm nb)).trans e
  refine k _ (I.owned (tk := s.toks) (ow' := owl ((xs.erase x).map f)) kk ⟨_, hg, _, _, rfl, ?_⟩)
  have st : (fz (SS env ((D, owl (xs.map f)) :: own) S₁) s.heap).StaysIn (fz (SS env ((D, owl (xs.map f)) :: own) S₁) _) := fz_turned hD kk
  rw [← erase_idx j2 j3, map_eraseIdx]
  have : (vs.eraseIdxIfInBounds j).toList = vs.toList.eraseIdx j := by
    unfold Array.eraseIdxIfInBounds
    rw [dif_pos (by omega)]; simp
  rw [this]
  exact (all_erase hall j).mono st
/-- xs.remove(e), where it is not there -/
theorem own_remove_none (e : Emb f ok n) (hn : n ≤ 60) (hu : A.units ≤ 5000) (hh : A.handled = none) (hx : ok x) (hxs : ∀ a ∈ xs, ok a) (hm : x ∉ xs) (I : St A F B h₀ S₁ env ((D, owl (xs.map f)) :: own) ρ s₀ s) {v : Value} (pv : (dat (f x)) v (fz (SS env ((D, owl (xs.map f)) :: own) S₁) s.heap))
    {Q : Value → Shared → Prop} {E : Value → Shared → Prop} (k : ∀ h' tk e, Heap.NewExc s.heap h' e "ValueError" → E (.ref e) { s with heap := h', toks := tk }) : wpAny (model prog w) A (call (.builtin "list.remove") [.ref D, v] []) Q E s := by
  obtain ⟨o, ho, vs, m, rfl, hall⟩ := I.head
  refine call_meets PySem.F.slot_list_remove (T := "list") ⟨_, ho, rfl⟩ PySem.F.entry_list_remove (PySem.F.args_list_remove_2 _ _) (rem_none D vs m v (fun i => decide (xs[i]? = some x)) fun i hi => ?_) ⟨hu, ho, eqAt_own e hn hx hxs fz_stays hall pv, hh, k⟩
  exact decide_eq_false fun q => hm (List.mem_of_getElem? q)
theorem sp_cmp (W : Wd B ad) {k : Nat} (rm : Rm A (k + 3)) (e : Emb f ok n) (hn : n ≤ 60) (hxs : ∀ a ∈ xs, ok a) (hys : ∀ a ∈ ys, ok a) (hlen : xs.length ≤ 100000) (hlen2 : ys.length ≤ 100000) {v u : Value} (p : (plist (xs.map f)) v (fz S₁ h)) (q : (plist (ys.map f)) u (fz S₁ h)) :
    Do prog w A F B S₁ h (call (.ref (ad 3)) [v, u] []) (pbool (cmp xs ys)).p := by
  refine do_fn (P := pbool (cmp xs ys)) rm (W.f 3) W.lim ["first_args", "second_args"] (Ps := [plist (xs.map f), plist (ys.map f)]) ⟨p, q, trivial⟩ ?_ ?_
  · intros; exact BindsTo.of_eq rfl _ _ _ _ (by assumption)
  intro name qual kV doc pm ct cd an L s₁ sb h₀ F' A' env Q' E' henv hA hF hrm hl hfS hal I fin
  have en := I.en
  have R := hrm _ rm
  have hframes : ∃ outer, A'.frames = some (env :: outer) := by
    obtain ⟨outer, e1, e2, e3⟩ := I.ok.fr
    rw [hA] at e1 ⊢
    cases hAf : A.frames with
    | none =>
      have : (A.deeper env).frames = none := by show A.frames.map _ = none; rw [hAf]; rfl
      rw [this] at e1; cases e1
    | some o => exact ⟨o, Around.frames_deeper hAf⟩
  obtain ⟨outer, hfr⟩ := hframes
  have hff : env.frame = some env.locals := by rw [henv]; rfl
  subst henv
  conv in fb 3 => whnf
  have hsz : sizeLine = 16777216 := rfl
  have hu : A'.units ≤ 5000 := by have := R.un; omega
  have ha := dedup_len xs
  have hb := dedup_len ys
  refine x_assign (plist ((dedup xs).map f)) I (ev_call1 (ev_g en W.n2) (W.f 2).kp (ev_v I rfl) fun u h' l o q => sp_dedup W (R.le (by omega) : Rm A' (0 + 1)) e hn hxs hlen q) (.inl rfl) fun s2 I2 => ?_
  refine x_assign (plist ((dedup ys).map f)) I2 (ev_call1 (ev_g en W.n2) (W.f 2).kp (ev_v I2 rfl) fun u h' l o q => sp_dedup W (R.le (by omega) : Rm A' (0 + 1)) e hn hys hlen2 q) (.inl rfl) fun s3 I3 => ?_
  refine x_own (ow := owl ((dedup ys).map f)) I3 (nw_call1 (ev_g en W.t_list) kp_type (ev_v I3 rfl) fun v h' l o q => nw_copy W.lim q (by rw [List.length_map]; omega)) (.inl rfl) fun D s4 _ I4 => ?_
  refine x_try ?_
  refine x_for I4 (itr_list (x := "elem") R.hh (ev_v I4 (x := "first_unhashable") rfl)) (fun i => [(D, owl (((rems (dedup ys) ((dedup xs).take i)).getD []).map f))]) (fun i => [("t", isv (.ref D)), ("first_unhashable", plist ((dedup xs).map f))]) (fun i => [("elem", dat (((dedup xs).map f)[i]?.getD .none))]) (fun i => rems (dedup ys) ((dedup xs).take i) ≠ none)
    (fun i => rfl) rfl ⟨rfl, rfl, trivial⟩ (by simp [rems]) (fun i v s1 sb hb S₁ Q' E' hi J hv k => asgSt_one (.inl rfl) J hv k) ?_ fun s5 I5 hK => ?_
  · intro i s5 sb5 hb5 S₂ Q2 hi hK hS I5 next esc out
    have hi' : i < (dedup xs).length := by simpa using hi
    have ea : (dedup xs)[i]? = some (dedup xs)[i] := List.getElem?_eq_getElem hi'
    have ea' : ((dedup xs).map f)[i]?.getD .none = f (dedup xs)[i] := by rw [List.getElem?_map, ea]; rfl
    rw [ea'] at I5
    obtain ⟨t, ht⟩ := Option.ne_none_iff_exists'.mp hK
    have hokx : ok (dedup xs)[i] := hxs _ (dedup_sub (List.getElem_mem hi'))
    obtain ⟨hl1, hl2⟩ := rems_len ht
    have hokt : ∀ a ∈ t, ok a := fun a m => hys a (dedup_sub (hl2 a m))
    simp only [ht, Option.getD_some] at I5
    refine x_meth1 (id := "list.remove") I5 rfl (ev_v I5 rfl) (fun s' vs Q' E' ⟨n, e⟩ q => gm_remove e rfl rfl q) fun v s6 I6 q6 => ?_
    by_cases hm : (dedup xs)[i] ∈ t
    · refine own_remove e hn hu hokx hokt hm (by omega) I6 q6 fun s7 I7 => x_nil ?_
      have e1 := rems_take ea ht
      rw [if_pos hm] at e1
      refine (next s7 ?_ (by rw [e1]; simp)).1
      simp only [e1, Option.getD_some]
      exact I7.sub ⟨rfl, rfl, trivial⟩
    · refine own_remove_none e hn hu R.hh hokx hokt hm I6 q6 fun h7 tk7 e7 hx7 => ?_
      have I8 := esc [(D, owl (t.map f))] _ _ rfl I6
      refine caught I8 hfr hff hx7 (T := "ValueError") rfl rfl rfl W.t_ValueError rfl (by decide) fun s8 E8 I9 => ?_
      refine x_return (pbool false) I9 ev_true fun v s' I' q => ?_
      refine fin _ _ _ s' I'.unmark ?_
      have e1 := rems_take ea ht
      rw [if_neg hm] at e1
      have : cmp xs ys = false := by unfold cmp; rw [rems_fail e1]; rfl
      rw [this]; exact ret_sub q
  · refine x_nil ?_
    have e0 : (dedup xs).take ((dedup xs).map f).length = dedup xs := by rw [List.length_map, List.take_length]
    simp only [List.length_map, List.take_length] at I5 hK
    obtain ⟨t, ht⟩ := Option.ne_none_iff_exists'.mp hK
    simp only [ht, Option.getD_some] at I5
    obtain ⟨hl1, hl2⟩ := rems_len ht
    refine x_return (pbool (cmp xs ys)) I5 (ev_not (P1 := isv (.ref D)) (ev_v I5 rfl) fun a h' l o q => ?_) fun v s' I' q => fin _ _ _ s' I' (ret_sub q)
    obtain rfl : a = _ := q
    refine (z_not (t_own I5 l (by rw [List.length_map]; omega))).mono fun v g q => ?_
    have : cmp xs ys = !decide (t.map f ≠ []) := by
      unfold cmp; rw [ht]
      cases t <;> simp
    rw [this]; exact q
end
end
end Mine

/-! ### Fn6 -/
namespace Mine
open PySem PySem.W PySem.Calls PyProof.Rows PySem.SeqAt

section
variable {prog : Program} {w : World} {A : Around} {F : List Addr} {B : Heap} {S₁ : List Addr} {h h₀ : Heap} {env : Env} {ad : Nat → Addr} {own : List (Addr × Ow)} {ρ : List (Str × Pd)} {s₀ s : Shared} {D : Addr} {ds : List PyData}

theorem bind_star {fd : FuncData} {v : Value} {vs : List Value} {x : Str} {y : PySem.Arg} (h1 : fd.params.posonlyargs = []) (h2 : fd.params.args.map (·.arg) = [x]) (h3 : fd.params.vararg = some y) (h4 : fd.params.kwonlyargs = []) (h5 : fd.params.kwarg = none) (h6 : fd.defaults = .none) :
    bindArgs fd ⟨v :: vs, []⟩ = (do let t ← newTuple vs; pure [(x, v), (y.arg, t)]) := by
  unfold bindArgs
  have e : seqItems? Value.none = pure none := rfl
  simp only [h1, h2, h3, h4, h5, h6, e, pure_bind, bind_pure, List.map_nil, List.nil_append, List.append_nil]
  simp [List.lookup]
theorem bind_join {M : Model} {A : Around} {E : Value → Shared → Prop} {s : Shared} {name qual : Str} {kV doc pm ct cd : Value} {an : Option Addr} {v : Value} {vs : List Value} {Q : List (Str × Value) → Shared → Prop}
    (hsz : vs.length ≤ sizeLine) (k : Q [("a", v), ("p", .ref s.heap.objs.size)] { s with heap := s.heap.push { cls := .type "tuple", data := .seq vs.toArray } }) :
    wpAny M A (bindArgs (fdOf 24 name qual .none kV doc pm ct cd an) ⟨v :: vs, []⟩) Q E s := by
  obtain ⟨y, hy, hyp⟩ : ∃ y, (fp 24).vararg = some y ∧ y.arg = ("p" : Str) := ⟨_, rfl, rfl⟩
  rw [bind_star (x := "a") (y := y) rfl rfl hy rfl rfl rfl, hyp]
  exact wpAny_bind (wpAny_newTuple (wpAny_pure k) hsz)
theorem z_iadd {x y : List Nat} {a b : Value} {g : Heap} (pa : (pstr (S x)) a g) (pb : (pstr (S y)) b g) (hsz : x.length + y.length ≤ sizeLine) : Do prog w A F B S₁ h (inplaceOp .Add a b) (pstr (S (x ++ y))).p := fun s Q E o lh k => by
  obtain ⟨t, rfl⟩ := dat_str pa; obtain ⟨u, rfl⟩ := dat_str pb
  exact SB.iadd (fun t' n => k _ _ (Go.toks _) (by rw [S_app]; exact ⟨_, .str _ _⟩)) (by rw [S_len, S_len]; exact hsz)
theorem way_rev_take {l : List Nat} {i : Nat} {c : Nat} (e : l[i]? = some c) : wayOf (l.take (i + 1)).reverse = (if l.take i = [] then [47, 46, c] else wayOf (l.take i).reverse ++ [47, 46, c]) := by
  rw [List.take_add_one, e, List.reverse_append]
  show wayOf (c :: (l.take i).reverse) = _
  by_cases h : l.take i = []
  · rw [if_pos h, h]; rfl
  · rw [if_neg h]
    cases hr : (l.take i).reverse with
    | nil => exact absurd (List.reverse_eq_nil_iff.mp hr) h
    | cons d y => exact way_cons c d y

theorem sp_join (W : Wd B ad) {n : Nat} (rm : Rm A (n + 3)) {l : List Nat} (hl : ∀ c ∈ l, c ≠ 47 ∧ c ≠ 46 ∧ c < 128) (hlen : l.length ≤ 1000) {v : Value} {vs : List Value} (p : (pstr (S [47])) v (fz S₁ h)) (q : all (txs (l.map fun c => [46, c])) vs (fz S₁ h)) :
    Do prog w A F B S₁ h (call (.ref (ad 24)) (v :: vs) []) (pstr (S (wayOf l.reverse))).p := by
  have hlv := q.length
  rw [List.length_map, List.length_map] at hlv
  have hsz : sizeLine = 16777216 := rfl
  refine do_call (args := ⟨v :: vs, []⟩) (P := pstr (S (wayOf l.reverse))) (PB := fun binds g => ∃ t, binds = [(Str.ofString "a", v), (Str.ofString "p", t)] ∧ (pstr (S [47])) v g ∧ (ptup (txs (l.map fun c => [46, c]))) t g) rm (W.f 24) W.lim ?_ [("a", pstr (S [47])), ("p", ptup (txs (l.map fun c => [46, c])))] ?_ ?_ ?_
  · rintro fd name qual kV doc pm ct cd an rfl s Q E o lh k
    have st : (fz S₁ h).StaysIn (fz S₁ s.heap) := fz_le lh o.fs fun _ m => .inl m
    refine bind_join (by omega) (k _ _ ⟨_, s.toks, rfl, .push _⟩ ⟨_, rfl, ?_, ?_⟩)
    · exact (pstr _).mono (fun b ob e => fz_le (Le.push (F := F) (B := B) _) o.fs (fun _ m => .inl m) b ob (st b ob e)) p
    · refine ptup_in (fz_get (Heap.get?_push_size _ rfl) o.size) rfl rfl ?_
      simpa using q.mono fun b ob e => fz_le (Le.push (F := F) (B := B) _) o.fs (fun _ m => .inl m) b ob (st b ob e)
  · rintro m binds g ⟨t, rfl, _⟩ x hx
    simp only [List.mem_cons, List.not_mem_nil, or_false] at hx
    rcases hx with rfl | rfl
    · exact .inl rfl
    · exact .inl rfl
  · rintro name qual kV doc pm ct cd an L binds g ⟨t, rfl, p1, p2⟩ x P e
    have hnd : ((["a", "p"] : List Str).zip [v, t]).map (·.1) = [("a" : Str), "p"] := rfl
    by_cases hx : x = "a"
    · subst hx; cases e
      exact ⟨v, p1, .inl ⟨rfl, bindL_get rfl (by show ([Str.ofString "a", Str.ofString "p"] : List Str).Nodup; decide +kernel) (.head _)⟩⟩
    · by_cases hx2 : x = "p"
      · subst hx2; cases e
        exact ⟨t, p2, .inl ⟨rfl, bindL_get rfl (by show ([Str.ofString "a", Str.ofString "p"] : List Str).Nodup; decide +kernel) (.tail _ (.head _))⟩⟩
      · rw [List.lookup_cons, beq_eq_false_iff_ne.mpr hx, List.lookup_cons, beq_eq_false_iff_ne.mpr hx2] at e
        cases e
  intro name qual kV doc pm ct cd an L s₁ sb h₀ F' A' env Q' E' henv hA hF hrm hle hfS hal I fin
  have en := I.en
  have R := hrm _ rm
  subst henv
  conv in fb 24 => whnf
  refine x_assign (pstr (S [47])) I (ev_call1 (ev_g en W.n19) (W.f 19).kp (ev_v I rfl) fun u h' l o q => sp_fspath W (R.le (by omega)) q) (.inl rfl) fun s2 I2 => ?_
  refine x_assign (pstr (S [47])) I2 (ev_call1 (ev_g en W.n23) (W.f 23).kp (ev_v I2 rfl) fun u h' l o q => sp_get_sep W R q) (.inl rfl) fun s3 I3 => ?_
  refine x_assign (pstr (S [47])) I3 (ev_v I3 rfl) (.inl rfl) fun s4 I4 => ?_
  refine wpAny_execs_cons (wpAny_Try_except ?_)
  refine x_for I4 (itr_tuple (x := "b") R.hh (ev_v I4 (x := "p") rfl)) (fun i => []) (fun i => [("path", pstr (S (wayOf (l.take i).reverse))), ("sep", pstr (S [47])), ("p", ptup (txs (l.map fun c => [46, c])))]) (fun i => [("b", dat ((txs (l.map fun c => [46, c]))[i]?.getD .none))]) (fun _ => True)
    (fun i => rfl) rfl ⟨rfl, rfl, rfl, trivial⟩ trivial (fun i v s1 sb hb S₁ Q' E' hi J hv k => asgSt_one (.inl rfl) J hv k) ?_ fun s5 I5 _ => ?_
  · intro i s5 sb5 hb5 S₂ Q2 hi _ hS I5 next esc out
    have hi' : i < l.length := by simpa using hi
    have ea : l[i]? = some l[i] := List.getElem?_eq_getElem hi'
    have ea' : (txs (l.map fun c => [46, c]))[i]?.getD .none = .str (S [46, l[i]]) := by rw [List.getElem?_map, List.getElem?_map, ea]; rfl
    rw [ea'] at I5
    have hc := hl l[i] (List.getElem_mem hi')
    have hw := way_len (l.take i).reverse
    rw [List.length_reverse, List.length_take] at hw
    refine x_assign (pstr (S [46, l[i]])) I5 (ev_call1 (ev_g en W.n19) (W.f 19).kp (ev_v I5 rfl) fun u h' l o q => sp_fspath W (R.le (by omega)) q) (.inl rfl) fun s6 I6 => ?_
    have wne : wayOf (l.take i).reverse ≠ [] := by
      cases hr : (l.take i).reverse with
      | nil => simp [wayOf]
      | cons d y =>
        have : 46 ∈ wayOf (d :: y) := List.mem_flatMap.mpr ⟨d, by simp, by simp [bit]⟩
        exact List.ne_nil_of_mem this
    refine x_if false I6 (tr_bool (tr_or (b := false) (c := false) (tr_plain (P := pbool false) (ev_starts (l := [46, l[i]]) (m := [47]) (ev_v I6 rfl) (ev_v I6 rfl)) fun a h' l o q => t_bool q) fun _ h1 l1 o1 => tr_or (b := false) (c := false) ?_ fun _ h2 l2 o2 => tr_nil rfl)) fun s7 I7 => ?_
    · exact tr_not (b := true) (tr_plain (P := pstr (S (wayOf (l.take i).reverse))) ((ev_v I6 rfl).up l1) fun a h' l o q => (t_str q (by omega)).mono fun c g e => by rw [e]; simpa using wne)
    rw [if_neg (by decide)]
    refine x_if (decide (l.take i = [])) I7 (tr_plain (P := pbool (decide (l.take i = []))) (Do.mono (ev_ends (l := wayOf (l.take i).reverse) (m := [47]) (ev_v I7 rfl) (ev_v I7 rfl)) fun v g q => ?_) fun a h' l o q => t_bool q) fun s8 I8 => ?_
    · have : decide (([47] : List Nat).length ≤ (wayOf (l.take i).reverse).length ∧ (wayOf (l.take i).reverse).drop ((wayOf (l.take i).reverse).length - ([47] : List Nat).length) = [47]) = decide (l.take i = []) := by
        cases hr : (l.take i).reverse with
        | nil => rw [List.reverse_eq_nil_iff.mp hr]; rfl
        | cons d y =>
          have hne : l.take i ≠ [] := fun e => by rw [e] at hr; cases hr
          rw [decide_eq_false hne]
          refine decide_eq_false fun ⟨_, h2⟩ => ?_
          have hd : d ∈ l := List.mem_of_mem_take (List.mem_reverse.mp (by rw [hr]; exact .head _))
          obtain ⟨z, hz⟩ : ∃ z, wayOf (d :: y) = z ++ [d] := by
            cases y with
            | nil => exact ⟨[47, 46], rfl⟩
            | cons e y => exact ⟨wayOf (e :: y) ++ [47, 46], by rw [way_cons]; simp⟩
          rw [hz] at h2
          simp at h2
          exact (hl d hd).1 h2
      rw [this] at q; exact q
    by_cases h0 : l.take i = []
    · rw [if_pos (by simpa using h0)]
      refine x_aug (pstr (S (wayOf (l.take i).reverse ++ [46, l[i]]))) I8 rfl (ev_v I8 rfl) (fun a b h' l o q1 q2 => z_iadd q1 q2 (by simp; omega)) (.inl rfl) fun s9 I9 => ?_
      refine x_nil (x_nil (x_nil (next s9 ?_ trivial).1))
      have e9 := way_rev_take ea
      rw [if_pos h0] at e9
      have e10 : wayOf (l.take i).reverse ++ [46, l[i]] = wayOf (l.take (i + 1)).reverse := by rw [e9, h0]; rfl
      rw [e10] at I9
      exact I9.sub ⟨rfl, rfl, rfl, trivial⟩
    · rw [if_neg (by simpa using h0)]
      refine x_aug (pstr (S (wayOf (l.take i).reverse ++ ([47] ++ [46, l[i]])))) I8 rfl (ev_bin (P1 := pstr (S [47])) (P2 := pstr (S [46, l[i]])) (P := pstr (S ([47] ++ [46, l[i]]))) (ev_v I8 rfl) (ev_v I8 rfl) fun a b h' l o q1 q2 => z_cat q1 q2 (by simp; omega)) (fun a b h' l o q1 q2 => z_iadd q1 q2 (by simp; omega)) (.inl rfl) fun s9 I9 => ?_
      refine x_nil (x_nil (x_nil (next s9 ?_ trivial).1))
      have e9 := way_rev_take ea
      rw [if_neg h0] at e9
      have e10 : wayOf (l.take i).reverse ++ ([47] ++ [46, l[i]]) = wayOf (l.take (i + 1)).reverse := by rw [e9]; rfl
      rw [e10] at I9
      exact I9.sub ⟨rfl, rfl, rfl, trivial⟩
  · simp only [List.length_map, List.take_length] at I5
    refine x_nil (x_nil ?_)
    refine x_return (pstr (S (wayOf l.reverse))) I5 (ev_v I5 rfl) fun v s' I' q => fin _ _ _ s' I' (ret_sub q)
end
end Mine

/-! ### Fa6 -/
namespace Mine
open PySem PySem.W PySem.Calls PyProof.Rows PySem.SeqAt

theorem bitAnd_nat (x y : Nat) : Builtin.bitAnd (x : Int) (y : Int) = ((x &&& y : Nat) : Int) := by
  unfold Builtin.bitAnd
  have h1 : decide ((0 : Int) ≤ (x : Int)) = true := decide_eq_true (by omega)
  have h2 : decide ((0 : Int) ≤ (y : Int)) = true := decide_eq_true (by omega)
  rw [h1, h2]; simp
theorem bitAnd_mask (x k : Nat) : Builtin.bitAnd (x : Int) ((2 ^ k - 1 : Nat) : Int) = ((x % 2 ^ k : Nat) : Int) := by
  rw [bitAnd_nat, Nat.and_two_pow_sub_one_eq_mod]
theorem bitOr_nat (x y : Nat) : Builtin.bitOr (x : Int) (y : Int) = ((x ||| y : Nat) : Int) := by
  unfold Builtin.bitOr Builtin.bitAnd Builtin.bitNot
  have h1 : decide ((0 : Int) ≤ -(x : Int) - 1) = false := decide_eq_false (by omega)
  have h2 : decide ((0 : Int) ≤ -(y : Int) - 1) = false := decide_eq_false (by omega)
  rw [h1, h2]
  dsimp only
  have e1 : (-(-(x : Int) - 1) - 1).toNat = x := by omega
  have e2 : (-(-(y : Int) - 1) - 1).toNat = y := by omega
  rw [e1, e2]; omega
theorem bitOr_shift (x b : Nat) (hb : b < 256) : Builtin.bitOr ((x * 256 : Nat) : Int) (b : Int) = ((x * 256 + b : Nat) : Int) := by
  rw [bitOr_nat]
  have := Nat.two_pow_add_eq_or_of_lt (i := 8) (b := b) (by simpa using hb) x
  have e : 2 ^ 8 * x = x * 256 := by omega
  rw [e] at this
  rw [this]
theorem bits_small {x : Nat} (h : x < 2 ^ 60) : (Builtin.Int.intBits (x : Int) : Int) ≤ 61 := by
  unfold Builtin.Int.intBits
  split
  · omega
  · rename_i h0
    have hx : x ≠ 0 := by intro e; subst e; simp at h0
    have := (Nat.log2_lt hx).mpr h
    simp; omega
theorem shr_nat (x n : Nat) : (x : Int).fdiv (2 ^ n) = ((x / 2 ^ n : Nat) : Int) := by
  have : ((2 : Int) ^ n) = ((2 ^ n : Nat) : Int) := by push_cast; rfl
  rw [this, Int.fdiv_eq_ediv_of_nonneg _ (Int.natCast_nonneg _)]
  rfl
theorem low_bits (M : Nat) {b : Nat} (hb : b ≤ 8) : M % 65536 / 2 ^ b % 64 = M / 2 ^ b % 64 := by
  have e : (65536 : Nat) = 2 ^ b * 2 ^ (16 - b) := by rw [← Nat.pow_add, show b + (16 - b) = 16 from by omega]
  rw [e, Nat.mod_mul_right_div_self]
  exact Nat.mod_mod_of_dvd _ (Nat.pow_dvd_pow 2 (show 6 ≤ 16 - b from by omega))
end Mine

/-! ### Fa7 -/
namespace Mine
open PySem PySem.W PySem.Calls PyProof.Rows PySem.SeqAt PySem.Builtin

section
variable {prog : Program} {w : World} {A : Around} {E : Value → Shared → Prop} {s : Shared}
theorem in_nil {h : Heap} : Frag.In [] h := fun _ _ e => by cases e
theorem gm_maketrans {pl : Sem Bool} {Q : Value × List Value → Shared → Prop} (h : Q (.builtin "bytes.maketrans", []) { s with toks := s.toks + 1 }) : wpAny (model prog w) A (getMethod (.type "bytes") (Str.ofString "maketrans") pl) Q E s := by
  have ht : typeOf (.type "bytes") = pure (.type "type") := by first | rfl | kernel_rfl
  have hs : Manifest.isStub "bytes" = false := by decide +kernel
  have e : findCls [] (.type "bytes") (.type "type") (Str.ofString "maketrans") = some (.val (.builtin "bytes.maketrans")) := by first | kernel_rfl | rfl
  have hh : handedIn (.builtin "bytes.maketrans") = true := by decide +kernel
  have hstub : opaqueClassAbove (.type "bytes") = pure none := by unfold opaqueClassAbove; dsimp only; rw [hs]; rfl
  have L0 : Looks (model prog w) s.heap (typeOf (.type "bytes")) (.type "type") := Looks.of_pure ht
  have hg : findIn [] (.type "type") "__getattribute__" = some (some (.builtin "type.__getattribute__")) := type_tga
  unfold getMethod specialOf
  refine wpAny_bind (wpAny_bind (L0.here ((looks_findIn (K := []) in_nil hg).here ?_)))
  dsimp only
  rw [if_pos canon_tga]
  refine wpAny_bind (wpAny_mono (Q := fun v => Q (v, [])) (E := E) ?_ (fun _ _ z => wpAny_pure z) fun _ _ z => z)
  have LO : Looks (model prog w) s.heap (opaqueClassAbove (.type "bytes")) none := Looks.of_pure hstub
  refine cls_open (K := []) in_nil LO L0 hg (looks_hook (K := []) in_nil (r := none) (by rfl)) (by show subIn [] _ _ = _; rfl) e
    (wpAny_pure (by show wpAny _ _ (handedOut _) _ _ _; rw [handedOut_of hh]; exact wpAny_pure h))
theorem plain_mk : plainId "bytes.maketrans" = true := by decide +kernel
theorem entry_mk : entryFor table "bytes.maketrans" = some Builtin.«bytes.maketrans» := entryFor_of_tree (by kernel_rfl)
theorem check_mk (a b : Value) : checkBuiltinCall "bytes.maketrans" ⟨[a, b], []⟩ = pure () := by kernel_rfl
def trans (f x : List UInt8) : Array UInt8 := (f.zip x).foldl (fun t p => t.setIfInBounds p.1.toNat p.2) ((Array.range 256).map (·.toUInt8))
theorem trans_size (f x : List UInt8) : (trans f x).size = 256 := by
  unfold trans
  have : ∀ (l : List (UInt8 × UInt8)) (t : Array UInt8), (l.foldl (fun t p => t.setIfInBounds p.1.toNat p.2) t).size = t.size := by
    intro l
    induction l with
    | nil => intro t; rfl
    | cons p l ih => intro t; rw [List.foldl_cons, ih]; simp
  rw [this]; simp
theorem call_mk {f x : Array UInt8} {t u : Tok} {Q : Value → Shared → Prop} (hsz : f.size = x.size) (k : ∀ t' n, Q (.bytes (trans f.toList x.toList) t') { s with toks := n }) :
    wpAny (model prog w) A (call (.builtin "bytes.maketrans") [.bytes f t, .bytes x u] []) Q E s := by
  refine wpAny_call (codeAny_call_builtin plain_mk entry_mk ?_)
  rw [check_mk]
  refine wpAny_pure ?_
  show wpAny _ _ (Bytes.maketransM .bytes _) _ _ _
  unfold Bytes.maketransM
  dsimp only
  refine wpAny_bind (wpAny_pure ?_)
  refine wpAny_bind (wpAny_pure ?_)
  refine wpAny_bind ?_
  unfold Bytes.bytesLike
  refine wpAny_bind (wpAny_of_eq KBy.buffer_eq (wpAny_pure ?_))
  refine wpAny_bind ?_
  refine wpAny_bind (wpAny_of_eq KBy.buffer_eq (wpAny_pure ?_))
  rw [if_neg (by simp [hsz])]
  refine wpAny_bind (wpAny_mkBytes ?_ ?_)
  · exact wpAny_pure (k _ _)
  · show (trans f.toList x.toList).size ≤ sizeLine
    rw [trans_size]; decide
theorem slot_tr : Slot "bytes" "translate" "bytes.translate" :=
  .of (owner := "bytes") (n := "translate") (by rw [typeLookup_type, builtinLookup_eq_fast]; kernel_rfl) (by decide +kernel) (by decide +kernel) (by decide +kernel)
    (by first | exact .inl (by decide +kernel) | exact .inr (by decide +kernel)) (by rw [isSubtype_type]; kernel_rfl)
theorem entry_tr : entryFor table "bytes.translate" = some Builtin.«bytes.translate» := entryFor_of_tree (by kernel_rfl)
theorem args_tr (a b : Value) : argsOk "bytes.translate" ⟨[a, b], []⟩ := by unfold argsOk; kernel_rfl
theorem type_tr : typeOf (.builtin "bytes.translate") = pure (.type "method_descriptor") := by show builtinType _ = _; rw [builtinType_eq_fast]; kernel_rfl
theorem call_tr {b f : Array UInt8} {t u : Tok} {Q : Value → Shared → Prop} (hf : f.size = 256) (hb : b.size ≤ 1000000) (k : ∀ t' n, Q (.bytes (b.map fun c => f.getD c.toNat c) t') { s with toks := n }) :
    wpAny (model prog w) A (call (.builtin "bytes.translate") [.bytes b t, .bytes f u] []) Q E s := by
  refine wpAny_call_entry slot_tr (PySem.W.typeIs_bytes _ _ _) entry_tr ?_ (args_tr _ _)
  show wpAny _ _ (Bytes.translateM .bytes _) _ _ _
  unfold Bytes.translateM
  dsimp only
  rw [if_neg (by simp), if_neg (by decide), if_neg (by simp)]
  refine wpAny_bind ?_
  unfold Bytes.bytesLike
  refine wpAny_bind (wpAny_of_eq KBy.buffer_eq (wpAny_pure ?_))
  rw [if_neg (by simp [hf])]
  refine wpAny_bind (wpAny_pure ?_)
  dsimp only [List.head?, Option.map]
  have eo : ((none : Option Value) <|> none) = none := rfl
  rw [eo]
  dsimp only
  refine wpAny_bind (wpAny_pure ?_)
  refine wpAny_bind (wpAny_of_eq (a := b) rfl ?_)
  have e : (b.filter (fun x => !(#[] : Array UInt8).contains x)) = b := by simp
  rw [e]
  by_cases hq : ((b.map fun c => f.getD c.toNat c) == b) = true
  · rw [if_pos hq]
    refine wpAny_bind (wpAny_rule ?_)
    refine wpAny_bind (wpAny_of_eq (a := Value.bytes b t) rfl (wpAny_pure ?_))
    have := k t s.toks
    rw [eq_of_beq hq] at this
    exact ⟨_, rfl, this⟩
  · rw [if_neg hq]
    refine wpAny_bind (wpAny_mkBytes (wpAny_pure ⟨_, rfl, k _ _⟩) ?_)
    rw [Array.size_map]
    have : sizeLine = 16777216 := rfl
    omega
theorem noRef_b {b : Array UInt8} {t : Tok} : ∀ a, Value.bytes b t = .ref a → ∃ o, s.heap.get? a = some o ∧ o.dict = none := fun _ e => nomatch e
theorem gm_of {M : Model} {pl : Sem Bool} {Q : Value × List Value → Shared → Prop} {name : PySem.Str} {id : String} (v : Value) (hT : s.TypeIs v "bytes") (slot : Slot "bytes" name id) (ty : typeOf (.builtin id) = pure (.type "method_descriptor"))
    (hd : ∀ a, v = .ref a → ∃ o, s.heap.get? a = some o ∧ o.dict = none) (h : Q (.builtin id, [v]) s) : wpAny M A (getMethod v name pl) Q E s :=
  getMethod_builtin hT FB.plainAttrs_bytes slot ty hd h
theorem gm_translate {M : Model} {b : Array UInt8} {t : Tok} {pl : Sem Bool} {Q : Value × List Value → Shared → Prop} (h : Q (.builtin "bytes.translate", [.bytes b t]) s) : wpAny M A (getMethod (.bytes b t) (Str.ofString "translate") pl) Q E s := by
  with_reducible exact gm_of (.bytes b t) (PySem.W.typeIs_bytes _ _ _) slot_tr type_tr noRef_b h
end
end Mine

/-! ### Fn7 -/
namespace Mine
open PySem PySem.W PySem.Calls PyProof.Rows PySem.SeqAt

theorem outs_list {α : Type} [Inhabited α] (l : List α) (d : α) (p : α → Bool) (f : α → PyData) : outs (fun i => p (l[i]?.getD d)) (fun i => f (l[i]?.getD d)) l.length = (l.filter p).map f := by
  have h : (List.range l.length).map (fun i => l[i]?.getD d) = l := by
    have := range_get (fun a : α => a) d l
    simpa using this
  unfold outs
  conv => rhs; rw [← h]
  rw [List.filter_map, List.map_map]
  rfl
def nats (l : List Nat) : List PyData := l.map fun n : Nat => PyData.int (n : Int)
theorem nats_get {l : List Nat} {i : Nat} {d : PyData} (h : i < l.length) : (nats l)[i]?.getD d = .int ((l[i]?.getD 0 : Nat) : Int) := by
  unfold nats
  rw [List.getElem?_map, List.getElem?_eq_getElem h]; rfl
theorem txs_get {l : List (List Nat)} {i : Nat} {d : PyData} (h : i < l.length) : (txs l)[i]?.getD d = .str (S (l[i]?.getD [])) := by
  unfold txs
  rw [List.getElem?_map, List.getElem?_eq_getElem h]; rfl

/-- the signs ahead -/
def ahead (wd x : List Nat) (js : List Nat) : List Nat := (js.filter fun j => decide (x.length < j)).map fun j => wd[j - x.length - 1]?.getD 0
def wholeB (wd x : List Nat) (js : List Nat) : Bool := decide (wd.take x.length = x) || decide ((ahead wd x js).filter (fun c => decide (c ≠ (ahead wd x js)[0]?.getD 0)) ≠ [])

section
variable {prog : Program} {w : World} {A : Around} {F : List Addr} {B : Heap} {S₁ : List Addr} {h h₀ : Heap} {env : Env} {ad : Nat → Addr} {own : List (Addr × Ow)} {ρ : List (Str × Pd)} {s₀ s : Shared} {D : Addr} {ds : List PyData}

theorem itr_nats {y : Str} {px : Pos} {t : Sem Value} {l : List Nat} (hh : A.handled = none) (z : Do prog w A F B S₁ h t (plist (nats l)).p) : Itr prog w A F B S₁ h (.Name y px) t l.length (fun i => ione (.int ((l[i]?.getD 0 : Nat) : Int))) :=
  Itr.weaken (itr_list hh z) (by unfold nats; simp) fun i v g h' hi q => by
    have := nats_get (l := l) (i := i) (d := .none) (by unfold nats at hi; simpa using hi)
    rw [← this]; exact q
theorem itr_txs {y : Str} {px : Pos} {t : Sem Value} {l : List (List Nat)} (hh : A.handled = none) (z : Do prog w A F B S₁ h t (plist (txs l)).p) : Itr prog w A F B S₁ h (.Name y px) t l.length (fun i => ione (.str (S (l[i]?.getD [])))) :=
  Itr.weaken (itr_list hh z) (by unfold txs; simp) fun i v g h' hi q => by
    have := txs_get (l := l) (i := i) (d := .none) (by unfold txs at hi; simpa using hi)
    rw [← this]; exact q

theorem sp_whole (W : Wd B ad) {n : Nat} (rm : Rm A (n + 1)) {wd x js : List Nat} (hw : asc wd) (hx : asc x) (hlw : wd.length ≤ 1000) (hlx : x.length ≤ 1000) (hj : ∀ j ∈ js, j ≤ wd.length) (hlj : js.length ≤ 1000) {v u t : Value} (p : (pstr (S wd)) v (fz S₁ h)) (q : (pstr (S x)) u (fz S₁ h)) (r : (plist (nats js)) t (fz S₁ h)) :
    Do prog w A F B S₁ h (call (.ref (ad 32)) [v, u, t] []) (pbool (wholeB wd x js)).p := by
  refine do_fn (P := pbool (wholeB wd x js)) rm (W.f 32) W.lim ["word", "stretch", "ends"] (Ps := [pstr (S wd), pstr (S x), plist (nats js)]) ⟨p, q, r, trivial⟩ ?_ ?_
  · intros; exact BindsTo.of_eq rfl _ _ _ _ (by assumption)
  intro name qual kV doc pm ct cd an L s₁ sb h₀ F' A' env Q' E' henv hA hF hrm hl hfS hal I fin
  have en := I.en
  have R := hrm _ rm
  subst henv
  conv in fb 32 => whnf
  have hsz : sizeLine = 16777216 := rfl
  have hu : A'.units ≤ 6000 := by have := R.un; omega
  have asc1 : ∀ c, asc [c] ↔ c < 128 := fun c => by unfold asc; simp
  have hah : ∀ c ∈ ahead wd x js, c < 128 := fun c hc => by
    obtain ⟨j, hj1, rfl⟩ := List.mem_map.mp hc
    obtain ⟨hj2, hj3⟩ := List.mem_filter.mp hj1
    have := hj j hj2
    have hj4 : x.length < j := by simpa using hj3
    rw [List.getElem?_eq_getElem (by omega)]
    exact hw _ (List.getElem_mem _)
  have hal' : (ahead wd x js).length ≤ 1000 := by
    unfold ahead; rw [List.length_map]; exact Nat.le_trans (List.length_filter_le _ _) hlj
  refine x_assign (plist (txs ((ahead wd x js).map fun c => [c]))) I ?a (.inr ⟨rfl, _, rfl⟩) fun s2 I2 => ?b
  case a =>
    refine ev_listcomp (n := js.length) (item := fun i => ione (.int ((js[i]?.getD 0 : Nat) : Int))) (fun i => vone "j" (.int ((js[i]?.getD 0 : Nat) : Int))) (fun i => decide (x.length < js[i]?.getD 0)) (fun i => .str (S [wd[js[i]?.getD 0 - x.length - 1]?.getD 0])) ?_ ?_ ?_ ?_ (fun i m g g' k q => vone_mono k q) ?_ (by omega)
    · exact itr_nats R.hh (ev_v I rfl)
    · exact fun i hi => asg_one (fun _ => rfl) (fun _ => rfl) (fun _ => rfl)
    · intro i S' h' C hi T
      refine do_tests_one (tr_cmp (P1 := pint ((js[i]?.getD 0 : Nat) : Int)) (P2 := pint (x.length : Int)) (ev_n en.comp T.one) (ev_call1 (ev_g en.comp W.b_len) kp_builtin (ev_n en.comp (T.free (I.var (x := "stretch") rfl))) fun u h' l o q => z_len_str q (by omega)) fun a c h' l o q1 q2 => ?_)
      have := z_gt (prog := prog) (w := w) (A := A') (F := F') (B := B) (S₁ := S') (h := h') q1 q2
      have e : decide (((js[i]?.getD 0 : Nat) : Int) > (x.length : Int)) = decide (x.length < js[i]?.getD 0) := by
        by_cases h : x.length < js[i]?.getD 0 <;> simp [h] <;> omega
      rw [e] at this; exact this
    · intro i S' h' C hi hk T
      have hk' : x.length < js[i]?.getD 0 := by simpa using hk
      have hjm : js[i]?.getD 0 ≤ wd.length := by
        rw [List.getElem?_eq_getElem hi]; exact hj _ (List.getElem_mem hi)
      refine ev_substr (l := wd) (P2 := pint ((js[i]?.getD 0 - x.length - 1 : Nat) : Int)) (ev_n en.comp (T.free (I.var (x := "word") rfl))) ?_ fun a i h' l o q1 q2 => z_get_str q1 q2 ?_ (by omega)
      · refine ev_bin (P1 := pint (((js[i]?.getD 0 : Nat) : Int) - (x.length : Int))) (P2 := pint 1) (ev_bin (P1 := pint ((js[i]?.getD 0 : Nat) : Int)) (P2 := pint (x.length : Int)) (ev_n en.comp T.one) (ev_call1 (ev_g en.comp W.b_len) kp_builtin (ev_n en.comp (T.free (I.var (x := "stretch") rfl))) fun u h' l o q => z_len_str q (by omega)) fun a b h' l o q1 q2 => z_sub q1 q2) ev_int fun a b h' l o q1 q2 => ?_
        have := z_sub (prog := prog) (w := w) (A := A') (F := F') (B := B) (S₁ := S') (h := h') q1 q2
        have e : ((js[i]?.getD 0 : Nat) : Int) - (x.length : Int) - 1 = ((js[i]?.getD 0 - x.length - 1 : Nat) : Int) := by omega
        rw [e] at this; exact this
      · rw [List.getElem?_eq_getElem (by omega)]; rfl
    · rw [outs_list js 0 (fun j => decide (x.length < j)) (fun j => .str (S [wd[j - x.length - 1]?.getD 0]))]
      unfold ahead txs
      rw [List.map_map, List.map_map]; rfl
  case b =>
    refine x_return (pbool (wholeB wd x js)) I2 ?_ fun v s' I' q => fin _ _ _ s' I' (ret_sub q)
    refine ev_or2 (P1 := pbool (decide (wd.take x.length = x))) (b := decide (wd.take x.length = x)) (ev_cmp (P1 := pstr (S (wd.take x.length))) (P2 := pstr (S x)) (ev_substr (l := wd) (ev_v I2 rfl) (ev_slice part_none (part_some (ev_call1 (ev_g en W.b_len) kp_builtin (ev_v I2 rfl) fun u h' l o q => z_len_str q (by omega))) part_none) fun a i h' l o q1 q2 => ?_) (ev_v I2 rfl) fun a b h' l o q1 q2 => ?_) (fun a h' l o q => t_bool q) (fun e v g q => ?_) (fun e h1 l1 o1 => ?_)
    · have := z_slice_str (prog := prog) (w := w) (A := A') (F := F') (B := B) (lo := none) (hi := some x.length) q1 q2 (by omega)
      exact this
    · exact z_eq emb_str (by omega) hu (fun c hc => hw c (List.mem_of_mem_take hc)) hx q1 q2
    · unfold wholeB; rw [e]; rw [e] at q; exact q
    · have e2 : wholeB wd x js = decide ((txs (((ahead wd x js).filter (fun c => decide (c ≠ (ahead wd x js)[0]?.getD 0))).map fun c => [c])) ≠ []) := by
        unfold wholeB; rw [e]
        cases (ahead wd x js).filter (fun c => decide (c ≠ (ahead wd x js)[0]?.getD 0)) <;> simp [txs]
      rw [e2]
      have hI2 := I2
      refine ev_cmp (P1 := plist (txs (((ahead wd x js).filter (fun c => decide (c ≠ (ahead wd x js)[0]?.getD 0))).map fun c => [c]))) (P2 := plist (txs [])) ?c (ev_list sp_dats_nil (by simp)) fun a b h' l o q1 q2 => ?d
      case d =>
        refine (z_ne (emb_str.list) (by omega) hu ?_ (by intro a m; cases m) q1 q2).mono fun v g q => ?_
        · intro a ha
          obtain ⟨c, hc, rfl⟩ := List.mem_map.mp ha
          exact (asc1 c).mpr (hah c (List.mem_filter.mp hc).1)
        · have : decide ((((ahead wd x js).filter (fun c => decide (c ≠ (ahead wd x js)[0]?.getD 0))).map fun c => [c]) ≠ []) = decide ((txs (((ahead wd x js).filter (fun c => decide (c ≠ (ahead wd x js)[0]?.getD 0))).map fun c => [c])) ≠ []) := by
            cases (ahead wd x js).filter (fun c => decide (c ≠ (ahead wd x js)[0]?.getD 0)) <;> simp [txs]
          rw [← this]; exact q
      case c =>
        refine ev_listcomp (n := (ahead wd x js).length) (item := fun i => ione (.str (S [(ahead wd x js)[i]?.getD 0]))) (fun i => vone "sign" (.str (S [(ahead wd x js)[i]?.getD 0]))) (fun i => decide ((ahead wd x js)[i]?.getD 0 ≠ (ahead wd x js)[0]?.getD 0)) (fun i => .str (S [(ahead wd x js)[i]?.getD 0])) ?_ ?_ ?_ ?_ (fun i m g g' k q => vone_mono k q) ?_ (by omega)
        · refine Itr.weaken (itr_txs R.hh ((ev_v I2 (x := "ahead") rfl).up l1)) (by simp) fun i v g h' hi q => ?_
          have : ((ahead wd x js).map fun c => [c])[i]?.getD [] = [(ahead wd x js)[i]?.getD 0] := by
            rw [List.length_map] at hi
            rw [List.getElem?_map, List.getElem?_eq_getElem hi]; rfl
          rw [this] at q; exact q
        · exact fun i hi => asg_one (fun _ => rfl) (fun _ => rfl) (fun _ => rfl)
        · intro i S' h' C hi T
          have h0 : 0 < (ahead wd x js).length := by omega
          refine do_tests_one (tr_cmp (P1 := pstr (S [(ahead wd x js)[i]?.getD 0])) (P2 := pstr (S [(ahead wd x js)[0]?.getD 0])) (ev_n en.comp T.one) (ev_sublist (ds := txs ((ahead wd x js).map fun c => [c])) (P2 := pint ((0 : Nat) : Int)) (ev_n en.comp (T.free ((I2.var (x := "ahead") rfl).le l1 I2.ok.fs))) ev_int fun a i h' l o q1 q2 => z_get_list q1 q2 ?_ ?_) fun a c h' l o q1 q2 => ?_)
          · unfold txs; rw [List.map_map, List.getElem?_map, List.getElem?_eq_getElem h0]; rfl
          · unfold txs; simp; omega
          · have := z_ne (prog := prog) (w := w) (A := A') (F := F') (B := B) (S₁ := S') (h := h') emb_str (by omega) hu ((asc1 _).mpr (hah ((ahead wd x js)[i]?.getD 0) ?_)) ((asc1 _).mpr (hah ((ahead wd x js)[0]?.getD 0) ?_)) q1 q2
            · have e : decide (([(ahead wd x js)[i]?.getD 0] : List Nat) ≠ [(ahead wd x js)[0]?.getD 0]) = decide ((ahead wd x js)[i]?.getD 0 ≠ (ahead wd x js)[0]?.getD 0) := by simp
              rw [e] at this; exact this
            · rw [List.getElem?_eq_getElem hi]; exact List.getElem_mem _
            · rw [List.getElem?_eq_getElem h0]; exact List.getElem_mem _
        · intro i S' h' C hi hk T
          exact ev_n en.comp T.one
        · rw [outs_list (ahead wd x js) 0 (fun c => decide (c ≠ (ahead wd x js)[0]?.getD 0)) (fun c => .str (S [c]))]
          unfold txs
          rw [List.map_map]; rfl
end
end Mine

/-! ### Fn8 -/
namespace Mine
open PySem PySem.W PySem.Calls PyProof.Rows PySem.SeqAt

abbrev Tab := List (List Nat × List Nat)
def tget (t : Tab) (k : List Nat) : List Nat := (t.lookup k).getD []
def tput (t : Tab) (k v : List Nat) : Tab := if t.any (fun p => p.1 = k) then t.map (fun p => if p.1 = k then (p.1, v) else p) else t ++ [(k, v)]
def tdat (t : Tab) : List (Str × PyData) := t.map fun p => (S p.1, .list (nats p.2))

def Rel (vals : List (Str × Value)) (t : Tab) (g : Heap) : Prop := vals.map (·.1) = t.map (fun p => S p.1) ∧ all (t.map fun p => PyData.list (nats p.2)) (vals.map (·.2)) g
theorem Rel.mono {vals : List (Str × Value)} {t : Tab} {g g' : Heap} (k : g.StaysIn g') (x : Rel vals t g) : Rel vals t g' := ⟨x.1, x.2.mono k⟩
theorem Rel.nil {g : Heap} : Rel [] [] g := ⟨rfl, .nil⟩
theorem Rel.uncons {v : Str × Value} {vals : List (Str × Value)} {p : List Nat × List Nat} {t : Tab} {g : Heap} (x : Rel (v :: vals) (p :: t) g) : v.1 = S p.1 ∧ (plist (nats p.2)) v.2 g ∧ Rel vals t g := by
  obtain ⟨h1, h2⟩ := x
  rw [List.map_cons, List.map_cons] at h1 h2
  injection h1 with e1 e2
  exact ⟨e1, h2.uncons.1, e2, h2.uncons.2⟩
theorem Rel.cons {v : Str × Value} {vals : List (Str × Value)} {p : List Nat × List Nat} {t : Tab} {g : Heap} (h1 : v.1 = S p.1) (h2 : (plist (nats p.2)) v.2 g) (h3 : Rel vals t g) : Rel (v :: vals) (p :: t) g := by
  refine ⟨?_, ?_⟩
  · rw [List.map_cons, List.map_cons, h1, h3.1]
  · rw [List.map_cons, List.map_cons]; exact .cons h2 h3.2
theorem Rel.length {vals : List (Str × Value)} {t : Tab} {g : Heap} (x : Rel vals t g) : vals.length = t.length := by
  have := congrArg List.length x.1
  simpa using this
theorem Rel.any {vals : List (Str × Value)} {t : Tab} {g : Heap} (x : Rel vals t g) (k : List Nat) : vals.any (fun kv => decide (kv.1 = S k)) = t.any (fun p => decide (p.1 = k)) := by
  induction vals generalizing t with
  | nil => cases t with
    | nil => rfl
    | cons => have := x.length; simp at this
  | cons v vals ih => cases t with
    | nil => have := x.length; simp at this
    | cons p t =>
      obtain ⟨h1, _, h3⟩ := x.uncons
      rw [List.any_cons, List.any_cons, ih h3, h1]
      congr 1
      by_cases h : p.1 = k
      · simp [h]
      · rw [decide_eq_false h]
        exact decide_eq_false fun e => h (S_inj e)
theorem Rel.repl {vals : List (Str × Value)} {t : Tab} {g : Heap} (x : Rel vals t g) (k js : List Nat) {v : Value} (pv : (plist (nats js)) v g) : Rel (vals.map fun kv => if kv.1 = S k then (kv.1, v) else kv) (t.map fun p => if p.1 = k then (p.1, js) else p) g := by
  induction vals generalizing t with
  | nil => cases t with
    | nil => exact .nil
    | cons => have := x.length; simp at this
  | cons u vals ih => cases t with
    | nil => have := x.length; simp at this
    | cons p t =>
      obtain ⟨h1, h2, h3⟩ := x.uncons
      rw [List.map_cons, List.map_cons]
      by_cases h : p.1 = k
      · have hu : u.1 = S k := by rw [h1, h]
        rw [if_pos hu, if_pos h]
        exact .cons h1 pv (ih h3)
      · have hu : ¬ u.1 = S k := by rw [h1]; exact fun e => h (S_inj e)
        rw [if_neg hu, if_neg h]
        exact .cons h1 h2 (ih h3)
theorem Rel.append {vals vals' : List (Str × Value)} {t t' : Tab} {g : Heap} (x : Rel vals t g) (y : Rel vals' t' g) : Rel (vals ++ vals') (t ++ t') g := by
  refine ⟨by rw [List.map_append, List.map_append, x.1, y.1], ?_⟩
  rw [List.map_append, List.map_append]; exact x.2.append y.2
theorem Rel.stored {vals : List (Str × Value)} {t : Tab} {g : Heap} (x : Rel vals t g) (k js : List Nat) {v : Value} (pv : (plist (nats js)) v g) : Rel (PySem.stored vals (S k) v) (tput t k js) g := by
  unfold PySem.stored tput
  rw [x.any k]
  split
  · exact x.repl k js pv
  · exact x.append (.cons rfl pv .nil)
theorem Rel.get {vals : List (Str × Value)} {t : Tab} {g : Heap} (x : Rel vals t g) (k : List Nat) {d : Value} (pd : (plist (nats [])) d g) : (plist (nats (tget t k))) ((valueAt vals (S k)).getD d) g := by
  induction vals generalizing t with
  | nil => cases t with
    | nil => exact pd
    | cons => have := x.length; simp at this
  | cons u vals ih => cases t with
    | nil => have := x.length; simp at this
    | cons p t =>
      obtain ⟨h1, h2, h3⟩ := x.uncons
      have := ih h3
      unfold valueAt tget at this ⊢
      rw [List.find?_cons, List.lookup_cons, h1]
      by_cases h : k = p.1
      · subst h; simpa using h2
      · have e1 : (k == p.1) = false := beq_eq_false_iff_ne.mpr h
        have e2 : decide (S p.1 = S k) = false := decide_eq_false fun e => h (S_inj e).symm
        rw [e1, e2]; exact this

section
variable {prog : Program} {w : World}
def owd (prog : Program) (w : World) (t : Tab) : Ow := ⟨fun o g => ∃ vals, o.IsDictOf (strKind prog w) vals ∧ Rel vals t g, fun k ⟨vals, d, r⟩ => ⟨vals, d, r.mono k⟩⟩
def ptab (prog : Program) (w : World) (t : Tab) : Pd := ⟨fun v g => ∃ a vals, v = .ref a ∧ (a == sysModules) = false ∧ g.DictOf (strKind prog w) a vals ∧ Rel vals t g, fun k ⟨a, vals, e, n, ⟨o, es, ep, ho, r⟩, l⟩ => ⟨a, vals, e, n, ⟨o, es, ep, k _ _ ho, r⟩, l.mono k⟩⟩
theorem ptab_dict {t : Tab} {v : Value} {g : Heap} (x : (ptab prog w t) v g) : (pdict prog w (tdat t)) v g := by
  obtain ⟨a, vals, e, n, d, r⟩ := x
  refine ⟨a, vals, e, n, d, ?_, ?_⟩
  · rw [r.1]; unfold tdat; rw [List.map_map]; rfl
  · unfold tdat; rw [List.map_map]; exact r.2
end

section
variable {prog : Program} {w : World} {A : Around} {F : List Addr} {B : Heap} {S₁ : List Addr} {h h₀ : Heap} {env : Env} {ad : Nat → Addr} {own : List (Addr × Ow)} {ρ : List (Str × Pd)} {s₀ s : Shared} {D : Addr} {ds : List PyData} {t : Tab}

theorem nw_dict {pos : Pos} (hlim : B.NoLimit) : Nw prog w A F B S₁ h (eval (.Dict [] [] pos) env) (owd prog w []) := fun s Q E o l k => by
  have fr : s.heap.get? s.heap.objs.size = none := by
    cases e : s.heap.get? s.heap.objs.size with
    | none => rfl
    | some o => exact absurd (Heap.lt_size e) (Nat.lt_irrefl _)
  refine wpAny_Dict_empty ?_
  obtain ⟨o', ho, hd⟩ := Heap.dictOf_iff.mp (Heap.DictOf.new (knd := strKind prog w) s.heap)
  exact k s.heap.objs.size _ s.toks fr (fresh_notModules hlim o.bh) (.push _) ⟨o', ho, [], hd, .nil⟩

theorem own_dict (I : St A F B h₀ S₁ env ((D, owd prog w t) :: own) ρ s₀ s) {h' : Heap} (l : Le F B s.heap h') : ∃ vals, h'.DictOf (strKind prog w) D vals ∧ Rel vals t (fz (SS env ((D, owd prog w t) :: own) S₁) h') := by
  obtain ⟨o, ho, vals, hd, hr⟩ := I.head
  exact ⟨vals, Heap.dictOf_iff.mpr ⟨o, l.keep D _ ho (I.nF D (List.mem_append_right _ (.head _))), hd⟩, hr.mono (I.ok.fz l)⟩
theorem ret_dict (hm : (D == sysModules) = false) (I : St A F B h₀ S₁ env ((D, owd prog w t) :: own) ρ s₀ s) : (ptab prog w t) (.ref D) (fz S₁ s.heap) := by
  obtain ⟨o, ho, vals, hd, hr⟩ := I.head
  refine ⟨D, vals, rfl, hm, Heap.dictOf_iff.mpr ⟨o, fz_get ho fun m => I.dis D (.tail _ (List.mem_append_right _ (.head _))) m, hd⟩, hr.mono (fz_sub fun a m => List.mem_append_right _ m)⟩

/-- xs.get(k, []), of a dict of one's own -/
theorem ev_dget {x : Str} {px apos pos : Pos} {e1 e2 : Expr} {pl : Sem Bool} {k : List Nat} {h' : Heap} (I : St A F B h₀ S₁ env ((D, owd prog w t) :: own) ρ s₀ s) (l0 : Le F B s.heap h') (hm : (D == sysModules) = false) (hv : ρ.lookup x = some (isv (.ref D)))
    (y1 : Ev prog w A F B (SS env ((D, owd prog w t) :: own) S₁) h' env e1 (pstr (S k))) (y2 : Ev prog w A F B (SS env ((D, owd prog w t) :: own) S₁) h' env e2 (plist (nats [])))
    (hd : (x == ("__debug__" : Str)) = false := by decide) (hn : (x == ("__classdict__" : Str)) = false := by decide)
    (hl : backTo pos (starEach [e1, e2] env) = [(false, eval e1 env), (false, eval e2 env)] := by rfl)
    (he : eval (.Call (.Attribute (.Name x px) (Str.ofString "get") apos) [e1, e2] [] pos) env = (do
      let ov ← eval (.Name x px) env
      standAt apos.atName
      let (f, first) ← PySem.holding [ov] (getMethod ov (Str.ofString "get") pl)
      callWith pos f first (backTo pos (starEach [e1, e2] env)) []) := by rfl) :
    Ev prog w A F B (SS env ((D, owd prog w t) :: own) S₁) h' env (.Call (.Attribute (.Name x px) (Str.ofString "get") apos) [e1, e2] [] pos) (plist (nats (tget t k))) := by
  refine ev_meth2 (id := "dict.get") ((ev_v I hv hd hn).up l0) (fun ov s' Q E ok l p q => ?_) y1 y2 (fun ov v u h' l o p q1 q2 => ?_) hl he
  · obtain rfl : ov = _ := p
    obtain ⟨vals, hd, _⟩ := own_dict I (l0.trans l)
    exact getMethod_builtin hd.typeIs PySem.F.plainAttrs_dict PySem.F.slot_dict_get PySem.F.type_dict_get hd.mapOf.noDict q
  · obtain rfl : ov = _ := p
    obtain ⟨tk, rfl⟩ := dat_str q1
    intro s Q E o lh kk
    obtain ⟨vals, hd, hr⟩ := own_dict I ((l0.trans l).trans lh)
    exact call_meetsIn PySem.F.slot_dict_get hd.typeIs PySem.F.entry_dict_get (PySem.F.args_dict_get_3 _ _ _) (meets_dict_get_default (strKind prog w) D (strKind_is prog w (S k) tk) hm u) ⟨_, hd.mapOf, kk _ _ (Go.toks _) (hr.get k ((plist _).mono (fz_le lh o.fs fun _ m => .inl m) q2))⟩

theorem z_addlist {ds es : List PyData} {a b : Value} (pa : (plist ds) a (fz S₁ h)) (pb : (plist es) b (fz S₁ h)) (hsz : ds.length + es.length ≤ sizeLine) : Do prog w A F B S₁ h (binaryOp .Add a b) (plist (ds ++ es)).p := fun s Q E o lh k => by
  obtain ⟨x, vs, rfl, ⟨ox, ex, cx, nx, dx⟩, hx⟩ := plist_out pa
  obtain ⟨y, ws, rfl, ⟨oy, ey, cy, ny, dy⟩, hy⟩ := plist_out pb
  have up : (fz S₁ h).StaysIn s.heap := fun b ob e => lh.keep _ _ (fz_in e).1 (fun m => (fz_in e).2 (o.fs _ m))
  obtain ⟨c1, d1, dt1, sl1⟩ := ox
  obtain ⟨c2, d2, dt2, sl2⟩ := oy
  dsimp only at cx dx cy dy
  subst cx dx cy dy
  have h1 := hx.length
  have h2 := hy.length
  refine concat_meets ⟨_, up _ _ ex, rfl⟩ ⟨_, up _ _ ey, rfl⟩ noFill_list_add seq_list_add PySem.F.slot_list_add PySem.F.entry_list_add (PySem.F.args_list_add_2 _ _) (list_addW x y vs.toArray ws.toArray nx ny d1 d2 sl1 sl2 (by simp; omega)) ⟨up _ _ ex, up _ _ ey, ?_⟩
  have st : (fz S₁ h).StaysIn (fz S₁ (s.heap.push { cls := .type "list", data := .seq (vs.toArray ++ ws.toArray) })) := fz_le (lh.trans (.push _)) o.fs fun _ m => .inl m
  exact k _ _ ⟨_, s.toks, rfl, .push _⟩ (plist_in (fz_get (Heap.get?_push_size _ rfl) o.size) rfl rfl (by simpa using (hx.mono st).append (hy.mono st)))

/-- d[k] = e, of a dict of one's own -/
theorem x_put {x : Str} {px spos pos : Pos} {k e : Expr} {kk js : List Nat} {rest : List Stmt} {Q : Flow → Shared → Prop} {E : Value → Shared → Prop}
    (I : St A F B h₀ S₁ env ((D, owd prog w t) :: own) ρ s₀ s) (hv : ρ.lookup x = some (isv (.ref D))) (hsz : t.length ≤ sizeLine)
    (hev : Ev prog w A F B (SS env ((D, owd prog w t) :: own) S₁) s.heap env e (plist (nats js))) (hk : ∀ h', Le F B s.heap h' → Ok A F B (SS env ((D, owd prog w t) :: own) S₁) h' → Ev prog w A F B (SS env ((D, owd prog w t) :: own) S₁) h' env k (pstr (S kk)))
    (kx : ∀ s', St A F B h₀ S₁ env ((D, owd prog w (tput t kk js)) :: own) ρ s₀ s' → wpAny (model prog w) A (execs rest env) Q E s')
    (hd : (x == ("__debug__" : Str)) = false := by decide) (hn : (x == ("__classdict__" : Str)) = false := by decide)
    (hs : swapsWith e (some (.Subscript (.Name x px) k spos)) pos.line env = pure false := by rfl) :
    wpAny (model prog w) A (execs (.Assign [.Subscript (.Name x px) k spos] e pos :: rest) env) Q E s := by
  refine wpAny_execs_cons (wpAny_Assign_Subscript (hev s _ E I.ok .refl fun v s1 g1 q1 => ?_) hs)
  have I1 := I.go g1
  refine (ev_v I1 hv hd hn) s1 _ E I1.ok .refl fun u s2 g2 q2 => ?_
  obtain rfl : u = .ref D := q2
  have I2 := I1.go g2
  refine hk s2.heap (g1.le.trans g2.le) I2.ok s2 _ E I2.ok .refl fun kv s3 g3 q3 => ?_
  have I3 := I2.go g3
  obtain ⟨tk, rfl⟩ := dat_str q3
  obtain ⟨o, ho, vals, hdd, hr⟩ := I3.head
  have hD : s3.heap.DictOf (strKind prog w) D vals := Heap.dictOf_iff.mpr ⟨o, ho, hdd⟩
  have q1' : (plist (nats js)) v (fz (SS env ((D, owd prog w t) :: own) S₁) s3.heap) := (plist _).mono (I1.ok.fz (g2.le.trans g3.le)) q1
  refine wpAny_setItem_pairs (strKind_is prog w (S kk) tk) hD (fun h' hd' hsb => ?_) (by rw [hr.length]; exact hsz)
  obtain ⟨o', ho', hdd'⟩ := Heap.dictOf_iff.mp hd'
  have hDS : D ∈ SS env ((D, owd prog w t) :: own) S₁ := List.mem_append_left _ (.tail _ (List.mem_append_right _ (.head _)))
  have kkeep : ∀ b o, b ≠ D → s3.heap.get? b = some o → h'.get? b = some o := fun b o nb e => hsb.extBut b o nb e
  have st : (fz (SS env ((D, owd prog w t) :: own) S₁) s3.heap).StaysIn (fz (SS env ((D, owd prog w t) :: own) S₁) h') := fz_turned hDS kkeep
  exact kx _ (I3.owned (tk := s3.toks + 1) (ow' := owd prog w (tput t kk js)) kkeep ⟨o', ho', _, hdd', (hr.stored kk js q1').mono st⟩)
end
end Mine

/-! ### Fn9 -/
namespace Mine
open PySem PySem.W PySem.Calls PyProof.Rows PySem.SeqAt

section
variable {prog : Program} {w : World} {A : Around} {F : List Addr} {B : Heap} {S₁ : List Addr} {h h₀ : Heap} {env : Env} {ad : Nat → Addr} {own : List (Addr × Ow)} {ρ : List (Str × Pd)} {s₀ s : Shared} {D : Addr} {ds : List PyData} {t : Tab}

theorem itr_enumerate {es : List Expr} {kk : Nat} {tp pos : Pos} {fe e1 : Expr} (hh : A.handled = none) (x : Ev prog w A F B S₁ h env fe (isv (.type "enumerate"))) (y : Ev prog w A F B S₁ h env e1 (plist ds))
    (hl : backTo pos (starEach [e1] env) = [(false, eval e1 env)] := by rfl)
    (he : eval (.Call fe [e1] [] pos) env = (do callWith pos (← eval fe env) [] (backTo pos (starEach [e1] env)) []) := by rfl) :
    Itr prog w A F B S₁ h (.Tuple es kk tp) (eval (.Call fe [e1] [] pos) env) ds.length (fun i => itwo (.int (i : Int)) (ds[i]?.getD .none)) := fun s Q E o lh k => by
  rw [he, hl]
  refine wpAny_bind (x s _ E o lh fun v s1 g1 q1 => ?_)
  obtain rfl : v = .type "enumerate" := q1
  have o1 := o.le g1.le
  refine wp_callWith (B := B) kp_type (evalArgs_plain (spliced_cons (y s1 _ E o1 (lh.trans g1.le) fun u s2 g2 q2 => spliced_nil ?_)))
  have o2 := o1.le g2.le
  have g := g1.trans g2
  refine ⟨o2.bh, ?_⟩
  obtain ⟨l, vs, rfl, hli, hall⟩ := plist_out q2
  have hL : s2.heap.IsList l vs.toArray := by obtain ⟨ob, e, r⟩ := hli; exact ⟨ob, (fz_in e).1, r⟩
  have hlS : l ∉ S₁ := by obtain ⟨ob, e, r⟩ := hli; exact (fz_in e).2
  have hlt : l < s2.heap.objs.size := by obtain ⟨ob, e, _⟩ := hL; exact Heap.lt_size e
  refine call_enumerate_list hL fun h3 he3 hit3 hsz3 hk3 => ?_
  have fr : ∀ b, s2.heap.objs.size ≤ b → s.heap.get? b = none := fun b hb => by
    cases e : s.heap.get? b with
    | none => rfl
    | some o' =>
      obtain ⟨o'', e''⟩ := g.le.alive e
      exact absurd (Heap.lt_size e'') (Nat.not_lt.mpr hb)
  have notS : ∀ b, s2.heap.objs.size ≤ b → b ∉ S₁ := fun b hb m => by obtain ⟨o', e⟩ := o.al b m; rw [fr b hb] at e; cases e
  have W := (WalksT.enumerate (prog := prog) (w := w) hh (s2.heap.objs.size + 1) s2.heap.objs.size l (Nat.succ_ne_self _) (Nat.ne_of_lt (Nat.lt_succ_of_lt hlt)) (Nat.ne_of_lt hlt) vs.toArray).toU
  have hst : (∃ old, IsEnum h3 (s2.heap.objs.size + 1) s2.heap.objs.size ((0 : Nat) : Int) old) ∧ h3.IsListIter s2.heap.objs.size l 0 ∧ h3.IsList l vs.toArray := ⟨⟨_, he3⟩, hit3, by obtain ⟨ob, e, r⟩ := hL; exact ⟨ob, hk3 _ _ e, r⟩⟩
  refine W.self 0 _ _ _ hst ?_
  obtain ⟨h2, t2, rfl, l2⟩ := g
  have hln : vs.toArray.size = ds.length := by simp [hall.length]
  have K := KTurns.ofWalksU (elts := es) (k := kk) (pos := tp) W
  rw [hln] at K
  refine k (h2.objs.size + 1) _ [h2.objs.size + 1, h2.objs.size] _ _ _ h3 t2 K hst (l2.trans (.of_keeps hk3)) (fun b m => ?_) (fun b m => ?_) (fun b m => ?_) (fun i g st b m => ?_) (fun s' Q' E' st q => W.self 0 s' Q' E' st q) fun i v h'' S'' hi hP hst' => ?_
  · rcases List.mem_cons.mp m with rfl | m
    · exact fr _ (Nat.le_succ _)
    · rw [List.mem_singleton.mp m]; exact fr _ (Nat.le_refl _)
  · rcases List.mem_cons.mp m with rfl | m
    · exact notS _ (Nat.le_succ _)
    · rcases List.mem_cons.mp m with rfl | m
      · exact notS _ (Nat.le_refl _)
      · rw [List.mem_singleton.mp m]; exact hlS
  · rcases List.mem_cons.mp m with rfl | m
    · exact .head _
    · rw [List.mem_singleton.mp m]; exact .tail _ (.head _)
  · obtain ⟨⟨old, h1⟩, ⟨o4, e4, _⟩, ⟨o5, e5, _⟩⟩ := st
    rcases List.mem_cons.mp m with rfl | m
    · exact ⟨_, h1⟩
    · rcases List.mem_cons.mp m with rfl | m
      · exact ⟨_, e4⟩
      · rw [List.mem_singleton.mp m]; exact ⟨_, e5⟩
  · obtain ⟨T, vals, rfl, ⟨tk, x', hx', rfl⟩, hT⟩ := hP
    obtain ⟨d, hd⟩ : ∃ d, ds[i]? = some d := ⟨ds[i], by simp [hi]⟩
    obtain ⟨v2, e2, p2⟩ := hall.get hd
    have hv : x' = v2 := by
      rw [List.getElem?_toArray] at hx'
      rw [hx'] at e2; exact Option.some.inj e2
    subst hv
    refine ⟨T, _, _, rfl, hT, dat_int_in _ _, ?_⟩
    rw [hd]
    refine (dat d).mono (fun b ob e => hst' b ob ?_) p2
    obtain ⟨e1, n1⟩ := fz_in e
    refine fz_get (hk3 _ _ e1) fun m => ?_
    rcases List.mem_append.mp m with m | m
    · have := Heap.lt_size e1
      rcases List.mem_cons.mp m with rfl | m
      · exact absurd this (Nat.not_lt.mpr (Nat.le_succ _))
      · rw [List.mem_singleton.mp m] at this; exact absurd this (Nat.lt_irrefl _)
    · exact n1 m
theorem ev_range1 {fe e1 : Expr} {pos : Pos} {n : Nat} (x : Ev prog w A F B S₁ h env fe (isv (.type "range"))) (y : Ev prog w A F B S₁ h env e1 (pint (n : Int)))
    (hl : backTo pos (starEach [e1] env) = [(false, eval e1 env)] := by rfl)
    (he : eval (.Call fe [e1] [] pos) env = (do callWith pos (← eval fe env) [] (backTo pos (starEach [e1] env)) []) := by rfl) : Ev prog w A F B S₁ h env (.Call fe [e1] [] pos) (prange 0 n) :=
  ev_call1 x kp_type y (fun v h' l o q => by
    obtain ⟨t, rfl⟩ := dat_int q
    intro s Q E o lh k
    exact call_range_1 (k _ _ ⟨_, _, rfl, .push _⟩ ⟨_, _, _, _, _, rfl, fz_get (Heap.get?_push_size _ rfl) o.size, by omega⟩)) hl he

/-! ## the tables -/
def tadd (t : Tab) (k : List Nat) (j : Nat) : Tab := tput t k (tget t k ++ [j])
def inner (key : List Nat → List Nat) (wd : List Nat) (j i : Nat) (t : Tab) : Tab := (List.range i).foldl (fun t i => tadd t (key (sub (some i) (some j) wd)) j) t
def outer (key : List Nat → List Nat) (wd : List Nat) (m : Nat) : Tab := (List.range m).foldl (fun t j => inner key wd j (j + 1) t) []
def tabOf (key : List Nat → List Nat) (wd : List Nat) : Tab := outer key wd (wd.length + 1)
theorem inner_succ (key : List Nat → List Nat) (wd : List Nat) (j i : Nat) (t : Tab) : inner key wd j (i + 1) t = tadd (inner key wd j i t) (key (sub (some i) (some j) wd)) j := by
  unfold inner; rw [List.range_succ, List.foldl_append]; rfl
theorem outer_succ (key : List Nat → List Nat) (wd : List Nat) (m : Nat) : outer key wd (m + 1) = inner key wd m (m + 1) (outer key wd m) := by
  unfold outer; rw [List.range_succ, List.foldl_append]; rfl
def small (M : Nat) (t : Tab) : Prop := t.length ≤ M ∧ ∀ p ∈ t, p.2.length ≤ M
theorem tget_le {M : Nat} {k : List Nat} : ∀ {t : Tab}, (∀ p ∈ t, p.2.length ≤ M) → (tget t k).length ≤ M
  | [], _ => Nat.zero_le _
  | p :: t, h => by
    unfold tget
    rw [List.lookup_cons]
    cases hq : (k == p.1) with
    | true => exact h p (.head _)
    | false => exact tget_le (t := t) fun q m => h q (.tail _ m)
theorem small_get {M : Nat} {t : Tab} (h : small M t) (k : List Nat) : (tget t k).length ≤ M := tget_le h.2
theorem nats_append (a b : List Nat) : nats (a ++ b) = nats a ++ nats b := by unfold nats; rw [List.map_append]
theorem nats_length (a : List Nat) : (nats a).length = a.length := by unfold nats; rw [List.length_map]
theorem small_tadd {M : Nat} {t : Tab} (h : small M t) (k : List Nat) (j : Nat) : small (M + 1) (tadd t k j) := by
  have hg := small_get h k
  obtain ⟨h1, h2⟩ := h
  unfold tadd tput
  split
  · refine ⟨by rw [List.length_map]; omega, fun p hp => ?_⟩
    obtain ⟨q, hq, rfl⟩ := List.mem_map.mp hp
    split
    · rw [List.length_append, List.length_singleton]; omega
    · have := h2 q hq; omega
  · refine ⟨by rw [List.length_append, List.length_singleton]; omega, fun p hp => ?_⟩
    rcases List.mem_append.mp hp with hp | hp
    · have := h2 p hp; omega
    · rw [List.mem_singleton.mp hp, List.length_append, List.length_singleton]; omega
theorem small_inner {key : List Nat → List Nat} {wd : List Nat} {M j : Nat} {t : Tab} (h : small M t) : ∀ i, small (M + i) (inner key wd j i t)
  | 0 => h
  | i + 1 => by rw [inner_succ]; exact small_tadd (small_inner h i) _ _
theorem small_outer {key : List Nat → List Nat} {wd : List Nat} : ∀ m, small (m * (m + 1)) (outer key wd m)
  | 0 => ⟨Nat.le_refl _, fun p hp => by cases hp⟩
  | m + 1 => by
    rw [outer_succ]
    have := small_inner (key := key) (wd := wd) (j := m) (small_outer (key := key) (wd := wd) m) (m + 1)
    have e : m * (m + 1) + (m + 1) ≤ (m + 1) * (m + 1 + 1) := by
      rw [Nat.mul_succ (m + 1) (m + 1), Nat.succ_mul m (m + 1)]; omega
    exact ⟨Nat.le_trans this.1 e, fun p hp => Nat.le_trans (this.2 p hp) e⟩

theorem ints_range {n : Nat} {y : Str} {px : Pos} {t : Sem Value} (hh : A.handled = none) (z : Do prog w A F B S₁ h t (prange 0 n).p) (hn : n ≤ 1000000) : Itr prog w A F B S₁ h (.Name y px) t n (fun i => ione (.int (i : Int))) :=
  Itr.weaken (itr_range hh z hn (by omega)) rfl fun i v g h' hi q => by rw [Int.zero_add] at q; exact q

theorem sp_ends (W : Wd B ad) {n : Nat} (rm : Rm A (n + 1)) {wd : List Nat} (hlw : wd.length ≤ 100) {v : Value} (p : (pstr (S wd)) v (fz S₁ h)) :
    Do prog w A F B S₁ h (call (.ref (ad 31)) [v] []) (ptab prog w (tabOf id wd)).p := by
  refine do_fn (P := ptab prog w (tabOf id wd)) rm (W.f 31) W.lim ["word"] (Ps := [pstr (S wd)]) ⟨p, trivial⟩ ?_ ?_
  · intros; exact BindsTo.of_eq rfl _ _ _ _ (by assumption)
  intro name qual kV doc pm ct cd an L s₁ sb h₀ F' A' env Q' E' henv hA hF hrm hl hfS hal I fin
  have en := I.en
  have R := hrm _ rm
  subst henv
  conv in fb 31 => whnf
  have hsz : sizeLine = 16777216 := rfl
  refine x_own (ow := owd prog w []) I (nw_dict W.lim) (.inl rfl) fun D s2 hm I2 => ?_
  refine x_for I2 (ints_range (y := "j") (n := wd.length + 1) R.hh (ev_range1 (ev_g en W.t_range) (ev_bin (P1 := pint (wd.length : Int)) (P2 := pint 1) (P := pint ((wd.length + 1 : Nat) : Int)) (ev_call1 (ev_g en W.b_len) kp_builtin (ev_v I2 rfl) fun u h' l o q => z_len_str q (by omega)) ev_int fun a b h' l o q1 q2 => z_add q1 q2)) (by omega))
    (fun j => [(D, owd prog w (outer id wd j))]) (fun j => [("ends", isv (.ref D)), ("word", pstr (S wd))]) (fun j => [("j", dat (.int (j : Int)))]) (fun _ => True)
    (fun i => rfl) rfl ⟨rfl, rfl, trivial⟩ trivial (fun i v s1 sb hb S₁ Q' E' hi J hv k => asgSt_one (.inl rfl) J hv k) ?_ fun s5 I5 _ => ?_
  · intro j s3 sb3 hb3 S₂ Q2 hj _ hS I3 next esc out
    refine x_for I3 (ints_range (y := "i") (n := j + 1) R.hh (ev_range1 (ev_g en W.t_range) (ev_bin (P1 := pint (j : Int)) (P2 := pint 1) (P := pint ((j + 1 : Nat) : Int)) (ev_v I3 rfl) ev_int fun a b h' l o q1 q2 => z_add q1 q2)) (by omega))
      (fun i => [(D, owd prog w (inner id wd j i (outer id wd j)))]) (fun i => [("ends", isv (.ref D)), ("word", pstr (S wd)), ("j", dat (.int (j : Int)))]) (fun i => [("i", dat (.int (i : Int)))]) (fun _ => True)
      (fun i => rfl) rfl ⟨rfl, rfl, rfl, trivial⟩ trivial (fun i v s1 sb hb S₁ Q' E' hi J hv k => asgSt_one (.inl rfl) J hv k) ?_ fun s6 I6 _ => ?_
    · intro i s4 sb4 hb4 S₃ Q3 hi _ hS3 I4 next4 esc4 out4
      have sm := small_inner (key := id) (wd := wd) (j := j) (small_outer (key := id) (wd := wd) j) i
      have bnd : j * (j + 1) + i ≤ 20000 := by
        have h1 : j * (j + 1) ≤ 100 * 101 := Nat.mul_le_mul (by omega) (by omega)
        omega
      have sg := small_get sm (sub (some i) (some j) wd)
      refine x_put (kk := sub (some i) (some j) wd) (js := tget (inner id wd j i (outer id wd j)) (sub (some i) (some j) wd) ++ [j]) I4 rfl (by have := sm.1; omega) ?a (fun h' l o => ?b) fun s7 I7 => ?c
      case a =>
        refine ev_bin (P1 := plist (nats (tget (inner id wd j i (outer id wd j)) (sub (some i) (some j) wd)))) (P2 := plist (nats [j])) (ev_dget I4 .refl hm rfl (ev_substr (l := wd) (ev_v I4 rfl) (ev_slice (part_some (ev_v I4 rfl)) (part_some (ev_v I4 rfl)) part_none) fun a i' h' l o q1 q2 => z_slice_str (lo := some i) (hi := some j) q1 q2 (by omega)) (ev_list (ds := nats []) sp_dats_nil (Nat.zero_le _)))
          (ev_list (ds := nats [j]) (sp_dats_cons (ev_v I4 (x := "j") rfl) sp_dats_nil) (by show 1 ≤ sizeLine; decide)) fun a b h' l o q1 q2 => ?_
        rw [nats_append]
        exact z_addlist q1 q2 (by rw [nats_length, nats_length]; simp; omega)
      case b => exact Do.up (ev_substr (l := wd) (ev_v I4 rfl) (ev_slice (part_some (ev_v I4 rfl)) (part_some (ev_v I4 rfl)) part_none) fun a i' h' l o q1 q2 => z_slice_str (lo := some i) (hi := some j) q1 q2 (by omega)) l
      case c =>
        refine x_nil (next4 s7 ?_ trivial).1
        rw [inner_succ]
        exact I7.sub ⟨rfl, rfl, rfl, trivial⟩
    · refine x_nil (next s6 ?_ trivial).1
      rw [outer_succ]
      exact I6.sub ⟨rfl, rfl, trivial⟩
  · refine x_return (isv (.ref D)) I5 (ev_v I5 rfl) fun v s' I' q => fin _ _ _ s' I' ?_
    obtain rfl : v = _ := q
    exact ret_dict hm I'
end
end Mine

/-! ### Fn10 -/
namespace Mine
open PySem PySem.W PySem.Calls PyProof.Rows PySem.SeqAt

section
variable {prog : Program} {w : World} {A : Around} {F : List Addr} {B : Heap} {S₁ : List Addr} {h h₀ : Heap} {env : Env} {ad : Nat → Addr} {own : List (Addr × Ow)} {ρ : List (Str × Pd)} {s₀ s : Shared} {D : Addr} {ds : List PyData} {t : Tab}

def frontsOf (wd : List Nat) : List (List Nat) := (List.range (wd.length + 1)).map fun j => wayOf (wd.take j)
def sgn (c : Nat) : Prop := c ≠ 47 ∧ c ≠ 46 ∧ c < 128
theorem sub_tail (wd : List Nat) (i j : Nat) : (sub (some i) (some j) wd).tail = sub (some (i + 1)) (some j) wd := by
  unfold sub
  simp only [Option.getD_some]
  rw [List.tail_drop]

theorem sp_held (W : Wd B ad) {n : Nat} (rm : Rm A (n + 4)) {wd : List Nat} (hs : ∀ c ∈ wd, sgn c) (hlw : wd.length ≤ 100) {v : Value} (p : (plist (txs (frontsOf wd))) v (fz S₁ h)) :
    Do prog w A F B S₁ h (call (.ref (ad 30)) [v] []) (ptab prog w (tabOf wayOf wd)).p := by
  refine do_fn (P := ptab prog w (tabOf wayOf wd)) rm (W.f 30) W.lim ["fronts"] (Ps := [plist (txs (frontsOf wd))]) ⟨p, trivial⟩ ?_ ?_
  · intros; exact BindsTo.of_eq rfl _ _ _ _ (by assumption)
  intro name qual kV doc pm ct cd an L s₁ sb h₀ F' A' env Q' E' henv hA hF hrm hl hfS hal I fin
  have en := I.en
  have R := hrm _ rm
  subst henv
  conv in fb 30 => whnf
  have hsz : sizeLine = 16777216 := rfl
  have hfl : (txs (frontsOf wd)).length = wd.length + 1 := by unfold txs frontsOf; simp
  refine x_own (ow := owd prog w []) I (nw_dict W.lim) (.inl rfl) fun D s2 hm I2 => ?_
  refine x_for I2 (itr_enumerate R.hh (ev_g en W.t_enumerate) (ev_v I2 (x := "fronts") rfl))
    (fun j => [(D, owd prog w (outer wayOf wd j))]) (fun j => [("held", isv (.ref D)), ("fronts", plist (txs (frontsOf wd)))]) (fun j => [("front", dat ((txs (frontsOf wd))[j]?.getD .none)), ("j", dat (.int (j : Int)))]) (fun _ => True)
    (fun i => rfl) rfl ⟨rfl, rfl, trivial⟩ trivial (fun i v s1 sb hb S₁ Q' E' hi J hv k => asgSt_two R.hh (.inl rfl) (.inl rfl) J hv k) ?_ fun s5 I5 _ => ?_
  · intro j s3 sb3 hb3 S₂ Q2 hj _ hS I3 next esc out
    rw [hfl] at hj
    have ef : (txs (frontsOf wd))[j]?.getD .none = .str (S (wayOf (sub (some 0) (some j) wd))) := by
      have e1 : sub (some 0) (some j) wd = wd.take j := by unfold sub; simp
      unfold txs frontsOf
      rw [List.map_map, List.getElem?_map, List.getElem?_range hj, e1]; rfl
    rw [ef] at I3
    refine x_assign (pstr (S (wayOf (sub (some 0) (some j) wd)))) I3 (ev_v I3 rfl) (.inl rfl) fun s3' I3' => ?_
    refine x_for I3' (ints_range (y := "step") (n := j + 1) R.hh (ev_range1 (ev_g en W.t_range) (ev_bin (P1 := pint (j : Int)) (P2 := pint 1) (P := pint ((j + 1 : Nat) : Int)) (ev_v I3' rfl) ev_int fun a b h' l o q1 q2 => z_add q1 q2)) (by omega))
      (fun i => [(D, owd prog w (inner wayOf wd j i (outer wayOf wd j)))]) (fun i => [("way", pstr (S (wayOf (sub (some i) (some j) wd)))), ("held", isv (.ref D)), ("fronts", plist (txs (frontsOf wd))), ("j", dat (.int (j : Int)))]) (fun i => [("step", dat (.int (i : Int)))]) (fun _ => True)
      (fun i => rfl) rfl ⟨rfl, rfl, rfl, rfl, trivial⟩ trivial (fun i v s1 sb hb S₁ Q' E' hi J hv k => asgSt_one (.inl rfl) J hv k) ?_ fun s6 I6 _ => ?_
    · intro i s4 sb4 hb4 S₃ Q3 hi _ hS3 I4 next4 esc4 out4
      have sm := small_inner (key := wayOf) (wd := wd) (j := j) (small_outer (key := wayOf) (wd := wd) j) i
      have bnd : j * (j + 1) + i ≤ 20000 := by
        have h1 : j * (j + 1) ≤ 100 * 101 := Nat.mul_le_mul (by omega) (by omega)
        omega
      have sg := small_get sm (wayOf (sub (some i) (some j) wd))
      refine x_put (kk := wayOf (sub (some i) (some j) wd)) (js := tget (inner wayOf wd j i (outer wayOf wd j)) (wayOf (sub (some i) (some j) wd)) ++ [j]) I4 rfl (by have := sm.1; omega) ?a (fun h' l o => ?b) fun s7 I7 => ?c
      case a =>
        refine ev_bin (P1 := plist (nats (tget (inner wayOf wd j i (outer wayOf wd j)) (wayOf (sub (some i) (some j) wd))))) (P2 := plist (nats [j])) (ev_dget I4 .refl hm rfl (ev_v I4 rfl) (ev_list (ds := nats []) sp_dats_nil (Nat.zero_le _)))
          (ev_list (ds := nats [j]) (sp_dats_cons (ev_v I4 (x := "j") rfl) sp_dats_nil) (by show 1 ≤ sizeLine; decide)) fun a b h' l o q1 q2 => ?_
        rw [nats_append]
        exact z_addlist q1 q2 (by rw [nats_length, nats_length]; simp; omega)
      case b => exact Do.up (ev_v I4 rfl) l
      case c =>
        refine x_assign (pstr (S (wayOf (sub (some (i + 1)) (some j) wd)))) I7 (ev_call1 (ev_g en W.n25) (W.f 25).kp (ev_v I7 rfl) fun u h' l o q => ?_) (.inl rfl) fun s8 I8 => ?_
        · rw [← sub_tail]
          refine sp_dirname W R (fun d hd => hs d ?_) ?_ q
          · unfold sub at hd
            exact List.mem_of_mem_take (List.mem_of_mem_drop hd)
          · unfold sub; simp; omega
        · refine x_nil (next4 s8 ?_ trivial).1
          rw [inner_succ]
          exact I8.sub ⟨rfl, rfl, rfl, rfl, trivial⟩
    · refine x_nil (next s6 ?_ trivial).1
      rw [outer_succ]
      exact I6.sub ⟨rfl, rfl, trivial⟩
  · rw [hfl] at I5
    refine x_return (isv (.ref D)) I5 (ev_v I5 rfl) fun v s' I' q => fin _ _ _ s' I' ?_
    obtain rfl : v = _ := q
    exact ret_dict hm I'
end
end Mine

/-! ### Fn11 -/
namespace Mine
open PySem PySem.W PySem.Calls PyProof.Rows PySem.SeqAt

section
variable {prog : Program} {w : World} {A : Around} {F : List Addr} {B : Heap} {S₁ : List Addr} {h h₀ : Heap} {env : Env} {ad : Nat → Addr} {own : List (Addr × Ow)} {ρ : List (Str × Pd)} {s₀ s : Shared} {D : Addr} {ds : List PyData} {t : Tab}

theorem z_is {a b x y : Value} {g g' : Heap} (pa : (isv x) a g) (pb : (isv y) b g') (hp : plainIs x y = true := by rfl) : Do prog w A F B S₁ h (compareOp .Is a b) (pbool (x == y)).p := by
  obtain rfl : a = x := pa
  obtain rfl : b = y := pb
  exact fun s Q E o l k => wpAny_is_plain hp (k _ s .refl (dat_bool_in _))
theorem z_isnot {a b x y : Value} {g g' : Heap} (pa : (isv x) a g) (pb : (isv y) b g') (hp : plainIs x y = true := by rfl) : Do prog w A F B S₁ h (compareOp .IsNot a b) (pbool (!(x == y))).p := by
  obtain rfl : a = x := pa
  obtain rfl : b = y := pb
  exact fun s Q E o l k => wpAny_isNot_plain hp (k _ s .refl (dat_bool_in _))

theorem sp_buffer (W : Wd B ad) {n : Nat} (rm : Rm A (n + 1)) {b : Array UInt8} {v : Value} (p : (byt b) v (fz S₁ h)) : Do prog w A F B S₁ h (call (.ref (ad 5)) [v] []) (byt b).p := by
  refine do_fn (P := byt b) rm (W.f 5) W.lim ["data"] (Ps := [byt b]) ⟨p, trivial⟩ ?_ ?_
  · intros; exact BindsTo.of_eq rfl _ _ _ _ (by assumption)
  intro name qual kV doc pm ct cd an L s₁ sb h₀ F' A' env Q' E' henv hA hF hrm hl hfS hal I fin
  have en := I.en
  subst henv
  conv in fb 5 => whnf
  refine x_assign (isv (.type "bytes")) I (ev_call1 (ev_g en W.t_type) kp_type (ev_v I rfl) fun u h' l o q => ?_) (.inl rfl) fun s2 I2 => ?_
  · obtain ⟨t, rfl⟩ := q
    exact z_typeOf (T := "bytes") fun s' _ _ => PySem.W.typeIs_bytes _ _ _
  refine x_if true I2 (tr_cmp (P1 := isv (.type "bytes")) (P2 := isv (.type "bytes")) (ev_v I2 rfl) (ev_g en W.t_bytes) fun a c h' l o q1 q2 => z_is q1 q2) fun s3 I3 => ?_
  rw [if_pos rfl]
  refine x_return (byt b) I3 (ev_v I3 rfl) fun v s' I' q => fin _ _ _ s' I' (ret_sub q)

theorem sp_truth (W : Wd B ad) {n : Nat} (rm : Rm A (n + 1)) {v : Value} (p : (isv (.bool false)) v (fz S₁ h)) : Do prog w A F B S₁ h (call (.ref (ad 6)) [v] []) (isv (.bool false)).p := by
  refine do_fn (P := isv (.bool false)) rm (W.f 6) W.lim ["x"] (Ps := [isv (.bool false)]) ⟨p, trivial⟩ ?_ ?_
  · intros; exact BindsTo.of_eq rfl _ _ _ _ (by assumption)
  intro name qual kV doc pm ct cd an L s₁ sb h₀ F' A' env Q' E' henv hA hF hrm hl hfS hal I fin
  have en := I.en
  subst henv
  conv in fb 6 => whnf
  refine x_assign (isv (.type "bool")) I (ev_call1 (ev_g en W.t_type) kp_type (ev_v I rfl) fun u h' l o q => ?_) (.inl rfl) fun s2 I2 => ?_
  · obtain rfl : u = _ := q
    exact z_typeOf (T := "bool") fun s' _ _ => rfl
  refine x_if true I2 (tr_bool (tr_or (b := false) (c := true) (tr_cmp (P1 := isv (.bool false)) (P2 := isv .none) (ev_v I2 rfl) ev_none fun a c h' l o q1 q2 => z_is q1 q2) fun _ h1 l1 o1 => tr_or (b := true) (c := true) (tr_cmp (P1 := isv (.type "bool")) (P2 := isv (.type "bool")) ((ev_v I2 rfl).up l1) (ev_g en W.t_bool) fun a c h' l o q1 q2 => z_is q1 q2) fun h => by cases h)) fun s3 I3 => ?_
  rw [if_pos rfl]
  refine x_return (isv (.bool false)) I3 (ev_if (c := false) (tr_plain (P := isv (.bool false)) (ev_v I3 rfl) fun a h' l o q => ?_) (fun h => by cases h) fun _ h1 l1 o1 => ?_) fun v s' I' q => fin _ _ _ s' I' (ret_sub q)
  · obtain rfl : a = _ := q
    exact t_bool (g := h') (dat_bool_in false)
  · exact Do.mono (ev_true (b := false)) fun v g q => dat_bool q

/-! ## b2a -/
def lc (N i : Nat) : Nat := N / 2 ^ (48 - 8 * i) % 65536
def octs (N : Nat) : List Nat := (List.range 6).map fun i => N / 2 ^ (40 - 8 * i) % 256
def chars (N c : Nat) : List Nat := (List.range c).map fun k => b64n.getD (N / 2 ^ (42 - 6 * k) % 64) 0
def bysOf (l : List Nat) : Array UInt8 := (l.map fun n => n.toUInt8).toArray
theorem chars_succ (N c : Nat) : chars N (c + 1) = chars N c ++ [b64n.getD (N / 2 ^ (42 - 6 * c) % 64) 0] := by
  unfold chars; rw [List.range_succ, List.map_append]; rfl
theorem chars_len (N c : Nat) : (chars N c).length = c := by unfold chars; simp
theorem lc_zero {N : Nat} (h : N < 2 ^ 48) : lc N 0 = 0 := by
  unfold lc
  show N / 2 ^ 48 % 65536 = 0
  rw [Nat.div_eq_of_lt h]
theorem lc_step (N i : Nat) (hi : i < 6) : (lc N i * 256 + N / 2 ^ (40 - 8 * i) % 256) % 65536 = lc N (i + 1) := by
  unfold lc
  have e1 : 48 - 8 * (i + 1) = 40 - 8 * i := by omega
  have e2 : 48 - 8 * i = (40 - 8 * i) + 8 := by omega
  rw [e1, e2, Nat.pow_add, ← Nat.div_div_eq_div_mul]
  generalize N / 2 ^ (40 - 8 * i) = M
  show (M / 256 % 65536 * 256 + M % 256) % 65536 = M % 65536
  omega
theorem lc_char (N i q : Nat) (hi : i < 6) (hq : q < (8 * i % 6 + 8) / 6) : lc N (i + 1) / 2 ^ (8 * i % 6 + 8 - 6 * q - 6) % 64 = N / 2 ^ (42 - 6 * (8 * i / 6 + q)) % 64 := by
  unfold lc
  rw [low_bits _ (by omega), Nat.div_div_eq_div_mul, ← Nat.pow_add]
  congr 3
  omega
theorem b64_get : ∀ i < 64, ((b64n.map fun n : Nat => n.toUInt8).getD i 0).toNat = b64n.getD i 0 := by decide +kernel
theorem b64_lt : ∀ i < 64, b64n.getD i 0 < 128 := by decide +kernel
theorem bys_get {l : List Nat} (hl : ∀ n ∈ l, n < 256) {i : Nat} (hi : i < l.length) : ((bysOf l)[i]?.getD 0).toNat = l[i]?.getD 0 := by
  unfold bysOf
  rw [List.getElem?_toArray, List.getElem?_map, List.getElem?_eq_getElem hi]
  have := hl _ (List.getElem_mem hi)
  show (l[i].toUInt8).toNat = l[i]
  simp; omega
theorem itr_bys {y : Str} {px : Pos} {t : Sem Value} {l : List Nat} (hh : A.handled = none) (hl : ∀ n ∈ l, n < 256) (z : Do prog w A F B S₁ h t (byt (bysOf l)).p) : Itr prog w A F B S₁ h (.Name y px) t l.length (fun i => ione (.int ((l[i]?.getD 0 : Nat) : Int))) :=
  Itr.weaken (itr_bytes hh z) (by unfold bysOf; simp) fun i v g h' hi q => by
    rw [bys_get hl (by unfold bysOf at hi; simpa using hi)] at q; exact q
theorem octs_lt (N : Nat) : ∀ n ∈ octs N, n < 256 := fun n hn => by
  obtain ⟨i, _, rfl⟩ := List.mem_map.mp hn
  exact Nat.mod_lt _ (by decide)
theorem octs_get (N i : Nat) (hi : i < 6) : (octs N)[i]?.getD 0 = N / 2 ^ (40 - 8 * i) % 256 := by
  unfold octs
  rw [List.getElem?_map, List.getElem?_range hi]; rfl

theorem intsAre_of {g : Heap} : ∀ {l : List Nat} {vs : List Value}, all (nats l) vs g → IntsAre vs (l.map fun n : Nat => (n : Int))
  | [], vs, hall => by obtain ⟨as, r⟩ := hall; cases r; exact .nil
  | n :: l, vs, hall => by
    cases vs with
    | nil => obtain ⟨as, r⟩ := hall; cases r
    | cons u vs =>
      obtain ⟨h1, h2⟩ := hall.uncons
      obtain ⟨tk, rfl⟩ := dat_int h1
      exact .cons _ _ (intsAre_of h2)
theorem z_bytes' {l : List Nat} (hh : A.handled = none) (hl : ∀ n ∈ l, n < 256) (hsz : l.length ≤ 100000) {v : Value} (p : ∀ h', Ok A F B S₁ h' → Le F B h h' → (plist (nats l)) v h') : Do prog w A F B S₁ h (call (.type "bytes") [v] []) (byt (bysOf l)).p := fun s Q E o lh k => by
  obtain ⟨a, vs, rfl, hl', hall⟩ := plist_out (p s.heap o lh)
  have hlen := hall.length
  rw [nats_length] at hlen
  have hsz' : sizeLine = 16777216 := rfl
  have hi : IntsAre vs (l.map fun n : Nat => (n : Int)) := intsAre_of hall
  refine call_bytes_ints hl' hi (fun n hn => ?_) (by omega) hh fun h' t k' hk => k _ _ (Go.of_keeps hk) ⟨t, congrArg (Value.bytes · t) ?_⟩
  · obtain ⟨m, hm, rfl⟩ := List.mem_map.mp hn
    have := hl m hm; omega
  · unfold byteArr bysOf
    rw [List.map_map]; rfl
theorem z_bytes {l : List Nat} (hh : A.handled = none) (hl : ∀ n ∈ l, n < 256) (hsz : l.length ≤ 100000) {v : Value} (p : (plist (nats l)) v (fz S₁ h)) : Do prog w A F B S₁ h (call (.type "bytes") [v] []) (byt (bysOf l)).p :=
  z_bytes' hh hl hsz fun h' o lh => (plist _).mono (fun b ob e => lh.keep _ _ (fz_in e).1 fun m => (fz_in e).2 (o.fs _ m)) p
theorem own_plist {h' : Heap} (I : St A F B h₀ S₁ env ((D, owl ds) :: own) ρ s₀ s) (l : Le F B s.heap h') : (plist ds) (.ref D) h' := by
  obtain ⟨vs, m, ho, hall⟩ := own_reads I l
  exact plist_in ho rfl rfl (hall.mono fz_stays)
end
end Mine

/-! ### Fn12 -/
namespace Mine
open PySem PySem.W PySem.Calls PyProof.Rows PySem.SeqAt

section
variable {prog : Program} {w : World} {A : Around} {F : List Addr} {B : Heap} {S₁ : List Addr} {h h₀ : Heap} {env : Env} {ad : Nat → Addr} {own : List (Addr × Ow)} {ρ : List (Str × Pd)} {s₀ s : Shared} {D : Addr} {ds : List PyData} {t : Tab}

theorem z_getb {l : List UInt8} {i c : Nat} {a v : Value} {g g' : Heap} {t : Tok} (hi : i < l.length) (hl : l.length ≤ 1000) (e : (l.getD i 0).toNat = c) (pa : (isv (.bytes l.toArray t)) a g) (pb : (pint (i : Int)) v g') : Do prog w A F B S₁ h (getItem a v) (pint (c : Int)).p := by
  obtain rfl : a = .bytes l.toArray t := pa
  obtain ⟨u, rfl⟩ := dat_int pb
  refine fun s Q E o lh k => getItem_bytes (by omega) (by omega) (by omega) (k _ _ (Go.toks _) ?_)
  rw [show (i : Int).toNat = i from rfl, e]
  exact ⟨_, .int _ _⟩
theorem b64_len : (b64n.map fun n : Nat => n.toUInt8).length = 64 := by decide +kernel
theorem z_getbytes {i : Nat} {a v : Value} {g g' : Heap} {t : Tok} (hi : i < 64) (pa : (isv (.bytes (b64n.map fun n : Nat => n.toUInt8).toArray t)) a g) (pb : (pint (i : Int)) v g') : Do prog w A F B S₁ h (getItem a v) (pint ((b64n.getD i 0 : Nat) : Int)).p :=
  z_getb (by rw [b64_len]; exact hi) (by rw [b64_len]; decide) (b64_get i hi) pa pb

set_option maxHeartbeats 2000000 in
theorem sp_b2a (W : Wd B ad) {n : Nat} (rm : Rm A (n + 2)) {N : Nat} (hN : N < 2 ^ 48) {v u : Value} (p : (byt (bysOf (octs N))) v (fz S₁ h)) (q : (isv (.bool false)) u (fz S₁ h)) :
    Do prog w A F B S₁ h (call (.ref (ad 8)) [v] [("newline", u)]) (byt (bysOf (chars N 8))).p := by
  refine do_call (args := ⟨[v], [("newline", u)]⟩) (P := byt (bysOf (chars N 8))) (PB := fun binds g => binds = [(Str.ofString "data", v), (Str.ofString "newline", u)] ∧ (byt (bysOf (octs N))) v g ∧ (isv (.bool false)) u g) rm (W.f 8) W.lim ?_ [("data", byt (bysOf (octs N))), ("newline", isv (.bool false))] ?_ ?_ ?_
  · rintro fd name qual kV doc pm ct cd an rfl s Q E o lh k
    have st : (fz S₁ h).StaysIn (fz S₁ s.heap) := fz_le lh o.fs fun _ m => .inl m
    exact BindsTo.of_eq (binds := [(Str.ofString "data", v), (Str.ofString "newline", u)]) rfl _ _ _ _ (k _ s .refl ⟨rfl, (byt _).mono st p, (isv _).mono st q⟩)
  · rintro m binds g ⟨rfl, _⟩ x hx
    simp only [List.mem_cons, List.not_mem_nil, or_false] at hx
    rcases hx with rfl | rfl
    · exact .inl rfl
    · exact .inl rfl
  · rintro name qual kV doc pm ct cd an L binds g ⟨rfl, p1, p2⟩ x P e
    have hnd : ((["data", "newline"] : List Str)).Nodup := by decide +kernel
    by_cases hx : x = "data"
    · subst hx; cases e
      exact ⟨v, p1, .inl ⟨rfl, bindL_get rfl hnd (.head _)⟩⟩
    · by_cases hx2 : x = "newline"
      · subst hx2; cases e
        exact ⟨u, p2, .inl ⟨rfl, bindL_get rfl hnd (.tail _ (.head _))⟩⟩
      · rw [List.lookup_cons, beq_eq_false_iff_ne.mpr hx, List.lookup_cons, beq_eq_false_iff_ne.mpr hx2] at e
        cases e
  intro name qual kV doc pm ct cd an L s₁ sb h₀ F' A' env Q' E' henv hA hF hrm hle hfS hal I fin
  have en := I.en
  have R := hrm _ rm
  subst henv
  obtain ⟨tb, htb⟩ := W.tbl
  conv in fb 8 => whnf
  have hsz : sizeLine = 16777216 := rfl
  have hu : A'.units ≤ 6000 := by have := R.un; omega
  refine x_assign (byt (bysOf (octs N))) I (ev_call1 (ev_g en W.n5) (W.f 5).kp (ev_v I rfl) fun u h' l o q => sp_buffer W R q) (.inl rfl) fun s2 I2 => ?_
  refine x_assign (isv (.bool false)) I2 (ev_call1 (ev_g en W.n6) (W.f 6).kp (ev_v I2 rfl) fun u h' l o q => sp_truth W R q) (.inl rfl) fun s3 I3 => ?_
  refine x_own (ow := owl (nats [])) I3 (nw_list W.lim (ds := nats []) sp_dats_nil (Nat.zero_le _)) (.inl rfl) fun D s4 _ I4 => ?_
  refine x_assign (pint ((0 : Nat) : Int)) I4 ev_int (.inl rfl) fun s5 I5 => ?_
  refine x_assign (pint ((lc N 0 : Nat) : Int)) I5 (by rw [lc_zero hN]; exact ev_int) (.inl rfl) fun s6 I6 => ?_
  have ho : (octs N).length = 6 := by unfold octs; simp
  refine x_for I6 (itr_bys (y := "b") R.hh (octs_lt N) (ev_v I6 (x := "bin_data") rfl))
    (fun i => [(D, owl (nats (chars N (8 * i / 6))))]) (fun i => [("leftchar", pint ((lc N i : Nat) : Int)), ("leftbits", pint ((8 * i % 6 : Nat) : Int)), ("out", isv (.ref D)), ("newline", isv (.bool false))]) (fun i => [("b", dat (.int (((octs N)[i]?.getD 0 : Nat) : Int)))]) (fun _ => True)
    (fun i => rfl) rfl ⟨rfl, rfl, rfl, rfl, trivial⟩ trivial (fun i v s1 sb hb S₁ Q' E' hi J hv k => asgSt_one (.inl rfl) J hv k) ?_ fun s7 I7 _ => ?_
  · intro i s7 sb7 hb7 S₂ Q2 hi _ hS I7 next esc out
    rw [ho] at hi
    rw [octs_get N i hi] at I7
    have hlc : lc N i < 65536 := Nat.mod_lt _ (by decide)
    refine x_assign (pint ((lc N (i + 1) : Nat) : Int)) I7 (ev_bin (P1 := pint ((lc N i * 256 + N / 2 ^ (40 - 8 * i) % 256 : Nat) : Int)) (P2 := pint ((65535 : Nat) : Int)) (ev_bin (P1 := pint ((lc N i * 256 : Nat) : Int)) (P2 := pint ((N / 2 ^ (40 - 8 * i) % 256 : Nat) : Int)) (ev_bin (P1 := pint ((lc N i : Nat) : Int)) (P2 := pint ((8 : Nat) : Int)) (ev_v I7 rfl) ev_int fun a b h' l o q1 q2 => ?a) (ev_v I7 rfl) fun a b h' l o q1 q2 => ?b) ev_int fun a b h' l o q1 q2 => ?c) (.inl rfl) fun s8 I8 => ?_
    case a =>
      refine (z_shl (n := 8) q1 q2 (by
        have := bits_small (x := lc N i) (Nat.lt_trans hlc (by decide))
        omega)).mono fun v g qq => ?_
      have e : (lc N i : Int) * 2 ^ 8 = ((lc N i * 256 : Nat) : Int) := by push_cast; omega
      rw [e] at qq; exact qq
    case b =>
      refine (z_or q1 q2).mono fun v g qq => ?_
      rw [bitOr_shift _ _ (Nat.mod_lt _ (by decide))] at qq
      exact qq
    case c =>
      refine (z_and q1 q2).mono fun v g qq => ?_
      rw [show (65535 : Nat) = 2 ^ 16 - 1 from rfl, bitAnd_mask, show (2 : Nat) ^ 16 = 65536 from rfl, lc_step N i hi] at qq
      exact qq
    refine x_assign (pint ((8 * i % 6 + 8 : Nat) : Int)) I8 (ev_bin (P1 := pint ((8 * i % 6 : Nat) : Int)) (P2 := pint ((8 : Nat) : Int)) (ev_v I8 rfl) ev_int fun a b h' l o q1 q2 => z_add q1 q2) (.inl rfl) fun s9 I9 => ?_
    refine x_while (m := (8 * i % 6 + 8) / 6) I9 (fun q => [(D, owl (nats (chars N (8 * i / 6 + q))))]) (fun q => [("leftbits", pint ((8 * i % 6 + 8 - 6 * q : Nat) : Int)), ("leftchar", pint ((lc N (i + 1) : Nat) : Int)), ("out", isv (.ref D)), ("newline", isv (.bool false))]) rfl ⟨rfl, rfl, rfl, rfl, trivial⟩ ?_ ?_ fun s10 I10 => ?_
    · intro q s1 hq J
      refine tr_cmp (P1 := pint ((8 * i % 6 + 8 - 6 * q : Nat) : Int)) (P2 := pint ((6 : Nat) : Int)) (ev_v J rfl) ev_int fun a c h' l o q1 q2 => ?_
      refine (z_ge q1 q2).mono fun v g qq => ?_
      have e : decide (((8 * i % 6 + 8 - 6 * q : Nat) : Int) ≥ ((6 : Nat) : Int)) = decide (q < (8 * i % 6 + 8) / 6) := by
        by_cases h : q < (8 * i % 6 + 8) / 6
        · rw [decide_eq_true h]; exact decide_eq_true (by omega)
        · rw [decide_eq_false h]; exact decide_eq_false (by omega)
      rw [e] at qq; exact qq
    · intro q s1 Q3 hq J nx
      have hq6 : q < (8 * i % 6 + 8) / 6 := hq
      refine x_append (d := .int ((b64n.getD (N / 2 ^ (42 - 6 * (8 * i / 6 + q)) % 64) 0 : Nat) : Int)) J rfl ?a (by rw [nats_length, chars_len]; omega) fun s11 J2 => ?b
      case a =>
        refine ev_sub (T := "bytes") (P1 := isv (.bytes (b64n.map fun n => n.toUInt8).toArray tb)) (P2 := pint ((N / 2 ^ (42 - 6 * (8 * i / 6 + q)) % 64 : Nat) : Int)) (ev_g en htb) ?_ (fun a s' ok p => by obtain rfl : a = _ := p; exact PySem.W.typeIs_bytes _ _ _) FB.slot_bytes_getitem.lookup fun a v h' l o q1 q2 => z_getbytes (Nat.mod_lt _ (by decide)) q1 q2
        refine ev_bin (P1 := pint ((lc N (i + 1) / 2 ^ (8 * i % 6 + 8 - 6 * q - 6) : Nat) : Int)) (P2 := pint ((63 : Nat) : Int)) (ev_bin (P1 := pint ((lc N (i + 1) : Nat) : Int)) (P2 := pint ((8 * i % 6 + 8 - 6 * q - 6 : Nat) : Int)) (ev_v J rfl) (ev_bin (P1 := pint ((8 * i % 6 + 8 - 6 * q : Nat) : Int)) (P2 := pint ((6 : Nat) : Int)) (ev_v J rfl) ev_int fun a b h' l o q1 q2 => ?_) fun a b h' l o q1 q2 => ?_) ev_int fun a b h' l o q1 q2 => ?_
        · refine (z_sub q1 q2).mono fun v g qq => ?_
          have e : ((8 * i % 6 + 8 - 6 * q : Nat) : Int) - ((6 : Nat) : Int) = ((8 * i % 6 + 8 - 6 * q - 6 : Nat) : Int) := by omega
          rw [e] at qq; exact qq
        · refine (z_shr q1 q2).mono fun v g qq => ?_
          rw [shr_nat] at qq; exact qq
        · refine (z_and q1 q2).mono fun v g qq => ?_
          rw [show (63 : Nat) = 2 ^ 6 - 1 from rfl, bitAnd_mask, show (2 : Nat) ^ 6 = 64 from rfl, lc_char N i q hi hq6] at qq
          exact qq
      case b =>
        refine x_assign (pint ((8 * i % 6 + 8 - 6 * (q + 1) : Nat) : Int)) J2 (ev_bin (P1 := pint ((8 * i % 6 + 8 - 6 * q : Nat) : Int)) (P2 := pint ((6 : Nat) : Int)) (ev_v J2 rfl) ev_int fun a b h' l o q1 q2 => ?_) (.inl rfl) fun s12 J3 => ?_
        · refine (z_sub q1 q2).mono fun v g qq => ?_
          have e : ((8 * i % 6 + 8 - 6 * q : Nat) : Int) - ((6 : Nat) : Int) = ((8 * i % 6 + 8 - 6 * (q + 1) : Nat) : Int) := by omega
          rw [e] at qq; exact qq
        · refine x_nil (nx s12 ?_)
          have := J3.sub (ρ' := [("leftbits", pint ((8 * i % 6 + 8 - 6 * (q + 1) : Nat) : Int)), ("leftchar", pint ((lc N (i + 1) : Nat) : Int)), ("out", isv (.ref D)), ("newline", isv (.bool false))]) ⟨rfl, rfl, rfl, rfl, trivial⟩
          rw [← Nat.add_assoc, chars_succ, nats_append]
          exact this
    · refine x_nil (next s10 ?_ trivial).1
      have e1 : 8 * i % 6 + 8 - 6 * ((8 * i % 6 + 8) / 6) = 8 * (i + 1) % 6 := by omega
      have e2 : 8 * i / 6 + (8 * i % 6 + 8) / 6 = 8 * (i + 1) / 6 := by omega
      rw [e1, e2] at I10
      exact I10.sub ⟨rfl, rfl, rfl, rfl, trivial⟩
  · rw [ho] at I7
    have e8 : 8 * 6 / 6 = 8 := rfl
    have e0 : 8 * 6 % 6 = 0 := rfl
    refine x_if false I7 (tr_cmp (P1 := pint ((0 : Nat) : Int)) (P2 := pint ((2 : Nat) : Int)) (ev_v I7 rfl) ev_int fun a c h' l o q1 q2 => z_eq emb_int (by omega) hu trivial trivial q1 q2) fun s8 I8 => ?_
    rw [if_neg (by decide)]
    refine x_if false I8 (tr_cmp (P1 := pint ((0 : Nat) : Int)) (P2 := pint ((4 : Nat) : Int)) (ev_v I8 rfl) ev_int fun a c h' l o q1 q2 => z_eq emb_int (by omega) hu trivial trivial q1 q2) fun s9 I9 => ?_
    rw [if_neg (by decide)]
    refine x_nil (x_nil ?_)
    refine x_if false I9 (tr_plain (P := isv (.bool false)) (ev_v I9 rfl) fun a h' l o q => ?_) fun s10 I10 => ?_
    · obtain rfl : a = _ := q
      exact t_bool (g := h') (dat_bool_in false)
    rw [if_neg (by decide)]
    refine x_nil ?_
    have hc : ∀ n ∈ chars N 8, n < 256 := fun n hn => by
      obtain ⟨k, _, rfl⟩ := List.mem_map.mp hn
      have := b64_lt (N / 2 ^ (42 - 6 * k) % 64) (Nat.mod_lt _ (by decide))
      omega
    refine x_return (byt (bysOf (chars N 8))) I10 (ev_call1 (P1 := isv (.ref D)) (ev_g en W.t_bytes) kp_type (ev_v I10 rfl) fun u h' l o q => ?_) fun v s' I' q => fin _ _ _ s' I' (ret_sub q)
    obtain rfl : u = _ := q
    exact z_bytes' R.hh hc (by rw [chars_len]; omega) fun h2 o2 l2 => own_plist I10 (l.trans l2)
end
end Mine

/-! ### Fn13 -/
namespace Mine
open PySem PySem.W PySem.Calls PyProof.Rows PySem.SeqAt

section
variable {prog : Program} {w : World} {A : Around} {F : List Addr} {B : Heap} {S₁ : List Addr} {h h₀ : Heap} {env : Env} {ad : Nat → Addr} {own : List (Addr × Ow)} {ρ : List (Str × Pd)} {s₀ s : Shared} {D : Addr} {ds : List PyData} {t : Tab}

/-- a call with one argument and one keyword -/
theorem ev_callkw {fe e1 e2 : Expr} {kn : Str} {kp pos : Pos} {f : Value} {P1 P2 P : Pd} (x : Ev prog w A F B S₁ h env fe (isv f)) (K : Kp prog w B f) (y : Ev prog w A F B S₁ h env e1 P1) (y2 : Ev prog w A F B S₁ h env e2 P2)
    (z : ∀ v u h', Le F B h h' → Ok A F B S₁ h' → P1 v (fz S₁ h') → P2 u (fz S₁ h') → Do prog w A F B S₁ h' (call f [v] [(kn, u)]) P.p)
    (hl : backTo pos (starEach [e1] env) = [(false, eval e1 env)] := by rfl) (hk : backToKw pos (keywordEach [⟨some kn, e2, kp⟩] env) = [(some kn, do let v ← eval e2 env; standAt pos; pure v)] := by rfl)
    (he : eval (.Call fe [e1] [⟨some kn, e2, kp⟩] pos) env = (do callWith pos (← eval fe env) [] (backTo pos (starEach [e1] env)) (backToKw pos (keywordEach [⟨some kn, e2, kp⟩] env))) := by rfl) : Ev prog w A F B S₁ h env (.Call fe [e1] [⟨some kn, e2, kp⟩] pos) P := by
  show Do _ _ _ _ _ _ _ (eval _ env) _
  rw [he, hl, hk]
  refine x.bind fun v h1 l1 o1 q1 => ?_
  obtain rfl : v = f := q1
  refine do_callWith (PA := fun a g => ∃ v u, a = ⟨[v], [(kn, u)]⟩ ∧ P1 v g ∧ P2 u g) K ?_ fun a h2 l2 o2 q2 => ?_
  · intro s Q E o l k
    refine evalArgs_kw rfl (spliced_cons (y s _ E o (l1.trans l) fun v s1 g1 q1 => spliced_nil ?_))
    have o1 := o.le g1.le
    show wpAny _ _ (evalAll [do let v ← eval e2 env; standAt pos; pure v]) _ _ _
    refine wpAny_evalAll_cons (wpAny_bind (y2 s1 _ E o1 ((l1.trans l).trans g1.le) fun u s2 g2 q2 => wpAny_bind (wpAny_standAt (wpAny_pure (wpAny_evalAll_nil ?_)))))
    exact k _ s2 (g1.trans g2) ⟨v, u, rfl, P1.mono (o1.fz g2.le) q1, q2⟩
  · obtain ⟨v', u, rfl, p1, p2⟩ := q2
    exact z v' u h2 (l1.trans l2) o2 p1 p2
/-- a static method of a type -/
theorem ev_static2 {T id : String} {o e1 e2 : Expr} {name : Str} {apos pos : Pos} {pl : Sem Bool} {P1 P2 P : Pd} (x : Ev prog w A F B S₁ h env o (isv (.type T)))
    (gm : ∀ (s' : Shared) (Q : Value × List Value → Shared → Prop) (E : Value → Shared → Prop), Q (.builtin id, []) { s' with toks := s'.toks + 1 } → wpAny (model prog w) A (getMethod (.type T) name pl) Q E s')
    (y : Ev prog w A F B S₁ h env e1 P1) (y2 : Ev prog w A F B S₁ h env e2 P2)
    (z : ∀ v u h', Le F B h h' → Ok A F B S₁ h' → P1 v (fz S₁ h') → P2 u (fz S₁ h') → Do prog w A F B S₁ h' (call (.builtin id) [v, u] []) P.p)
    (hl : backTo pos (starEach [e1, e2] env) = [(false, eval e1 env), (false, eval e2 env)] := by rfl)
    (he : eval (.Call (.Attribute o name apos) [e1, e2] [] pos) env = (do
      let ov ← eval o env
      standAt apos.atName
      let (f, first) ← PySem.holding [ov] (getMethod ov name pl)
      callWith pos f first (backTo pos (starEach [e1, e2] env)) []) := by rfl) : Ev prog w A F B S₁ h env (.Call (.Attribute o name apos) [e1, e2] [] pos) P := by
  show Do _ _ _ _ _ _ _ (eval _ env) _
  rw [he, hl]
  refine x.bind fun ov h1 l1 o1 q1 => Do.stand ?_
  obtain rfl : ov = .type T := q1
  refine Do.bind (P := fun fx _ => fx = (.builtin id, [])) (fun s Q E o l k => wpAny_holding (gm s Q E (k _ _ (Go.toks _) rfl))) fun fx h2 l2 o2 q2 => ?_
  subst q2
  exact do_callWith kp_builtin (do_evalArgs (R := fun vs g => ∃ v u, vs = [v, u] ∧ P1 v g ∧ P2 u g) (fun _ e => by cases e) ((sp_two y y2).up (l1.trans l2))) fun a h3 l3 o3 q3 => by
    obtain ⟨e, v, u, e2, p1, p2⟩ := q3
    rw [e, e2]
    exact z v u h3 ((l1.trans l2).trans l3) o3 p1 p2

theorem ev_translate {o e1 : Expr} {apos pos : Pos} {pl : Sem Bool} {b f : Array UInt8} (x : Ev prog w A F B S₁ h env o (byt b)) (y : Ev prog w A F B S₁ h env e1 (byt f)) (hf : f.size = 256) (hb : b.size ≤ 1000000)
    (hl : backTo pos (starEach [e1] env) = [(false, eval e1 env)] := by rfl)
    (he : eval (.Call (.Attribute o (Str.ofString "translate") apos) [e1] [] pos) env = (do
      let ov ← eval o env
      standAt apos.atName
      let (f, first) ← PySem.holding [ov] (getMethod ov (Str.ofString "translate") pl)
      callWith pos f first (backTo pos (starEach [e1] env)) []) := by rfl) : Ev prog w A F B S₁ h env (.Call (.Attribute o (Str.ofString "translate") apos) [e1] [] pos) (byt (b.map fun c => f.getD c.toNat c)) :=
  ev_meth1 (id := "bytes.translate") x (fun ov s' Q E ok _ p q => by obtain ⟨t, rfl⟩ := p; exact gm_translate q) y (fun ov v h' l o q1 q2 => by
    obtain ⟨t, rfl⟩ := q1
    obtain ⟨t', rfl⟩ := q2
    exact fun s Q E o l k => call_tr hf hb fun t' n => k _ _ (Go.toks _) ⟨_, rfl⟩) hl he

/-! ## b64encode -/
def alt (c : Nat) : Nat := if c = 43 then 45 else if c = 47 then 95 else c
def sign64 (i : Nat) : Nat := alt (b64n.getD i 0)
def texts (N c : Nat) : List Nat := (List.range c).map fun k => sign64 (N / 2 ^ (42 - 6 * k) % 64)
theorem trans_alt : ∀ i < 64, ((trans [43, 47] [45, 95]).getD ((b64n.getD i 0).toUInt8).toNat (b64n.getD i 0).toUInt8) = (sign64 i).toUInt8 := by decide +kernel
theorem trans_chars (N : Nat) : ((bysOf (chars N 8)).map fun c => (trans [43, 47] [45, 95]).getD c.toNat c) = bysOf (texts N 8) := by
  unfold bysOf chars texts
  rw [List.map_map, List.map_map, List.map_toArray, List.map_map]
  congr 1
  refine List.map_congr_left fun k _ => ?_
  exact trans_alt _ (Nat.mod_lt _ (by decide))

theorem sp_b64 (W : Wd B ad) {n : Nat} (rm : Rm A (n + 3)) {N : Nat} (hN : N < 2 ^ 48) {v u : Value} (p : (byt (bysOf (octs N))) v (fz S₁ h)) (q : (byt [45, 95].toArray) u (fz S₁ h)) :
    Do prog w A F B S₁ h (call (.ref (ad 10)) [v, u] []) (byt (bysOf (texts N 8))).p := by
  obtain ⟨T, oT, nT, fT, hT, dT⟩ := W.b64
  refine do_fn (P := byt (bysOf (texts N 8))) rm fT W.lim ["s", "altchars"] (Ps := [byt (bysOf (octs N)), byt [45, 95].toArray]) ⟨p, q, trivial⟩ ?_ ?_
  · intro name qual kV doc pm ct cd an M A₁ E₁ s₁ Q₁ hb hq
    exact BindsTo.of_defaults (T := T) rfl (hb _ _ hT) dT rfl rfl _ _ _ _ hq
  intro name qual kV doc pm ct cd an L s₁ sb h₀ F' A' env Q' E' henv hA hF hrm hl hfS hal I fin
  have en := I.en
  have R := hrm _ rm
  subst henv
  conv in fb 10 => whnf
  have hsz : sizeLine = 16777216 := rfl
  have hu : A'.units ≤ 6000 := by have := R.un; omega
  refine x_assign (byt (bysOf (chars N 8))) I (ev_callkw (P2 := isv (.bool false)) (ev_g en W.n8) (W.f 8).kp (ev_v I rfl) (Do.mono (ev_true (b := false)) fun v g q => dat_bool q) fun v u h' l o q1 q2 => sp_b2a W R hN q1 q2) (.inl rfl) fun s2 I2 => ?_
  refine x_if true I2 (tr_cmp (P1 := byt [45, 95].toArray) (P2 := isv .none) (ev_v I2 rfl) ev_none fun a c h' l o q1 q2 => ?_) fun s3 I3 => ?_
  · obtain ⟨t, rfl⟩ := q1
    exact z_isnot (g := h') (g' := h') (x := .bytes [45, 95].toArray t) (y := .none) rfl q2
  rw [if_pos rfl]
  refine x_assert I3 (tr_cmp (P1 := pint ((2 : Nat) : Int)) (P2 := pint ((2 : Nat) : Int)) (ev_call1 (ev_g en W.b_len) kp_builtin (ev_v I3 rfl) fun u h' l o q => ?_) ev_int fun a c h' l o q1 q2 => z_eq emb_int (by omega) hu trivial trivial q1 q2) fun s4 I4 => ?_
  · obtain ⟨t, rfl⟩ := q
    exact fun s Q E o l k => len_bytes (by decide) (k _ _ (Go.toks _) ⟨_, .int _ _⟩)
  refine x_return (byt (bysOf (texts N 8))) I4 ?_ fun v s' I' q => fin _ _ _ s' I' (ret_sub q)
  rw [← trans_chars]
  refine ev_translate (ev_v I4 rfl) (ev_static2 (ev_g en W.t_bytes) (fun s' Q E q => gm_maketrans q) ev_bytes (ev_v I4 rfl) fun v u h' l o q1 q2 => ?_) (trans_size _ _) (by unfold bysOf chars; simp)
  obtain ⟨t, rfl⟩ := q1
  obtain ⟨t', rfl⟩ := q2
  exact fun s Q E o l k => call_mk rfl fun t' n => k _ _ (Go.toks _) ⟨_, rfl⟩
end
end Mine

/-! ### Fn14 -/
namespace Mine
open PySem PySem.W PySem.Calls PyProof.Rows PySem.SeqAt

section
variable {prog : Program} {w : World} {A : Around} {F : List Addr} {B : Heap} {S₁ : List Addr} {h h₀ : Heap} {env : Env} {ad : Nat → Addr} {own : List (Addr × Ow)} {ρ : List (Str × Pd)} {s₀ s : Shared} {D : Addr} {ds : List PyData} {t : Tab}

theorem z_sum {l : List Nat} (hh : A.handled = none) {v : Value} (p : (plist (nats l)) v (fz S₁ h)) : Do prog w A F B S₁ h (call (.builtin "sum") [v] []) (pint ((l.sum : Nat) : Int)).p := fun s Q E o lh k => by
  obtain ⟨a, vs, rfl, ⟨ob, e, r⟩, hall⟩ := plist_out p
  have hl' : s.heap.IsList a vs.toArray := ⟨ob, lh.keep _ _ (fz_in e).1 (fun m => (fz_in e).2 (o.fs _ m)), r⟩
  have hi : IntsAre vs (l.map fun n : Nat => (n : Int)) := intsAre_of hall
  obtain ⟨xs, hxs⟩ := hi.allInts.items
  rw [hxs] at hl'
  refine sum_intListG hh hl' fun h' tk t' hk => k _ _ (Go.of_keeps hk) ?_
  have e1 : numsOf vs.toArray.toList = l.map fun n : Nat => (n : Int) := hi.numsOf
  rw [hxs, nums_intItems] at e1
  have e2 : preSum (numAt xs) xs.size = ((l.sum : Nat) : Int) := by
    rw [preSum_eq, List.take_of_length_le (by simp), e1]
    clear e1 hl' hxs hi hall p k
    induction l with
    | nil => rfl
    | cons n l ih => rw [List.map_cons, List.sum_cons, List.sum_cons, ih]; push_cast; rfl
  rw [e2]; exact ⟨_, .int _ _⟩
theorem z_chr {n : Nat} (hn : n < 0x110000) {v : Value} {g : Heap} (p : (pint (n : Int)) v g) : Do prog w A F B S₁ h (call (.builtin "chr") [v] []) (pstr (S [n])).p := fun s Q E o lh k => by
  obtain ⟨t, rfl⟩ := dat_int p
  exact P.chr_of_int (by rw [Bool.or_eq_false_iff]; exact ⟨decide_eq_false (by omega), decide_eq_false (by omega)⟩) (k _ _ (Go.toks _) ⟨_, .str _ _⟩)

def W8 : List Nat := [4398046511104, 68719476736, 1073741824, 16777216, 262144, 4096, 64, 1]
theorem W8_pow : ∀ k < 8, 2 ^ (42 - 6 * k) = W8.getD k 0 := by decide +kernel
def bigN (ss : List Nat) : Nat := (List.zipWith (· * ·) ss W8).sum
theorem zs (a b c d e f g i w0 w1 w2 w3 w4 w5 w6 w7 : Nat) : (List.zipWith (· * ·) [a, b, c, d, e, f, g, i] [w0, w1, w2, w3, w4, w5, w6, w7]).sum = (a * w0 + (b * w1 + (c * w2 + (d * w3 + (e * w4 + (f * w5 + (g * w6 + (i * w7 + 0)))))))) := rfl
theorem bigN_eq (a b c d e f g i : Nat) : bigN [a, b, c, d, e, f, g, i] = (a * 4398046511104 + (b * 68719476736 + (c * 1073741824 + (d * 16777216 + (e * 262144 + (f * 4096 + (g * 64 + (i * 1 + 0)))))))) := zs a b c d e f g i 4398046511104 68719476736 1073741824 16777216 262144 4096 64 1
theorem bigN_lt {ss : List Nat} (hl : ss.length = 8) (hs : ∀ a ∈ ss, a < 64) : bigN ss < 2 ^ 48 := by
  match ss, hl with
  | [a, b, c, d, e, f, g, i], _ =>
    have ha := hs a (by simp)
    have hb := hs b (by simp)
    have hc := hs c (by simp)
    have hd := hs d (by simp)
    have he := hs e (by simp)
    have hf := hs f (by simp)
    have hg := hs g (by simp)
    have hi := hs i (by simp)
    rw [bigN_eq, show (2 : Nat) ^ 48 = 281474976710656 from by decide +kernel]
    omega
theorem texts_W (N : Nat) : texts N 8 = W8.map fun w => sign64 (N / w % 64) := by
  unfold texts
  have e : (List.range 8).map (fun k => sign64 (N / 2 ^ (42 - 6 * k) % 64)) = (List.range 8).map (fun k => sign64 (N / W8.getD k 0 % 64)) := by
    refine List.map_congr_left fun k hk => ?_
    rw [W8_pow k (List.mem_range.mp hk)]
  rw [e]; rfl
theorem d64 (q : Nat) {x : Nat} (h : x < 64) (w : Nat) : (q * 64 + x) / (64 * w) = q / w := by
  rw [← Nat.div_div_eq_div_mul, Nat.mul_comm q 64, Nat.mul_add_div (by decide), Nat.div_eq_of_lt h, Nat.add_zero]
theorem m64 (q : Nat) {x : Nat} (h : x < 64) : (q * 64 + x) / 1 % 64 = x := by
  rw [Nat.div_one, Nat.mul_comm q 64, Nat.mul_add_mod, Nat.mod_eq_of_lt h]
theorem bigN_hor (a b c d e f g i : Nat) : bigN [a, b, c, d, e, f, g, i] = ((((((a * 64 + b) * 64 + c) * 64 + d) * 64 + e) * 64 + f) * 64 + g) * 64 + i := by
  rw [bigN_eq]; omega
theorem texts_big {ss : List Nat} (hl : ss.length = 8) (hs : ∀ a ∈ ss, a < 64) : texts (bigN ss) 8 = ss.map sign64 := by
  match ss, hl with
  | [a, b, c, d, e, f, g, i], _ =>
    have hb := hs b (by simp)
    have hc := hs c (by simp)
    have hd := hs d (by simp)
    have he := hs e (by simp)
    have hf := hs f (by simp)
    have hg := hs g (by simp)
    have hi := hs i (by simp)
    have ha : (a : Nat) / 1 % 64 = a := by rw [Nat.div_one, Nat.mod_eq_of_lt (hs a (by simp))]
    rw [texts_W, bigN_hor]
    have w7 := m64 ((((((a * 64 + b) * 64 + c) * 64 + d) * 64 + e) * 64 + f) * 64 + g) hi
    have w6 := (congrArg (· % 64) (d64 ((((((a * 64 + b) * 64 + c) * 64 + d) * 64 + e) * 64 + f) * 64 + g) hi 1)).trans (m64 (((((a * 64 + b) * 64 + c) * 64 + d) * 64 + e) * 64 + f) hg)
    have w5 := (congrArg (· % 64) ((d64 ((((((a * 64 + b) * 64 + c) * 64 + d) * 64 + e) * 64 + f) * 64 + g) hi (64 * 1)).trans (d64 (((((a * 64 + b) * 64 + c) * 64 + d) * 64 + e) * 64 + f) hg 1))).trans (m64 ((((a * 64 + b) * 64 + c) * 64 + d) * 64 + e) hf)
    have w4 := (congrArg (· % 64) ((d64 ((((((a * 64 + b) * 64 + c) * 64 + d) * 64 + e) * 64 + f) * 64 + g) hi (64 * (64 * 1))).trans ((d64 (((((a * 64 + b) * 64 + c) * 64 + d) * 64 + e) * 64 + f) hg (64 * 1)).trans (d64 ((((a * 64 + b) * 64 + c) * 64 + d) * 64 + e) hf 1)))).trans (m64 (((a * 64 + b) * 64 + c) * 64 + d) he)
    have w3 := (congrArg (· % 64) ((d64 ((((((a * 64 + b) * 64 + c) * 64 + d) * 64 + e) * 64 + f) * 64 + g) hi (64 * (64 * (64 * 1)))).trans ((d64 (((((a * 64 + b) * 64 + c) * 64 + d) * 64 + e) * 64 + f) hg (64 * (64 * 1))).trans ((d64 ((((a * 64 + b) * 64 + c) * 64 + d) * 64 + e) hf (64 * 1)).trans (d64 (((a * 64 + b) * 64 + c) * 64 + d) he 1))))).trans (m64 ((a * 64 + b) * 64 + c) hd)
    have w2 := (congrArg (· % 64) ((d64 ((((((a * 64 + b) * 64 + c) * 64 + d) * 64 + e) * 64 + f) * 64 + g) hi (64 * (64 * (64 * (64 * 1))))).trans ((d64 (((((a * 64 + b) * 64 + c) * 64 + d) * 64 + e) * 64 + f) hg (64 * (64 * (64 * 1)))).trans ((d64 ((((a * 64 + b) * 64 + c) * 64 + d) * 64 + e) hf (64 * (64 * 1))).trans ((d64 (((a * 64 + b) * 64 + c) * 64 + d) he (64 * 1)).trans (d64 ((a * 64 + b) * 64 + c) hd 1)))))).trans (m64 (a * 64 + b) hc)
    have w1 := (congrArg (· % 64) ((d64 ((((((a * 64 + b) * 64 + c) * 64 + d) * 64 + e) * 64 + f) * 64 + g) hi (64 * (64 * (64 * (64 * (64 * 1)))))).trans ((d64 (((((a * 64 + b) * 64 + c) * 64 + d) * 64 + e) * 64 + f) hg (64 * (64 * (64 * (64 * 1))))).trans ((d64 ((((a * 64 + b) * 64 + c) * 64 + d) * 64 + e) hf (64 * (64 * (64 * 1)))).trans ((d64 (((a * 64 + b) * 64 + c) * 64 + d) he (64 * (64 * 1))).trans ((d64 ((a * 64 + b) * 64 + c) hd (64 * 1)).trans (d64 (a * 64 + b) hc 1))))))).trans (m64 a hb)
    have w0 := (congrArg (· % 64) ((d64 ((((((a * 64 + b) * 64 + c) * 64 + d) * 64 + e) * 64 + f) * 64 + g) hi (64 * (64 * (64 * (64 * (64 * (64 * 1))))))).trans ((d64 (((((a * 64 + b) * 64 + c) * 64 + d) * 64 + e) * 64 + f) hg (64 * (64 * (64 * (64 * (64 * 1)))))).trans ((d64 ((((a * 64 + b) * 64 + c) * 64 + d) * 64 + e) hf (64 * (64 * (64 * (64 * 1))))).trans ((d64 (((a * 64 + b) * 64 + c) * 64 + d) he (64 * (64 * (64 * 1)))).trans ((d64 ((a * 64 + b) * 64 + c) hd (64 * (64 * 1))).trans ((d64 (a * 64 + b) hc (64 * 1)).trans (d64 a hb 1)))))))).trans ha
    have key : ∀ {x0 x1 x2 x3 x4 x5 x6 x7 : Nat}, x0 = a → x1 = b → x2 = c → x3 = d → x4 = e → x5 = f → x6 = g → x7 = i → [sign64 x0, sign64 x1, sign64 x2, sign64 x3, sign64 x4, sign64 x5, sign64 x6, sign64 x7] = [a, b, c, d, e, f, g, i].map sign64 := by
      intro x0 x1 x2 x3 x4 x5 x6 x7 h0 h1 h2 h3 h4 h5 h6 h7
      rw [h0, h1, h2, h3, h4, h5, h6, h7]; rfl
    exact key w0 w1 w2 w3 w4 w5 w6 w7
end
end Mine

/-! ### Fn15 -/
namespace Mine
open PySem PySem.W PySem.Calls PyProof.Rows PySem.SeqAt

section
variable {prog : Program} {w : World} {A : Around} {F : List Addr} {B : Heap} {S₁ : List Addr} {h h₀ : Heap} {env : Env} {ad : Nat → Addr} {own : List (Addr × Ow)} {ρ : List (Str × Pd)} {s₀ s : Shared} {D : Addr} {ds : List PyData} {t : Tab}

theorem sp_E {e : Expr} {rest : List (Bool × Sem Value)} {d : PyData} {ds : List PyData} (x : Ev prog w A F B S₁ h env e (dat d)) (y : Do prog w A F B S₁ h (spliced rest) (all ds)) :
    Do prog w A F B S₁ h (spliced ((false, eval e env) :: rest)) (all (d :: ds)) := sp_dats_cons x y
theorem joinL_sings (l : List Nat) : joinL [] (l.map fun c => [c]) = l := by
  induction l with
  | nil => rfl
  | cons a l ih =>
    cases l with
    | nil => rfl
    | cons b l =>
      show [a] ++ [] ++ joinL [] ((b :: l).map fun c => [c]) = _
      rw [ih]; rfl
theorem zip_range (ss : List Nat) (hl : ss.length = 8) : (List.range ss.length).map (fun k => (ss[k]?.getD 0) * 2 ^ (42 - 6 * k)) = List.zipWith (· * ·) ss W8 := by
  match ss, hl with
  | [a, b, c, d, e, f, g, i], _ =>
    have e1 : (List.range 8).map (fun k => (([a, b, c, d, e, f, g, i] : List Nat)[k]?.getD 0) * 2 ^ (42 - 6 * k)) = (List.range 8).map (fun k => (([a, b, c, d, e, f, g, i] : List Nat)[k]?.getD 0) * W8.getD k 0) := by
      refine List.map_congr_left fun k hk => ?_
      rw [W8_pow k (List.mem_range.mp hk)]
    show (List.range 8).map _ = _
    rw [e1]
    unfold W8
    simp [List.range_succ]
theorem sign64_lt : ∀ i < 64, sign64 i < 256 := by decide +kernel
def k6 : List Nat := [40, 32, 24, 16, 8, 0]
theorem octs_k6 (N : Nat) : octs N = k6.map fun k => N / 2 ^ k % 256 := by
  unfold octs k6
  simp [List.range_succ]

set_option maxHeartbeats 1000000 in
theorem sp_text (W : Wd B ad) {n : Nat} (rm : Rm A (n + 4)) {ss : List Nat} (hl : ss.length = 8) (hs : ∀ a ∈ ss, a < 64) {v : Value} (p : (plist (nats ss)) v (fz S₁ h)) :
    Do prog w A F B S₁ h (call (.ref (ad 29)) [v] []) (pstr (S (ss.map sign64))).p := by
  refine do_fn (P := pstr (S (ss.map sign64))) rm (W.f 29) W.lim ["sixes"] (Ps := [plist (nats ss)]) ⟨p, trivial⟩ ?_ ?_
  · intros; exact BindsTo.of_eq rfl _ _ _ _ (by assumption)
  intro name qual kV doc pm ct cd an L s₁ sb h₀ F' A' env Q' E' henv hA hF hrm hle hfS hal I fin
  have en := I.en
  have R := hrm _ rm
  subst henv
  conv in fb 29 => whnf
  have hsz : sizeLine = 16777216 := rfl
  have hN := bigN_lt hl hs
  refine x_assign (pint ((bigN ss : Nat) : Int)) I (ev_call1 (P1 := plist (nats (List.zipWith (· * ·) ss W8))) (ev_g en W.b_sum) kp_builtin ?a fun u h' l o q => z_sum R.hh q) (.inr ⟨rfl, _, rfl⟩) fun s2 I2 => ?b
  case a =>
    refine ev_listcomp (n := (nats ss).length) (item := fun i => itwo (.int (i : Int)) ((nats ss)[i]?.getD .none)) (fun i => vtwo "k" "six" (.int (i : Int)) (.int ((ss[i]?.getD 0 : Nat) : Int))) (fun _ => true) (fun i => .int ((ss[i]?.getD 0 * 2 ^ (42 - 6 * i) : Nat) : Int)) (itr_enumerate R.hh (ev_g en W.t_enumerate) (ev_v I rfl)) (fun i hi => ?_) (fun i S' h' C hi T => do_tests_nil) (fun i S' h' C hi _ T => ?_) (fun i m g g' k q => vtwo_mono k q) ?_ (by rw [nats_length]; omega)
    · rw [nats_get (by rw [nats_length] at hi; exact hi)]
      exact asg_two R.hh (fun _ => rfl) (fun _ => rfl) (fun _ => rfl) (fun _ => rfl) (by decide +kernel)
    · rw [nats_length, hl] at hi
      have h64 : ss[i]?.getD 0 < 64 := by rw [List.getElem?_eq_getElem (by omega)]; exact hs _ (List.getElem_mem _)
      refine ev_bin (P1 := pint ((ss[i]?.getD 0 : Nat) : Int)) (P2 := pint ((42 - 6 * i : Nat) : Int)) (ev_n en.comp T.snd) (ev_bin (P1 := pint ((42 : Nat) : Int)) (P2 := pint ((6 * i : Nat) : Int)) ev_int (ev_bin (P1 := pint ((6 : Nat) : Int)) (P2 := pint (i : Int)) ev_int (ev_n en.comp T.fst) fun a b h' l o q1 q2 => ?_) fun a b h' l o q1 q2 => ?_) fun a b h' l o q1 q2 => ?_
      · refine (z_mul q1 q2 (IntMulOk.of_left (by decide +kernel))).mono fun v g qq => ?_
        · have e : ((6 : Nat) : Int) * (i : Int) = ((6 * i : Nat) : Int) := by push_cast; rfl
          rw [e] at qq; exact qq
      · refine (z_sub q1 q2).mono fun v g qq => ?_
        have e : ((42 : Nat) : Int) - ((6 * i : Nat) : Int) = ((42 - 6 * i : Nat) : Int) := by omega
        rw [e] at qq; exact qq
      · refine (z_shl q1 q2 ?_).mono fun v g qq => ?_
        · have := bits_small (x := ss[i]?.getD 0) (Nat.lt_trans h64 (by decide +kernel))
          omega
        · have e : ((ss[i]?.getD 0 : Nat) : Int) * 2 ^ (42 - 6 * i) = ((ss[i]?.getD 0 * 2 ^ (42 - 6 * i) : Nat) : Int) := by push_cast; rfl
          rw [e] at qq; exact qq
    · rw [keep_all, nats_length, ← zip_range ss hl]
      unfold nats
      rw [List.map_map]; rfl
  case b =>
    refine x_asg_comp (n := k6.length) (item := fun i => ione (.int ((k6[i]?.getD 0 : Nat) : Int))) I2 (fun i => vone "k" (.int ((k6[i]?.getD 0 : Nat) : Int))) (fun _ => true) (fun i => .int ((bigN ss / 2 ^ (k6[i]?.getD 0) % 256 : Nat) : Int)) (itr_nats R.hh ?lst) (fun i hi => asg_one (fun _ => rfl) (fun _ => rfl) (fun _ => rfl)) (fun i S' h' C hi T => do_tests_nil) (fun i S' h' C hi _ T => ?_) (fun i m g g' k q => vone_mono k q) (l := nats (octs (bigN ss))) ?_ (by show 6 ≤ sizeLine; decide) (.inl rfl) fun s3 I3 => ?_
    case lst =>
      refine ev_list (ds := nats k6) (hl := rfl) ?_ (by show 6 ≤ sizeLine; decide)
      exact sp_E ev_int (sp_E ev_int (sp_E ev_int (sp_E ev_int (sp_E ev_int (sp_E ev_int sp_dats_nil)))))
    · refine ev_bin (P1 := pint ((bigN ss / 2 ^ (k6[i]?.getD 0) : Nat) : Int)) (P2 := pint ((255 : Nat) : Int)) (ev_bin (P1 := pint ((bigN ss : Nat) : Int)) (P2 := pint ((k6[i]?.getD 0 : Nat) : Int)) (ev_n en.comp (T.free (I2.var (x := "bits") rfl))) (ev_n en.comp T.one) fun a b h' l o q1 q2 => ?_) ev_int fun a b h' l o q1 q2 => ?_
      · refine (z_shr q1 q2).mono fun v g qq => ?_
        rw [shr_nat] at qq; exact qq
      · refine (z_and q1 q2).mono fun v g qq => ?_
        rw [show (255 : Nat) = 2 ^ 8 - 1 from rfl, bitAnd_mask, show (2 : Nat) ^ 8 = 256 from rfl] at qq
        exact qq
    · rw [keep_all, octs_k6]
      have := range_get (fun k : Nat => PyData.int ((bigN ss / 2 ^ k % 256 : Nat) : Int)) 0 k6
      rw [this]; unfold nats; rw [List.map_map]; rfl
    · have ht : ∀ c ∈ texts (bigN ss) 8, c < 256 := fun c hc => by
        obtain ⟨k, _, rfl⟩ := List.mem_map.mp hc
        exact sign64_lt _ (Nat.mod_lt _ (by decide))
      have htl : (texts (bigN ss) 8).length = 8 := by unfold texts; simp
      have hj : joinL [] ((texts (bigN ss) 8).map fun c => [c]) = ss.map sign64 := by rw [joinL_sings, texts_big hl hs]
      rw [← hj] at fin
      refine x_return (pstr (S (joinL [] ((texts (bigN ss) 8).map fun c => [c])))) I3 (ev_join (ev_S []) ?_ ?_) fun v s' I' q => fin _ _ _ s' I' (ret_sub q)
      · refine ev_listcomp (n := (texts (bigN ss) 8).length) (item := fun i => ione (.int (((texts (bigN ss) 8)[i]?.getD 0 : Nat) : Int))) (fun i => vone "octet" (.int (((texts (bigN ss) 8)[i]?.getD 0 : Nat) : Int))) (fun _ => true) (fun i => .str (S [(texts (bigN ss) 8)[i]?.getD 0])) (itr_bys R.hh ht ?_) (fun i hi => asg_one (fun _ => rfl) (fun _ => rfl) (fun _ => rfl)) (fun i S' h' C hi T => do_tests_nil) (fun i S' h' C hi _ T => ?_) (fun i m g g' k q => vone_mono k q) ?_ (by rw [htl]; omega)
        · obtain ⟨T, oT, nT, fT, hT, dT⟩ := W.b64
          refine ev_call2 (P1 := byt (bysOf (octs (bigN ss)))) (P2 := byt [45, 95].toArray) (ev_g en W.n10) fT.kp (ev_call1 (ev_g en W.t_bytes) kp_type (ev_v I3 rfl) fun u h' l o q => z_bytes R.hh (octs_lt _) (by unfold octs; simp) q) ev_bytes fun v u h' l o q1 q2 => sp_b64 W R hN q1 q2
        · refine ev_call1 (P1 := pint (((texts (bigN ss) 8)[i]?.getD 0 : Nat) : Int)) (ev_g en.comp W.b_chr) kp_builtin (ev_n en.comp T.one) fun u h' l o q => z_chr ?_ q
          have := ht ((texts (bigN ss) 8)[i]?.getD 0) (by rw [List.getElem?_eq_getElem hi]; exact List.getElem_mem _)
          omega
        · rw [keep_all, range_get (fun c => PyData.str (S [c]))]
          unfold txs; rw [List.map_map]; rfl
      · have := sum_map_const (List.length ∘ fun c : Nat => [c]) 1 (fun _ => rfl) (texts (bigN ss) 8)
        rw [List.map_map, this, List.length_map, htl]; decide
end
end Mine

/-! ### Fn16 -/
namespace Mine
open PySem PySem.W PySem.Calls PyProof.Rows PySem.SeqAt

def own9 : List Nat := [2, 2, 1, 1, 2, 1, 1, 2, 62]
def catL (ns : List Int) : List Int := ns.take 9 ++ (own9.drop ns.length).map fun n : Nat => (n : Int)
def numsL (ns : List Int) : List Nat := (catL ns).map Int.natAbs
theorem nopy64 (x : Int) : Builtin.divisionGoesByPylong x ((64 : Nat) : Int) = false := by
  unfold Builtin.divisionGoesByPylong
  rw [Bool.and_eq_false_iff]
  left
  decide +kernel
theorem nopy1984 (x : Int) : Builtin.divisionGoesByPylong x ((1984 : Nat) : Int) = false := by
  unfold Builtin.divisionGoesByPylong
  rw [Bool.and_eq_false_iff]
  left
  decide +kernel
def loY (y : Nat) : Nat := y % 64
def miY (y : Nat) : Nat := loY y + y / 64 % 31 + 1
def hiY (y : Nat) : Nat := miY y + y / 1984 % 31 + 1
def sixOf (y x : Nat) : Nat := [loY y, miY y % 64, hiY y % 64].getD (x % 3) 0
def sixes (ns : List Int) : List Nat := ((numsL ns).take 8).map (sixOf ((numsL ns).getD 8 0))
theorem numsL_len (ns : List Int) : (numsL ns).length = 9 := by
  unfold numsL catL own9; simp; omega
theorem sixes_len (ns : List Int) : (sixes ns).length = 8 := by
  unfold sixes; rw [List.length_map, List.length_take, numsL_len]; rfl
def intsD (l : List Int) : List PyData := l.map PyData.int
theorem fmod_nat (x y : Nat) : (x : Int).fmod (y : Int) = ((x % y : Nat) : Int) := by rw [Int.fmod_eq_emod_of_nonneg _ (Int.natCast_nonneg _)]; rfl
theorem fdiv_nat (x y : Nat) : (x : Int).fdiv (y : Int) = ((x / y : Nat) : Int) := by rw [Int.fdiv_eq_ediv_of_nonneg _ (Int.natCast_nonneg _)]; rfl

section
variable {prog : Program} {w : World} {A : Around} {F : List Addr} {B : Heap} {S₁ : List Addr} {h h₀ : Heap} {env : Env} {ad : Nat → Addr} {own : List (Addr × Ow)} {ρ : List (Str × Pd)} {s₀ s : Shared} {D : Addr} {ds : List PyData} {t : Tab}

theorem z_abs {i : Int} {v : Value} {g : Heap} (p : (pint i) v g) : Do prog w A F B S₁ h (call (.builtin "abs") [v] []) (pint ((i.natAbs : Nat) : Int)).p := fun s Q E o l k => by
  obtain ⟨t, rfl⟩ := dat_int p
  refine call_abs_int fun u tk => k _ _ (Go.toks _) ?_
  have : (if i < 0 then -i else i) = ((i.natAbs : Nat) : Int) := by split <;> omega
  rw [this]; exact ⟨_, .int _ _⟩

set_option maxHeartbeats 1000000 in
theorem sp_sixes (W : Wd B ad) {n : Nat} (rm : Rm A (n + 1)) {ns : List Int} (hln : ns.length ≤ 1000) {v : Value} (p : (plist (intsD ns)) v (fz S₁ h)) :
    Do prog w A F B S₁ h (call (.ref (ad 28)) [v] []) (plist (nats (sixes ns))).p := by
  refine do_fn (P := plist (nats (sixes ns))) rm (W.f 28) W.lim ["script"] (Ps := [plist (intsD ns)]) ⟨p, trivial⟩ ?_ ?_
  · intros; exact BindsTo.of_eq rfl _ _ _ _ (by assumption)
  intro name qual kV doc pm ct cd an L s₁ sb h₀ F' A' env Q' E' henv hA hF hrm hle hfS hal I fin
  have en := I.en
  have R := hrm _ rm
  subst henv
  conv in fb 28 => whnf
  have hsz : sizeLine = 16777216 := rfl
  have hln' : (intsD ns).length = ns.length := by unfold intsD; simp
  have h9 := numsL_len ns
  generalize hE : Expr.List [Expr.Constant (.int 2) 0 ⟨185, 11, 185, 12⟩, Expr.Constant (.int 2) 0 ⟨185, 14, 185, 15⟩, Expr.Constant (.int 1) 0 ⟨185, 17, 185, 18⟩, Expr.Constant (.int 1) 0 ⟨185, 20, 185, 21⟩, Expr.Constant (.int 2) 0 ⟨185, 23, 185, 24⟩, Expr.Constant (.int 1) 0 ⟨185, 26, 185, 27⟩, Expr.Constant (.int 1) 0 ⟨185, 29, 185, 30⟩, Expr.Constant (.int 2) 0 ⟨185, 32, 185, 33⟩, Expr.Constant (.int 62) 0 ⟨185, 35, 185, 37⟩] ⟨185, 10, 185, 38⟩ = e0
  refine x_assign (plist (nats own9)) I (by
    subst hE
    refine ev_list (ds := nats own9) (hl := rfl) ?_ (by show 9 ≤ sizeLine; decide)
    exact sp_E ev_int (sp_E ev_int (sp_E ev_int (sp_E ev_int (sp_E ev_int (sp_E ev_int (sp_E ev_int (sp_E ev_int (sp_E ev_int sp_dats_nil))))))))) (.inl rfl) (fun s2 I2 => ?_) (by subst hE; rfl)
  have hcat : (catL ns).length = 9 := by
    have := h9; unfold numsL at this; rw [List.length_map] at this; exact this
  refine x_asg_comp (n := (intsD (catL ns)).length) (item := fun i => ione ((intsD (catL ns))[i]?.getD .none)) I2 (fun i => vone "x" (.int ((catL ns)[i]?.getD 0))) (fun _ => true) (fun i => .int ((((catL ns)[i]?.getD 0).natAbs : Nat) : Int)) (itr_list R.hh ?lst) (fun i hi => ?a) (fun i S' h' C hi T => do_tests_nil) (fun i S' h' C hi _ T => ?b) (fun i m g g' k q => vone_mono k q) (l := nats (numsL ns)) ?c (by unfold intsD; rw [List.length_map, hcat]; decide) (.inl rfl) fun s3 I3 => ?d
  case lst =>
    refine ev_bin (P1 := plist (sub none (some 9) (intsD ns))) (P2 := plist (sub (some ns.length) none (nats own9))) (ev_sublist (ev_v I2 rfl) (ev_slice part_none (part_some ev_int) part_none) fun a i h' l o q1 q2 => z_slice_list (lo := none) (hi := some 9) q1 q2 (by omega)) (ev_sublist (ev_v I2 rfl) (ev_slice (part_some (ev_call1 (ev_g en W.b_len) kp_builtin (ev_v I2 rfl) fun u h' l o q => ?_)) part_none part_none) fun a i h' l o q1 q2 => z_slice_list (lo := some ns.length) (hi := none) q1 q2 (by decide)) fun a b h' l o q1 q2 => ?_
    · have := z_len_list (prog := prog) (w := w) (A := A') (F := F') (B := B) q (by omega)
      rw [hln'] at this; exact this
    · refine (z_addlist q1 q2 ?_).mono fun v g qq => ?_
      · unfold sub intsD nats; simp [own9]; omega
      · have e : sub none (some 9) (intsD ns) ++ sub (some ns.length) none (nats own9) = intsD (catL ns) := by
          unfold sub intsD nats catL
          simp [List.map_take, List.map_drop]
          rw [List.take_of_length_le (by simp)]; rfl
        rw [e] at qq; exact qq
  case a =>
    have hi' : i < (catL ns).length := by unfold intsD at hi; rw [List.length_map] at hi; exact hi
    have e : (intsD (catL ns))[i]?.getD .none = .int ((catL ns)[i]?.getD 0) := by
      unfold intsD
      rw [List.getElem?_map, List.getElem?_eq_getElem hi']; rfl
    rw [e]
    exact asg_one (fun _ => rfl) (fun _ => rfl) (fun _ => rfl)
  case b => exact ev_call1 (P1 := pint ((catL ns)[i]?.getD 0)) (ev_g en.comp W.b_abs) kp_builtin (ev_n en.comp T.one) fun u h' l o q => z_abs q
  case c =>
    rw [keep_all]
    unfold intsD
    rw [List.length_map, range_get (fun x : Int => PyData.int ((x.natAbs : Nat) : Int)) 0]
    unfold nats numsL
    rw [List.map_map]; rfl
  case d =>
    have e8 : (nats (numsL ns))[8]? = some (.int (((numsL ns).getD 8 0 : Nat) : Int)) := by
      unfold nats
      rw [List.getElem?_map, List.getElem?_eq_getElem (by omega), List.getD_eq_getElem?_getD, List.getElem?_eq_getElem (by omega)]; rfl
    generalize hy : (numsL ns).getD 8 0 = y at e8
    have get8 : ∀ {ρ2 : List (Str × Pd)} {s4 : Shared} {p1 p2 p3 : Pos} {k : Nat} (J : St A' F' B h₀ S₁ (callEnvC (fdOf 28 name qual Value.none kV doc pm ct cd an) L (ad 28)) [] ρ2 sb s4), List.lookup ("numbers" : Str) ρ2 = some (plist (nats (numsL ns))) →
        Ev prog w A' F' B (SS (callEnvC (fdOf 28 name qual Value.none kV doc pm ct cd an) L (ad 28)) [] S₁) s4.heap (callEnvC (fdOf 28 name qual Value.none kV doc pm ct cd an) L (ad 28)) (.Subscript (.Name "numbers" p1) (.Constant (.int 8) k p2) p3) (pint (y : Int)) := fun J hJ =>
      ev_sublist (P2 := pint ((8 : Nat) : Int)) (ev_v J hJ) ev_int fun a i h' l o q1 q2 => z_get_list q1 q2 e8 (by rw [nats_length]; omega)
    refine x_assign (pint ((loY y : Nat) : Int)) I3 (ev_bin (P1 := pint (y : Int)) (P2 := pint ((64 : Nat) : Int)) (get8 I3 rfl) ev_int fun a b h' l o q1 q2 => (z_mod q1 q2 (by decide)).mono fun v g qq => by rw [fmod_nat] at qq; exact qq) (.inr ⟨rfl, _, rfl⟩) fun s4 I4 => ?_
    refine x_assign (pint ((miY y : Nat) : Int)) I4 (ev_bin (P1 := pint ((loY y + y / 64 % 31 : Nat) : Int)) (P2 := pint ((1 : Nat) : Int)) (ev_bin (P1 := pint ((loY y : Nat) : Int)) (P2 := pint ((y / 64 % 31 : Nat) : Int)) (ev_v I4 rfl) (ev_bin (P1 := pint ((y / 64 : Nat) : Int)) (P2 := pint ((31 : Nat) : Int)) (ev_bin (P1 := pint (y : Int)) (P2 := pint ((64 : Nat) : Int)) (get8 I4 rfl) ev_int fun a b h' l o q1 q2 => (z_div q1 q2 (by decide) (nopy64 _)).mono fun v g qq => by rw [fdiv_nat] at qq; exact qq) ev_int fun a b h' l o q1 q2 => (z_mod q1 q2 (by decide)).mono fun v g qq => by rw [fmod_nat] at qq; exact qq) fun a b h' l o q1 q2 => z_add q1 q2) ev_int fun a b h' l o q1 q2 => z_add q1 q2) (.inr ⟨rfl, _, rfl⟩) fun s5 I5 => ?_
    refine x_assign (pint ((hiY y : Nat) : Int)) I5 (ev_bin (P1 := pint ((miY y + y / 1984 % 31 : Nat) : Int)) (P2 := pint ((1 : Nat) : Int)) (ev_bin (P1 := pint ((miY y : Nat) : Int)) (P2 := pint ((y / 1984 % 31 : Nat) : Int)) (ev_v I5 rfl) (ev_bin (P1 := pint ((y / 1984 : Nat) : Int)) (P2 := pint ((31 : Nat) : Int)) (ev_bin (P1 := pint (y : Int)) (P2 := pint ((1984 : Nat) : Int)) (get8 I5 rfl) ev_int fun a b h' l o q1 q2 => (z_div q1 q2 (by decide) (nopy1984 _)).mono fun v g qq => by rw [fdiv_nat] at qq; exact qq) ev_int fun a b h' l o q1 q2 => (z_mod q1 q2 (by decide)).mono fun v g qq => by rw [fmod_nat] at qq; exact qq) fun a b h' l o q1 q2 => z_add q1 q2) ev_int fun a b h' l o q1 q2 => z_add q1 q2) (.inr ⟨rfl, _, rfl⟩) fun s6 I6 => ?_
    refine x_return (plist (nats (sixes ns))) I6 ?_ fun v s' I' q => fin _ _ _ s' I' (ret_sub q)
    have hl8 : ((numsL ns).take 8).length = 8 := by rw [List.length_take, h9]; rfl
    refine ev_listcomp (n := (nats ((numsL ns).take 8)).length) (item := fun i => ione ((nats ((numsL ns).take 8))[i]?.getD .none)) (fun i => vone "x" (.int ((((numsL ns).take 8)[i]?.getD 0 : Nat) : Int))) (fun _ => true) (fun i => .int ((sixOf y (((numsL ns).take 8)[i]?.getD 0) : Nat) : Int)) (itr_list R.hh ?lst) (fun i hi => ?a) (fun i S' h' C hi T => do_tests_nil) (fun i S' h' C hi _ T => ?b) (fun i m g g' k q => vone_mono k q) ?c (by rw [nats_length, hl8]; decide)
    case lst =>
      refine ev_sublist (ev_v I6 rfl) (ev_slice part_none (part_some ev_int) part_none) fun a i h' l o q1 q2 => (z_slice_list (lo := none) (hi := some 8) q1 q2 (by rw [nats_length, h9]; decide)).mono fun v g qq => ?_
      have e : sub none (some 8) (nats (numsL ns)) = nats ((numsL ns).take 8) := by
        unfold sub nats
        simp [List.map_take]
      rw [e] at qq; exact qq
    case a =>
      have hi' : i < ((numsL ns).take 8).length := by rw [nats_length] at hi; exact hi
      have e : (nats ((numsL ns).take 8))[i]?.getD .none = .int ((((numsL ns).take 8)[i]?.getD 0 : Nat) : Int) := by
        unfold nats
        rw [List.getElem?_map, List.getElem?_eq_getElem hi']; rfl
      rw [e]
      exact asg_one (fun _ => rfl) (fun _ => rfl) (fun _ => rfl)
    case b =>
      generalize ((numsL ns).take 8)[i]?.getD 0 = x at T ⊢
      refine ev_sublist (P2 := pint ((x % 3 : Nat) : Int)) (ev_list (ds := nats [loY y, miY y % 64, hiY y % 64]) (hl := rfl) ?_ (by show 3 ≤ sizeLine; decide)) (ev_bin (P1 := pint (x : Int)) (P2 := pint ((3 : Nat) : Int)) (ev_n en.comp T.one) ev_int fun a b h' l o q1 q2 => (z_mod q1 q2 (by decide)).mono fun v g qq => by rw [fmod_nat] at qq; exact qq) fun a i h' l o q1 q2 => z_get_list q1 q2 ?_ (by show 3 ≤ sizeLine; decide)
      · refine sp_E (ev_n en.comp (T.free (I6.var (x := "low") rfl))) (sp_E (ev_bin (P1 := pint ((miY y : Nat) : Int)) (P2 := pint ((64 : Nat) : Int)) (ev_n en.comp (T.free (I6.var (x := "mid") rfl))) ev_int fun a b h' l o q1 q2 => (z_mod q1 q2 (by decide)).mono fun v g qq => by rw [fmod_nat] at qq; exact qq) (sp_E (ev_bin (P1 := pint ((hiY y : Nat) : Int)) (P2 := pint ((64 : Nat) : Int)) (ev_n en.comp (T.free (I6.var (x := "high") rfl))) ev_int fun a b h' l o q1 q2 => (z_mod q1 q2 (by decide)).mono fun v g qq => by rw [fmod_nat] at qq; exact qq) sp_dats_nil))
      · have h3 : x % 3 < 3 := Nat.mod_lt _ (by decide)
        unfold sixOf nats
        rw [List.getElem?_map, List.getElem?_eq_getElem h3, List.getD_eq_getElem?_getD, List.getElem?_eq_getElem h3]; rfl
    case c =>
      rw [keep_all, nats_length, range_get (fun x : Nat => PyData.int ((sixOf y x : Nat) : Int)) 0]
      unfold nats sixes
      rw [List.map_map, hy]; rfl
end
end Mine

/-! ### Fa8 -/
namespace Mine
open PySem PySem.W PySem.Calls PyProof.Rows PySem.SeqAt
open AutoSeq1 (wpAny_loadPart')

theorem owner_map : Manifest.owners.lookup (String.ofList ['p', 'a', 'm'].reverse) = some Manifest.sig_map := by kernel_rfl
theorem slot_map_next : Slot "map" "__next__" "map.__next__" :=
  .of (owner := "map") (n := "__next__") (by rw [typeLookup_type, builtinLookup_eq_fast]; kernel_rfl) (by decide +kernel) (by decide +kernel) (by decide +kernel)
    (by first | exact .inl (by decide +kernel) | exact .inr (by decide +kernel)) (by rw [isSubtype_type]; kernel_rfl)
theorem entry_map_next : entryFor table "map.__next__" = some Builtin.«map.__next__» := entryFor_of_tree (by kernel_rfl)
theorem args_map_next_1 (a : Value) : argsOk "map.__next__" ⟨[a], []⟩ := by
  unfold argsOk; rw [signature?_of (id := "map.__next__") (n := ['_', '_', 't', 'x', 'e', 'n', '_', '_']) (o := ['p', 'a', 'm']) (by kernel_rfl) owner_map]; kernel_rfl
theorem slot_map_iter : Slot "map" "__iter__" "map.__iter__" :=
  .of (owner := "map") (n := "__iter__") (by rw [typeLookup_type, builtinLookup_eq_fast]; kernel_rfl) (by decide +kernel) (by decide +kernel) (by decide +kernel)
    (by first | exact .inl (by decide +kernel) | exact .inr (by decide +kernel)) (by rw [isSubtype_type]; kernel_rfl)
theorem args_map_iter_1 (a : Value) : argsOk "map.__iter__" ⟨[a], []⟩ := by
  unfold argsOk; rw [signature?_of (id := "map.__iter__") (n := ['_', '_', 'r', 'e', 't', 'i', '_', '_']) (o := ['p', 'a', 'm']) (by kernel_rfl) owner_map]; kernel_rfl
theorem slot_map_init : Slot "map" "__init__" "object.__init__" :=
  .of (owner := "object") (n := "__init__") (by rw [typeLookup_type, builtinLookup_eq_fast]; kernel_rfl) (by decide +kernel) (by decide +kernel) (by decide +kernel)
    (by first | exact .inl (by decide +kernel) | exact .inr (by decide +kernel)) (by rw [isSubtype_type]; kernel_rfl)
theorem map_no_len : typeLookup (.type "map") "__len__" = pure none := by rw [typeLookup_type, builtinLookup_eq_fast]; kernel_rfl
theorem map_no_hint : typeLookup (.type "map") "__length_hint__" = pure none := by rw [typeLookup_type, builtinLookup_eq_fast]; kernel_rfl
theorem mro_map : mroOf (.type "map") = pure [.type "map", .type "object"] := by rw [mroOf_type]; kernel_rfl
theorem lookup_map_new : typeLookup (.type "map") "__new__" = pure (some (.builtin "map.__new__")) := by rw [typeLookup_type, builtinLookup_eq_fast]; kernel_rfl
theorem called_map : TypeCalled "map" "map.__new__" "object.__init__" :=
  ⟨by decide +kernel, by decide +kernel, ⟨_, _, mro_map⟩, madeBy_type mro_map lookup_map_new (by decide +kernel), by decide +kernel, by rw [isSubtype_type]; kernel_rfl, slot_map_init⟩
theorem typeCall_map_2 (a b : Value) : checkTypeCall "map" ⟨[a, b], []⟩ = pure () := by kernel_rfl
theorem newCall_map_2 (a b : Value) : checkBuiltinCall "map.__new__" ⟨[.type "map", a, b], []⟩ = pure () := by kernel_rfl
theorem entry_map_new : entryFor table "map.__new__" = some Builtin.«map.__new__» := entryFor_of_tree (by kernel_rfl)
theorem args_object_init_3 (a b c : Value) : argsOk "object.__init__" ⟨[a, b, c], []⟩ := by
  first | exact F.args_object_init_3 a b c | (unfold argsOk; kernel_rfl)
theorem entry_map_iter : entryFor table "map.__iter__" = some Builtin.«dict_keyiterator.__iter__» :=
  entryFor_alias (id' := "dict_keyiterator.__iter__") (by kernel_rfl) (by first | rfl | decide +kernel | (unfold String.splitOn; simp +decide [String.splitOnAux])) (by decide +kernel) (by kernel_rfl)
end Mine

/-! ### Fa9 -/
namespace Mine
open PySem PySem.W PySem.Calls PyProof.Rows PySem.SeqAt
open AutoSeq1 (wpAny_loadPart')

theorem sub_map : isSubtype (.type "map") (.type "map") = pure true := by rw [isSubtype_type]; kernel_rfl
abbrev IsMap (h : Heap) (m t it : Addr) (f : Value) : Prop :=
  h.get? m = some { cls := .type "map", dict := none, data := .fields #[.ref t, f], slots := #[] } ∧ h.get? t = some { cls := .type "tuple", data := .seq #[.ref it] }

theorem meets_map_new (f : Value) (l : Addr) (items : Array Value) (n : Nat) (dct : Option Addr) (sl : Array (Option Value)) :
    Meets (Builtin.«map.__new__» ⟨[.type "map", f, .ref l], []⟩) (fun _ R s => s.heap.get? l = some { cls := .type "list", dict := dct, data := .seq items n, slots := sl } ∧
      R (.ok (.ret (.ref (s.heap.objs.size + 2))))
        { s with heap := ((s.heap.push { cls := .type "list_iterator", data := .fields #[.ref l, .int 0 0] }).push { cls := .type "tuple", data := .seq #[.ref s.heap.objs.size] }).push { cls := .type "map", data := .fields #[.ref (s.heap.objs.size + 1), f] } }) :=
  .of_wp fun prog w A R s h => by
    obtain ⟨hp, g, d, tk, os⟩ := s; obtain ⟨hl, h⟩ := h
    have hsub := sub_map
    have hL : Heap.IsList (Shared.heap ⟨hp, g, d, tk, os⟩) l items := ⟨_, hl, rfl, n, rfl⟩
    wp_walk using wpAny_loadPart' hl, wpAny_pyIter_list hL
    refine ⟨_, rfl, ?_⟩
    simp only [Heap.size_push] at *
    exact h

section
variable {prog : Program} {w : World} {A : Around} {E : Value → Shared → Prop} {s : Shared}
theorem call_map_list {f : Value} {l : Addr} {items : Array Value} {Q : Value → Shared → Prop} (hL : s.heap.IsList l items)
    (h : ∀ h', IsMap h' (s.heap.objs.size + 2) (s.heap.objs.size + 1) s.heap.objs.size f → h'.IsListIter s.heap.objs.size l 0 → h'.objs.size = s.heap.objs.size + 3 →
      (∀ b o, s.heap.get? b = some o → h'.get? b = some o) → Q (.ref (s.heap.objs.size + 2)) { s with heap := h' }) :
    wpAny (model prog w) A (call (.type "map") [f, .ref l]) Q E s := by
  obtain ⟨⟨c, dct, dt, sl⟩, hl, hc, n, hd⟩ := hL
  replace hc : c = .type "list" := hc
  replace hd : dt = .seq items n := hd
  subst hc hd
  refine callType_new called_map (by decide) (typeCall_map_2 _ _) (newCall_map_2 _ _) (fun obj => args_object_init_3 obj _ _) entry_map_new
    (meets_map_new f l items n dct sl) ⟨hl, ?_⟩
  have z1 : (s.heap.push { cls := .type "list_iterator", data := .fields #[.ref l, .int 0 0] }).objs.size = s.heap.objs.size + 1 := Heap.size_push ..
  have z2 : ((s.heap.push { cls := .type "list_iterator", data := .fields #[.ref l, .int 0 0] }).push { cls := .type "tuple", data := .seq #[.ref s.heap.objs.size] }).objs.size = s.heap.objs.size + 2 := by rw [Heap.size_push, z1]
  have e2 := Heap.get?_push_size (s.heap.push { cls := .type "list_iterator", data := .fields #[.ref l, .int 0 0] }) (o := { cls := .type "tuple", data := .seq #[.ref s.heap.objs.size] }) rfl
  rw [z1] at e2
  have e3 := Heap.get?_push_size ((s.heap.push { cls := .type "list_iterator", data := .fields #[.ref l, .int 0 0] }).push { cls := .type "tuple", data := .seq #[.ref s.heap.objs.size] }) (o := { cls := .type "map", data := .fields #[.ref (s.heap.objs.size + 1), f] }) rfl
  rw [z2] at e3
  have he : IsMap (((s.heap.push { cls := .type "list_iterator", data := .fields #[.ref l, .int 0 0] }).push { cls := .type "tuple", data := .seq #[.ref s.heap.objs.size] }).push { cls := .type "map", data := .fields #[.ref (s.heap.objs.size + 1), f] }) (s.heap.objs.size + 2) (s.heap.objs.size + 1) s.heap.objs.size f :=
    ⟨e3, Heap.get?_push_of_some _ e2⟩
  refine ⟨⟨_, he.1, rfl⟩, h _ he ⟨_, Heap.get?_push_of_some _ (Heap.get?_push_of_some _ (Heap.get?_push_size _ rfl)), rfl, rfl⟩ (by rw [Heap.size_push, z2]) fun b o x => Heap.get?_push_of_some _ (Heap.get?_push_of_some _ (Heap.get?_push_of_some _ x))⟩
end
end Mine

/-! ### Fa10 -/
namespace Mine
open PySem PySem.W PySem.Calls PyProof.Rows PySem.SeqAt
open AutoSeq1 (wpAny_loadPart')

section
variable {prog : Program} {w : World} {A : Around} {E : Value → Shared → Prop} {s : Shared}
theorem next_map_item {m t it l : Addr} {f : Value} {i : Nat} {items : Array Value} {x : Value} {Q : Value → Shared → Prop}
    (hm : IsMap s.heap m t it f) (hit : s.heap.IsListIter it l i) (hl : s.heap.IsList l items) (hx : items[i]? = some x) (hne : m ≠ it) (hnt : t ≠ it)
    (hQ : ∀ h', h'.IsListIter it l (i + 1) → Heap.SameBut it s.heap h' → wpAny (model prog w) A (call f [x]) (fun v s' => Q v s') E { s with heap := h' }) :
    wpAny (model prog w) A (Builtin.«map.__next__» ⟨[.ref m], []⟩) (fun fin s' => ∃ v, fin = .done (.ret v) ∧ Q v s') E s := by
  obtain ⟨hp, g, d, tk, os⟩ := s
  show wpAny _ _ (field (.ref m) 0 >>= _) _ _ _
  refine wpAny_bind (wpAny_field hm.1 rfl (x := .ref t) rfl ?_)
  show wpAny _ _ (seqItems? (.ref t) >>= _) _ _ _
  refine wpAny_bind (wpAny_seqItems hm.2 rfl ?_)
  simp only
  refine wpAny_bind ?_
  rw [← Array.forIn_toList]
  simp only [List.forIn_cons, List.forIn_nil, bind_assoc, pure_bind]
  refine wpAny_bind (wpAny_holding (wpAny_nextOf_list_item hit hl hx fun h₁ hit₁ hs₁ => ?_))
  refine wpAny_pure ?_
  have hm₁ : IsMap h₁ m t it f := ⟨(hs₁.2 m hne).trans hm.1, (hs₁.2 t hnt).trans hm.2⟩
  show wpAny _ _ (field (.ref m) 1 >>= _) _ _ _
  refine wpAny_bind (wpAny_field hm₁.1 rfl (x := f) rfl ?_)
  refine wpAny_bind (wpAny_holding (wpAny_mono (hQ h₁ hit₁ hs₁) (fun v s' q => ?_) fun _ _ e => e))
  refine wpAny_bind (wpAny_letGo (wpAny_pure ⟨_, rfl, q⟩))

theorem pyNext_map_item {m t it l : Addr} {f : Value} {i : Nat} {items : Array Value} {x : Value} {Q : Option Value → Shared → Prop}
    (hm : IsMap s.heap m t it f) (hit : s.heap.IsListIter it l i) (hl : s.heap.IsList l items) (hx : items[i]? = some x) (hne : m ≠ it) (hnt : t ≠ it)
    (hQ : ∀ h' E', h'.IsListIter it l (i + 1) → Heap.SameBut it s.heap h' → wpAny (model prog w) A.in1 (call f [x]) (fun v s' => Q (some v) s') E' { s with heap := h' }) :
    wpAny (model prog w) A (pyNext (.ref m)) Q E s := by
  have hT : s.TypeIs (.ref m) "map" := ⟨_, hm.1, rfl⟩
  unfold pyNext
  exact wpAny_bind (wpAny_attempt (wpAny_callSpecial?_slot (name := Str.ofString "__next__") hT slot_map_next
    (wpAny_call_entry slot_map_next hT entry_map_next
      (next_map_item hm hit hl hx hne hnt fun h' a b => wpAny_mono (hQ h' _ a b) (fun v s' q => wpAny_pure q) fun _ _ e => e) (args_map_next_1 _))))

theorem pyNext_map_end {m t it l : Addr} {f : Value} {i : Nat} {items : Array Value} {Q : Option Value → Shared → Prop} (hh : A.handled = none)
    (hm : IsMap s.heap m t it f) (hit : s.heap.IsListIter it l i) (hl : s.heap.IsList l items) (hx : items[i]? = none)
    (hQ : ∀ h', Heap.ExtBut it s.heap h' → Q none { s with heap := h' }) : wpAny (model prog w) A (pyNext (.ref m)) Q E s := by
  have hT : s.TypeIs (.ref m) "map" := ⟨_, hm.1, rfl⟩
  unfold pyNext
  refine wpAny_bind (wpAny_attempt (wpAny_callSpecial?_slot (name := Str.ofString "__next__") hT slot_map_next
    (wpAny_call_entry slot_map_next hT entry_map_next ?_ (args_map_next_1 _))))
  show wpAny _ _ (field (.ref m) 0 >>= _) _ _ _
  refine wpAny_bind (wpAny_field hm.1 rfl (x := .ref t) rfl ?_)
  show wpAny _ _ (seqItems? (.ref t) >>= _) _ _ _
  refine wpAny_bind (wpAny_seqItems hm.2 rfl ?_)
  simp only
  refine wpAny_bind ?_
  rw [← Array.forIn_toList]
  simp only [List.forIn_cons, List.forIn_nil, bind_assoc, pure_bind]
  refine wpAny_bind (wpAny_holding (wpAny_nextOf_list_end hh hit hl hx fun h' x he' hx' => ?_))
  obtain ⟨o, ho, hc⟩ := hx'
  refine wpAny_bind (wpAny_isInstance (T := "StopIteration") (b := true) ⟨o, ho, hc⟩ isSubtype_stop ?_)
  exact wpAny_pure (hQ _ he')

theorem wpAny_pyIter_map {m t it : Addr} {f : Value} {Q : Value → Shared → Prop} (hm : IsMap s.heap m t it f) (h : Q (.ref m) s) : wpAny (model prog w) A (pyIter (.ref m)) Q E s := by
  have hT : s.TypeIs (.ref m) "map" := ⟨_, hm.1, rfl⟩
  refine wpAny_pyIter_slot hT slot_map_iter (wpAny_call_entry slot_map_iter hT entry_map_iter ?_ (args_map_iter_1 _))
  show wpAny _ _ (ret (.ref m)) _ _ s
  exact wpAny_pure ⟨_, rfl, "map", _, hT, slot_map_next.lookup, h⟩
end
end Mine

/-! ### Fa11 -/
namespace Mine
open PySem PySem.W PySem.Calls PyProof.Rows PySem.SeqAt
open AutoSeq1 (wpAny_loadPart')

section
variable {prog : Program} {w : World} {A : Around} {F S : List Addr} {B h₀ : Heap}

structure MapIn (A : Around) (F S : List Addr) (B h₀ : Heap) (m t it l SL : Addr) (f : Value) (items : Array Value) (P : Nat → Pd) (i : Nat) (acc : Array Value) (c : Nat) (g : Heap) : Prop where
  ok : Ok A F B S g
  le : Le F B h₀ g
  mp : IsMap g m t it f
  itr : g.IsListIter it l i
  ls : g.IsList l items
  lst : g.get? SL = some { cls := .type "list", dict := none, data := .seq acc c, slots := #[] }
  all : ∀ j v, acc[j]? = some v → P j v (fz S g)

structure MapOut (F S : List Addr) (h₀ : Heap) (m t it l SL : Addr) : Prop where
  mS : m ∈ S
  tS : t ∈ S
  iS : it ∈ S
  SS : SL ∈ S
  lS : l ∉ S
  mi : m ≠ it
  ti : t ≠ it
  Sm : SL ≠ m
  St : SL ≠ t
  Si : SL ≠ it
  nF : ∀ a, a = m ∨ a = t ∨ a = it ∨ a = SL → a ∉ F ∧ h₀.get? a = none

theorem fz_upd {S : List Addr} {g g' : Heap} (k : ∀ b o, b ∉ S → g.get? b = some o → g'.get? b = some o) : (fz S g).StaysIn (fz S g') := fun b o e => by
  obtain ⟨e1, n1⟩ := fz_in e
  exact fz_get (k b o n1 e1) n1
/-- only it and the new list move -/
theorem MapIn.moved {m t it l SL : Addr} {f : Value} {items acc acc' : Array Value} {P : Nat → Pd} {i i' c c' : Nat} {g g' : Heap} (x : MapIn A F S B h₀ m t it l SL f items P i acc c g) (o : MapOut F S h₀ m t it l SL) (hB : B.StaysIn h₀) (f0 : Fs A F B h₀)
    (k : ∀ b q, b ≠ it → b ≠ SL → g.get? b = some q → g'.get? b = some q) (hi : g'.IsListIter it l i') (hs : g'.get? SL = some { cls := .type "list", dict := none, data := .seq acc' c', slots := #[] })
    (hall : ∀ j v, acc'[j]? = some v → P j v (fz S g')) : MapIn A F S B h₀ m t it l SL f items P i' acc' c' g' := by
  have hle : Le F B h₀ g' := x.le.step hB fun b q ⟨o1, e1⟩ e => k b q (fun h => by rw [h, (o.nF it (.inr (.inr (.inl rfl)))).2] at e1; cases e1) (fun h => by rw [h, (o.nF SL (.inr (.inr (.inr rfl)))).2] at e1; cases e1) e
  refine ⟨⟨hle.base hB, f0.le hle, x.ok.fs, fun a ha => ?_⟩, hle, ⟨k _ _ o.mi (Ne.symm o.Sm) x.mp.1, k _ _ o.ti (Ne.symm o.St) x.mp.2⟩, hi, ?_, hs, hall⟩
  · by_cases h1 : a = it
    · obtain ⟨q, e, _⟩ := hi; exact ⟨q, h1 ▸ e⟩
    · by_cases h2 : a = SL
      · exact ⟨_, h2 ▸ hs⟩
      · obtain ⟨q, e⟩ := x.ok.al a ha; exact ⟨q, k a q h1 h2 e⟩
  · obtain ⟨q, e, r⟩ := x.ls
    exact ⟨q, k l q (fun h => o.lS (h ▸ o.iS)) (fun h => o.lS (h ▸ o.SS)) e, r⟩

theorem loop_map {R : Result → Shared → Prop} {m t it l SL : Addr} {f res : Value} {items : Array Value} {P : Nat → Pd} (hh : A.handled = none) (o : MapOut F S h₀ m t it l SL) (hB : B.StaysIn h₀) (f0 : Fs A F B h₀) (hn : items.size ≤ sizeLine)
    (hcall : ∀ i x, items[i]? = some x → Do prog w A.in1.in1 F B S h₀ (call f [x]) (P i).p) :
    ∀ (k i : Nat) (s : Shared) (acc : Array Value) (c : Nat), items.size - i = k → i ≤ items.size → MapIn A F S B h₀ m t it l SL f items P i acc c s.heap → acc.size = i →
    (∀ h' tk acc' c', Le F B h₀ h' → h'.get? SL = some { cls := .type "list", dict := none, data := .seq acc' c', slots := #[] } → acc'.size = items.size → (∀ j v, acc'[j]? = some v → P j v (fz S h')) → R (.ok (.ret res)) { s with heap := h', toks := tk }) →
    codeAny (model prog w) A (.builtin "list.extend.loop" ⟨[.ref SL, .ref m, res], []⟩) R s := by
  intro k
  induction k with
  | zero =>
    intro i s acc c hk hi I hz hR
    have hin : i = items.size := by omega
    subst hin
    refine codeAny_builtin PySem.F.entry_extend_loop ?_
    rw [Around.under_plainId PySem.F.plain_extend_loop _]
    show wpAny _ A.in1 (pyNext (.ref m) >>= _) _ _ s
    refine wpAny_bind (pyNext_map_end (by exact hh) I.mp I.itr I.ls (by simp) fun h' hk => ?_)
    have hle : Le F B h₀ h' := I.le.step hB fun b q ⟨o1, e1⟩ e => hk b q (fun h => by rw [h, (o.nF it (.inr (.inr (.inl rfl)))).2] at e1; cases e1) e
    exact wpAny_pure (hR h' s.toks acc c hle (hk _ _ o.Si I.lst) hz fun j v e => (P j).mono (fz_upd fun b q hb e => hk b q (fun h => hb (h ▸ o.iS)) e) (I.all j v e))
  | succ k ih =>
    intro i s acc c hk hi I hz hR
    have hlt : i < items.size := by omega
    refine codeAny_builtin PySem.F.entry_extend_loop ?_
    rw [Around.under_plainId PySem.F.plain_extend_loop _]
    show wpAny _ A.in1 (pyNext (.ref m) >>= _) _ _ s
    refine wpAny_bind (pyNext_map_item I.mp I.itr I.ls (Array.getElem?_eq_getElem hlt) o.mi o.ti fun h' E' hi' hs' => ?_)
    have I1 := I.moved o hB f0 (fun b q h1 _ e => (hs'.2 b h1).trans e) hi' ((hs'.2 SL o.Si).trans I.lst) (fun j v e => (P j).mono (fz_upd fun b q hb e => (hs'.2 b (fun h => hb (h ▸ o.iS))).trans e) (I.all j v e))
    refine hcall i _ (Array.getElem?_eq_getElem hlt) _ _ _ (Ok.in1 (Ok.in1 I1.ok)) I1.le fun v s2 g q => ?_
    obtain ⟨h2, tk2, rfl, l2⟩ := g
    have nk : ∀ a q, (a = m ∨ a = t ∨ a = it ∨ a = SL) → h'.get? a = some q → h2.get? a = some q := fun a q ha e => l2.keep a q e (o.nF a ha).1
    have hSL := nk SL _ (.inr (.inr (.inr rfl))) I1.lst
    show wpAny _ A.in1 (updateSeq SL (·.push v) >>= _) _ _ _
    refine wpAny_bind ?_
    have hall2 : ∀ j u, acc[j]? = some u → P j u (fz S h2) := fun j u e => (P j).mono (I1.ok.fz l2) (I1.all j u e)
    refine wpAny_updateSeq hSL rfl (wpAny_pure ⟨plainId_quiet PySem.F.plain_extend_loop _, ih (i + 1) _ (acc.push v) _ (by omega) hlt (MapIn.moved (g := h2) (acc := acc) (c := c) (i := i + 1) ⟨I1.ok.le l2, I1.le.trans l2, ⟨nk _ _ (.inl rfl) I1.mp.1, nk _ _ (.inr (.inl rfl)) I1.mp.2⟩, ?_, ?_, hSL, hall2⟩ o hB f0 (fun b q h1 h3 e => (Heap.get?_update_other _ _ (Ne.symm h3)).trans e) ?_ (Heap.get?_update_self _ hSL rfl) ?_) (by rw [Array.size_push, hz]) hR⟩) (by rw [hz]; omega) (by show (acc.push v).size ≤ sizeLine + 1; rw [Array.size_push, hz]; omega)
    · obtain ⟨q, e, r⟩ := I1.itr
      exact ⟨q, nk _ _ (.inr (.inr (.inl rfl))) e, r⟩
    · obtain ⟨q, e, r⟩ := I1.ls
      exact ⟨q, l2.keep l q e fun h => o.lS (I1.ok.fs l h), r⟩
    · obtain ⟨q, e, r⟩ := I1.itr
      exact ⟨q, (Heap.get?_update_other _ _ o.Si).trans (nk _ _ (.inr (.inr (.inl rfl))) e), r⟩
    · intro j u e
      have hup : (fz S h2).StaysIn (fz S (h2.update SL (Obj.mapSeq (·.push v)))) := fz_upd fun b q hb e => (Heap.get?_update_other _ _ (fun h : SL = b => hb (by rw [← h]; exact o.SS))).trans e
      rw [Array.getElem?_push] at e
      split at e
      · rename_i e2; cases e; rw [e2, hz]; exact (P i).mono hup q
      · exact (P j).mono hup (hall2 j u e)
end
end Mine

/-! ### Fa12 -/
namespace Mine
open PySem PySem.W PySem.Calls PyProof.Rows PySem.SeqAt
open AutoSeq1 (wpAny_loadPart')

section
variable {prog : Program} {w : World} {A : Around} {F S₀ : List Addr} {B h₀ : Heap} {E : Value → Shared → Prop} {s : Shared}

/-- a map object laid over a list, fresh since h₀ -/
structure MapAt (A : Around) (F S₀ : List Addr) (B h₀ h : Heap) (m t it l : Addr) (f : Value) (items : Array Value) : Prop where
  hB : B.StaysIn h₀
  ok0 : Ok A F B S₀ h₀
  le : Le F B h₀ h
  mp : IsMap h m t it f
  itr : h.IsListIter it l 0
  ls : h.IsList l items
  lo : ∃ o, h₀.get? l = some o
  lS : l ∉ S₀
  fm : h₀.get? m = none
  ft : h₀.get? t = none
  fi : h₀.get? it = none
  mi : m ≠ it
  ti : t ≠ it

theorem MapAt.lt {h : Heap} {m t it l : Addr} {f : Value} {items : Array Value} (x : MapAt A F S₀ B h₀ h m t it l f items) : m < h.objs.size ∧ t < h.objs.size ∧ it < h.objs.size ∧ l < h.objs.size :=
  ⟨Heap.lt_size x.mp.1, Heap.lt_size x.mp.2, (let ⟨_, e, _⟩ := x.itr; Heap.lt_size e), (let ⟨_, e, _⟩ := x.ls; Heap.lt_size e)⟩
theorem MapAt.out {h : Heap} {m t it l : Addr} {f : Value} {items : Array Value} (x : MapAt A F S₀ B h₀ h m t it l f items) (hsz : h₀.get? h.objs.size = none) : MapOut F (h.objs.size :: m :: t :: it :: S₀) h₀ m t it l h.objs.size := by
  obtain ⟨h1, h2, h3, h4⟩ := x.lt
  have nF : ∀ a, h₀.get? a = none → a ∉ F := fun a e m => by obtain ⟨o, e'⟩ := x.ok0.al a (x.ok0.fs a m); rw [e] at e'; cases e'
  refine ⟨by simp, by simp, by simp, by simp, ?_, x.mi, x.ti, Nat.ne_of_gt h1, Nat.ne_of_gt h2, Nat.ne_of_gt h3, fun a ha => ?_⟩
  · obtain ⟨o, e⟩ := x.lo
    intro q
    rcases List.mem_cons.mp q with rfl | q
    · exact Nat.lt_irrefl _ h4
    · rcases List.mem_cons.mp q with rfl | q
      · rw [x.fm] at e; cases e
      · rcases List.mem_cons.mp q with rfl | q
        · rw [x.ft] at e; cases e
        · rcases List.mem_cons.mp q with rfl | q
          · rw [x.fi] at e; cases e
          · exact x.lS q
  · rcases ha with rfl | rfl | rfl | rfl
    · exact ⟨nF _ x.fm, x.fm⟩
    · exact ⟨nF _ x.ft, x.ft⟩
    · exact ⟨nF _ x.fi, x.fi⟩
    · exact ⟨nF _ hsz, hsz⟩

theorem collect_map {m t it l : Addr} {f : Value} {items : Array Value} {P : Nat → Pd} {Q : List Value → Shared → Prop} (hh : A.handled = none) (x : MapAt A F S₀ B h₀ s.heap m t it l f items) (hn : items.size ≤ sizeLine)
    (hcall : ∀ i v, items[i]? = some v → Do prog w A.in1.in1 F B (s.heap.objs.size :: m :: t :: it :: S₀) h₀ (call f [v]) (P i).p)
    (hQ : ∀ h' tk (acc : Array Value), Le F B h₀ h' → acc.size = items.size → (∀ j v, acc[j]? = some v → P j v (fz S₀ h')) → Q acc.toList { s with heap := h', toks := tk }) : wpAny (model prog w) A (collect (.ref m)) Q E s := by
  obtain ⟨lm, lt, li, ll⟩ := x.lt
  have hsz : h₀.get? s.heap.objs.size = none := by
    cases e : h₀.get? s.heap.objs.size with
    | none => rfl
    | some o =>
      obtain ⟨o', e'⟩ := x.le.alive e
      exact absurd (Heap.lt_size e') (Nat.lt_irrefl _)
  have O := x.out hsz
  have hTm : ∀ (h' : Heap) (s' : Shared), IsMap s'.heap m t it f → s'.TypeIs (.ref m) "map" := fun h' s' e => ⟨_, e.1, rfl⟩
  unfold collect
  refine wpAny_bind (wpAny_runValue (codeAny_builtin PySem.F.entry_proto_collect ?_))
  rw [Around.under_plainId PySem.F.plain_proto_collect _]
  show wpAny _ A.in1 (newList [] >>= fun l => again (.builtin "list.__iadd__" ⟨[l, .ref m], []⟩)) _ _ s
  refine wpAny_bind (wpAny_newObj_type ?_ (Nat.zero_le _))
  refine wpAny_pure ⟨plainId_quiet PySem.F.plain_list_iadd _, codeAny_builtin PySem.F.entry_list_iadd ?_⟩
  rw [Around.under_plainId PySem.F.plain_list_iadd _]
  have mp1 : IsMap (s.heap.push { cls := .type "list", data := .seq ([] : List Value).toArray }) m t it f := ⟨Heap.get?_push_of_some _ x.mp.1, Heap.get?_push_of_some _ x.mp.2⟩
  show wpAny _ A.in1 (Builtin.List.listExtendWith (.ref s.heap.objs.size) (.ref m) (.ref s.heap.objs.size)) _ _ _
  unfold Builtin.List.listExtendWith
  refine wpAny_bind (wpAny_typeOf (T := "map") ⟨_, mp1.1, rfl⟩ ?_)
  have h1 : Builtin.List.listSameRef (.ref s.heap.objs.size) (.ref m) = false := by simp [Builtin.List.listSameRef]; exact Nat.ne_of_gt lm
  have h2 : (Value.type "map" == Value.type "list") = false := by decide
  have h3 : (Value.type "map" == Value.type "tuple") = false := by decide
  simp only [h1, h2, h3, Bool.or_false, Bool.false_eq_true, if_false]
  refine wpAny_bind (wpAny_pyIter_map mp1 ?_)
  refine wpAny_bind (wpAny_holding ?_)
  unfold Builtin.List.listLengthHint
  refine wpAny_bind (wpAny_specialOf (T := "map") ⟨_, mp1.1, rfl⟩ map_no_len ?_)
  show wpAny _ A.in1 (specialOf (Value.ref m) (Str.ofString "__length_hint__") >>= _) _ _ _
  refine wpAny_bind (wpAny_specialOf (T := "map") ⟨_, mp1.1, rfl⟩ map_no_hint ?_)
  refine wpAny_pure ?_
  show wpAny _ A.in1 (rule "list.extend.makes-room" >>= fun _ => Builtin.List.listTouch (.ref s.heap.objs.size) >>= fun _ =>
    again (.builtin "list.extend.loop" ⟨[.ref s.heap.objs.size, .ref m, .ref s.heap.objs.size], []⟩)) _ _ _
  refine wpAny_bind (wpAny_rule ?_)
  have hS₁ : (s.heap.push { cls := .type "list", data := .seq ([] : List Value).toArray }).get? s.heap.objs.size = some { cls := .type "list", data := .seq ([] : List Value).toArray } := Heap.get?_push_size _ rfl
  refine wpAny_bind ?_
  show wpAny _ A.in1 (updateSeq s.heap.objs.size (·.push .none) >>= fun _ => updateSeq s.heap.objs.size (·.pop)) _ _ _
  refine wpAny_bind (wpAny_updateSeq hS₁ rfl ?_ (Nat.zero_le _) (by show (#[] : Array Value).size + 1 ≤ _; decide))
  have hS₂ := Heap.get?_update_self (Obj.mapSeq (·.push Value.none)) hS₁ rfl
  refine wpAny_updateSeq hS₂ rfl ?_ (by decide) (Nat.zero_le _)
  have hS₃ := Heap.get?_update_self (Obj.mapSeq (·.pop)) hS₂ rfl
  have oth : ∀ b o, b ≠ s.heap.objs.size → s.heap.get? b = some o →
      (((s.heap.push { cls := .type "list", data := .seq ([] : List Value).toArray }).update s.heap.objs.size (Obj.mapSeq (·.push Value.none))).update s.heap.objs.size (Obj.mapSeq (·.pop))).get? b = some o :=
    fun b o hb e => (Heap.get?_update_other _ _ (Ne.symm hb)).trans ((Heap.get?_update_other _ _ (Ne.symm hb)).trans (Heap.get?_push_of_some _ e))
  have hle : Le F B h₀ (((s.heap.push { cls := .type "list", data := .seq ([] : List Value).toArray }).update s.heap.objs.size (Obj.mapSeq (·.push Value.none))).update s.heap.objs.size (Obj.mapSeq (·.pop))) :=
    x.le.step x.hB fun b q ⟨o1, e1⟩ e => oth b q (fun h => by rw [h, hsz] at e1; cases e1) e
  have I0 : MapIn A F (s.heap.objs.size :: m :: t :: it :: S₀) B h₀ m t it l s.heap.objs.size f items P 0 #[] 2 (((s.heap.push { cls := .type "list", data := .seq ([] : List Value).toArray }).update s.heap.objs.size (Obj.mapSeq (·.push Value.none))).update s.heap.objs.size (Obj.mapSeq (·.pop))) := by
    refine ⟨⟨hle.base x.hB, x.ok0.fr.le hle, fun a ha => ?_, fun a ha => ?_⟩, hle, ⟨oth _ _ O.Sm.symm x.mp.1, oth _ _ O.St.symm x.mp.2⟩, ?_, ?_, hS₃, fun j v e => by simp at e⟩
    · exact .tail _ (.tail _ (.tail _ (.tail _ (x.ok0.fs a ha))))
    · rcases List.mem_cons.mp ha with rfl | ha
      · exact ⟨_, hS₃⟩
      · rcases List.mem_cons.mp ha with rfl | ha
        · exact ⟨_, oth _ _ O.Sm.symm x.mp.1⟩
        · rcases List.mem_cons.mp ha with rfl | ha
          · exact ⟨_, oth _ _ O.St.symm x.mp.2⟩
          · rcases List.mem_cons.mp ha with rfl | ha
            · obtain ⟨o, e, _⟩ := x.itr; exact ⟨_, oth _ _ O.Si.symm e⟩
            · obtain ⟨o, e⟩ := x.ok0.al a ha
              exact hle.alive e
    · obtain ⟨o, e, r⟩ := x.itr; exact ⟨_, oth _ _ O.Si.symm e, r⟩
    · obtain ⟨o, e, r⟩ := x.ls; exact ⟨_, oth _ _ (Nat.ne_of_lt ll) e, r⟩
  refine wpAny_pure ⟨plainId_quiet PySem.F.plain_extend_loop _, loop_map hh O x.hB x.ok0.fr hn hcall _ 0 _ #[] _ rfl (Nat.zero_le _) I0 rfl fun h' tk acc' c' hle' hS' hacc hP => ?_⟩
  show wpAny _ A (load s.heap.objs.size >>= _) _ _ _
  refine wpAny_bind (wpAny_load hS' ?_)
  exact wpAny_pure (hQ h' tk acc' hle' hacc fun j v e => (P j).mono (fz_sub fun a ha => .tail _ (.tail _ (.tail _ (.tail _ ha)))) (hP j v e))
end
end Mine

/-! ### Fa13 -/
namespace Mine
open PySem PySem.W PySem.Calls PyProof.Rows PySem.SeqAt
open AutoSeq1 (wpAny_loadPart')

section
variable {prog : Program} {w : World} {A : Around} {F S₀ : List Addr} {B h₀ : Heap} {E : Value → Shared → Prop} {s : Shared}

theorem code_tuple_map {m t it l : Addr} {f : Value} {items : Array Value} {P : Nat → Pd} {Q₁ : Value → Shared → Prop} (hh : A.handled = none) (x : MapAt A.in1 F S₀ B h₀ s.heap m t it l f items) (hn : items.size ≤ sizeLine)
    (hcall : ∀ i v, items[i]? = some v → Do prog w A.in1.in1.in1 F B (s.heap.objs.size :: m :: t :: it :: S₀) h₀ (call f [v]) (P i).p)
    (h : ∀ h' tk (acc : Array Value), Le F B h₀ h' → acc.size = items.size → (∀ j v, acc[j]? = some v → P j v (fz S₀ h')) → Q₁ (.ref h'.objs.size) { s with heap := h'.push { cls := .type "tuple", data := .seq acc }, toks := tk }) :
    codeAny (model prog w) A (.call (.builtin "tuple.__new__") ⟨[.type "tuple", .ref m], []⟩) (wants Q₁ E) s := by
  refine codeAny_of_tree ?_
  show wpAny _ A.in1 (do checkBuiltinCall "tuple.__new__" ⟨[.type "tuple", .ref m], []⟩; again (.builtin "tuple.__new__" ⟨[.type "tuple", .ref m], []⟩)) _ _ s
  refine wpAny_bind (wpAny_of_eq (PySem.F.newCall_tuple_1 _) (wpAny_pure ⟨plainId_quiet PySem.F.plain_tuple_new _, codeAny_builtin PySem.F.entry_tuple_new ?_⟩))
  rw [Around.under_plainId PySem.F.plain_tuple_new _]
  have hsub := sub_tuple_self
  have hinit := init_tuple_lookup
  have hmh := madeHere_tuple
  have hTI : s.TypeIs (.ref m) "map" := ⟨_, x.mp.1, rfl⟩
  wp_walk using wpAny_typeOf hTI, collect_map (A := A.in1) hh x hn hcall
  intro h' tk acc hl hsz hacc
  show wpAny _ _ (Builtin.Tuple.tupleExact acc.toList.toArray >>= fun v => ret v) _ _ _
  unfold Builtin.Tuple.tupleExact
  refine wpAny_bind (wpAny_newObj_type ?_ (by show acc.toList.toArray.size ≤ sizeLine; simp only [Array.toArray_toList]; rw [hsz]; exact hn))
  refine wpAny_pure ?_
  have e : acc.toList.toArray = acc := by simp
  rw [e]
  exact h h' tk acc hl hsz hacc

theorem call_tuple_map {m t it l : Addr} {f : Value} {items : Array Value} {P : Nat → Pd} {Q : Value → Shared → Prop} (hh : A.handled = none) (x : MapAt A.in1.in1 F S₀ B h₀ s.heap m t it l f items) (hn : items.size ≤ sizeLine)
    (hcall : ∀ i v, items[i]? = some v → Do prog w A.in1.in1.in1.in1 F B (s.heap.objs.size :: m :: t :: it :: S₀) h₀ (call f [v]) (P i).p)
    (hQ : ∀ h' tk (acc : Array Value), Le F B h₀ h' → acc.size = items.size → (∀ j v, acc[j]? = some v → P j v (fz S₀ h')) → Q (.ref h'.objs.size) { s with heap := h'.push { cls := .type "tuple", data := .seq acc }, toks := tk }) :
    wpAny (model prog w) A (call (.type "tuple") [.ref m]) Q E s := by
  refine callType_codes (Q₁ := fun obj s₁ => s₁.TypeIs obj "tuple" ∧ Q obj s₁) PySem.F.called_tuple (PySem.F.typeCall_tuple_1 _) PySem.F.entry_object_init
    (code_tuple_map (A := A.in1) hh x hn hcall fun h' tk acc hl hsz hacc => ⟨⟨_, Heap.get?_push_size _ rfl, rfl⟩, hQ h' tk acc hl hsz hacc⟩) fun obj s₁ h₁ => ?_
  exact ⟨h₁.1, PySem.F.args_object_init_2 obj _, object_init_meets PySem.F.called_tuple.init.lookup PySem.F.called_tuple.made (by decide) prog w A.in1 _ s₁ ⟨h₁.1, rfl, h₁.2⟩⟩
end
end Mine

/-! ### Fa14 -/
namespace Mine
open PySem PySem.W PySem.Calls PyProof.Rows PySem.SeqAt

section
variable {prog : Program} {w : World} {A : Around} {F : List Addr} {B : Heap} {S₁ : List Addr} {h : Heap} {env : Env} {ad : Nat → Addr}

theorem Fs.out1 {h' : Heap} (x : Fs A F B h') : Fs A.in1 F B h' := x
/-- tuple(map(f, xs)) -/
theorem ev_tuple_map {te me fe e1 : Expr} {mpos pos : Pos} {f : Value} {ds es : List PyData} (hh : A.handled = none)
    (x : Ev prog w A F B S₁ h env te (isv (.type "tuple"))) (x2 : Ev prog w A F B S₁ h env me (isv (.type "map"))) (x3 : Ev prog w A F B S₁ h env fe (isv f)) (y : Ev prog w A F B S₁ h env e1 (plist ds)) (hds : ds.length ≤ sizeLine) (hes : es.length = ds.length)
    (hcall : ∀ (S₂ : List Addr) (h₂ : Heap) (i : Nat) (v : Value) (d e : PyData), ds[i]? = some d → es[i]? = some e → (dat d) v (fz S₁ h₂) → Do prog w A.in1.in1.in1.in1 F B S₂ h₂ (call f [v] []) (dat e).p)
    (hl : backTo pos (starEach [.Call me [fe, e1] [] mpos] env) = [(false, eval (.Call me [fe, e1] [] mpos) env)] := by rfl)
    (hl2 : backTo mpos (starEach [fe, e1] env) = [(false, eval fe env), (false, eval e1 env)] := by rfl)
    (he : eval (.Call te [.Call me [fe, e1] [] mpos] [] pos) env = (do callWith pos (← eval te env) [] (backTo pos (starEach [.Call me [fe, e1] [] mpos] env)) []) := by rfl)
    (he2 : eval (.Call me [fe, e1] [] mpos) env = (do callWith mpos (← eval me env) [] (backTo mpos (starEach [fe, e1] env)) []) := by rfl) :
    Ev prog w A F B S₁ h env (.Call te [.Call me [fe, e1] [] mpos] [] pos) (ptup es) := fun s Q E o lh k => by
  rw [he, hl]
  refine wpAny_bind (x s _ E o lh fun v s1 g1 q1 => ?_)
  obtain rfl : v = .type "tuple" := q1
  have o1 := o.le g1.le
  refine wp_callWith (B := B) kp_type (evalArgs_plain (spliced_cons ?_))
  rw [he2, hl2]
  refine wpAny_bind (x2 s1 _ E o1 (lh.trans g1.le) fun v2 s2 g2 q2 => ?_)
  obtain rfl : v2 = .type "map" := q2
  have o2 := o1.le g2.le
  refine wp_callWith (B := B) kp_type (evalArgs_plain (spliced_cons ?_))
  refine x3 s2 _ E o2 ((lh.trans g1.le).trans g2.le) fun v3 s3 g3 q3 => ?_
  obtain rfl : v3 = f := q3
  have o3 := o2.le g3.le
  refine spliced_cons (y s3 _ E o3 (((lh.trans g1.le).trans g2.le).trans g3.le) fun u s4 g4 q4 => spliced_nil ?_)
  have o4 := o3.le g4.le
  have g := ((g1.trans g2).trans g3).trans g4
  refine ⟨o4.bh, ?_⟩
  obtain ⟨l, vs, rfl, hli, hall⟩ := plist_out q4
  have hL : s4.heap.IsList l vs.toArray := by obtain ⟨ob, e, r⟩ := hli; exact ⟨ob, (fz_in e).1, r⟩
  have hlS : l ∉ S₁ := by obtain ⟨ob, e, r⟩ := hli; exact (fz_in e).2
  refine call_map_list hL fun h5 hm5 hit5 hsz5 hk5 => ?_
  refine spliced_nil ⟨?_, ?_⟩
  · exact fun b ob e => hk5 b ob (o4.bh b ob e)
  have fr : ∀ b, s4.heap.objs.size ≤ b → s4.heap.get? b = none := fun b hb => by
    cases e : s4.heap.get? b with
    | none => rfl
    | some o' => exact absurd (Heap.lt_size e) (Nat.not_lt.mpr hb)
  have X : MapAt A.in1.in1 F S₁ B s4.heap h5 (s4.heap.objs.size + 2) (s4.heap.objs.size + 1) s4.heap.objs.size l v3 vs.toArray := by
    refine ⟨o4.bh, ⟨o4.bh, o4.fr, o4.fs, o4.al⟩, .of_keeps hk5, hm5, hit5, ?_, ?_, hlS, fr _ (by omega), fr _ (by omega), fr _ (Nat.le_refl _), Nat.ne_of_gt (Nat.lt_add_of_pos_right (by decide)), Nat.ne_of_gt (Nat.lt_add_of_pos_right (by decide))⟩
    · obtain ⟨ob, e, r⟩ := hL; exact ⟨ob, hk5 _ _ e, r⟩
    · obtain ⟨ob, e, r⟩ := hL; exact ⟨ob, e⟩
  have hvl := hall.length
  refine call_tuple_map (P := fun i => dat (es[i]?.getD .none)) (s := { s4 with heap := h5 }) hh X (by simp; omega) (fun i v e => ?_) fun h6 tk6 acc l6 hz6 hacc => ?_
  · rw [List.getElem?_toArray] at e
    have hi : i < vs.length := (List.getElem?_eq_some_iff.mp e).1
    have ed : ds[i]? = some ds[i] := List.getElem?_eq_getElem (by omega)
    have ee : es[i]? = some es[i] := List.getElem?_eq_getElem (by omega)
    obtain ⟨v', e', pv⟩ := hall.get ed
    rw [e] at e'; cases e'
    rw [ee]
    exact hcall _ _ i v ds[i] es[i] ed ee pv
  · have l46 : Le F B s.heap (h6.push { cls := .type "tuple", data := .seq acc }) := (g.le.trans l6).trans (.push _)
    obtain ⟨h4', t4', rfl, _⟩ := g
    refine k _ _ ⟨_, tk6, rfl, l46⟩ ?_
    have nS : h6.objs.size ∉ S₁ := fun m => by
      obtain ⟨o', e'⟩ := (o4.le l6).al _ m
      exact Nat.lt_irrefl _ (Heap.lt_size e')
    refine ptup_in (fz_get (Heap.get?_push_size _ rfl) nS) rfl rfl ?_
    refine all.of_get (by simp at hz6 ⊢; omega) fun i v d e1 e2 => ?_
    have := hacc i v (by simpa using e1)
    rw [e2] at this
    exact (dat d).mono (fz_le (F := F) (B := B) (.push _) o.fs fun _ m => .inl m) this
end
end Mine

/-! ### Fb1 -/
namespace Mine
open PySem PySem.W PySem.Calls PyProof.Rows PySem.SeqAt

/-! ## a set that holds True and no more -/
def byTxt (w : World) : Bool := w.params.followText "set-order"
def tb1 (led : Bool) : SetTable := (layNew (.fresh 0 0 led) #[] 1 (.bool true)).2.1
abbrev so0 (led : Bool) : Obj := { cls := .type "set", dict := none, data := .set #[] 0 (.fresh 0 0 led) }
abbrev so1 (led : Bool) : Obj := Obj.putSet #[(1, .bool true)] (tb1 led) (so0 led)
theorem tb1_eq (led : Bool) : tb1 led = { mask := 7, place := #[1], dummies := #[], finger := 0, led := led, moves := 0, plain := true } := by cases led <;> decide +kernel
theorem lay1 (led : Bool) : layNew (.fresh 0 0 led) #[] 1 (.bool true) = (#[(1, .bool true)], tb1 led, false, false) := by cases led <;> decide +kernel
theorem so1_eq (led : Bool) : ∃ ep, so1 led = { cls := .type "set", dict := none, data := .set #[(1, .bool true)] ep (tb1 led) } := ⟨_, rfl⟩

section
variable {prog : Program} {w : World} {A : Around} {E : Value → Shared → Prop} {s : Shared}
theorem new_set {Q : Value → Shared → Prop} (h : Q (.ref s.heap.objs.size) { s with heap := s.heap.push (so0 (!byTxt w)) }) : wpAny (model prog w) A (newSet (.type "set")) Q E s := by
  unfold newSet setsByText
  refine wpAny_bind (wpAny_bind (wpAny_askSetting (wpAny_pure ?_)))
  dsimp only
  simp only [newObj]
  exact wpAny_bind (wpAny_alloc (wpAny_pure h))

theorem hash_true {Q : Int → Shared → Prop} (hu : A.units ≤ 9000) (h : ∀ tk, Q 1 { s with toks := tk }) : wpAny (model prog w) A (pyHash (.bool true)) Q E s := by
  refine pyHash_slot (T := "bool") rfl PySem.F.slot_bool_hash entry_int_hash (args_int_hash _) (beq_builtin_none _) (.inr (by have : cLine = 9900 := rfl; omega)) ?_
  exact (show wpAny _ _ (do ret (← mkInt 1)) _ _ s from wpAny_bind (wpAny_mkInt (wpAny_pure ⟨_, _, rfl, h _⟩)))

theorem add_true_new {a : Addr} {led : Bool} {Q : Value → Shared → Prop} (hu : A.units ≤ 8000) (ho : s.heap.get? a = some (so0 led))
    (h : ∀ tk, Q .none { s with heap := s.heap.update a (Obj.putSet #[(1, .bool true)] (tb1 led)), toks := tk }) : wpAny (model prog w) A (call (.builtin "set.add") [.ref a, .bool true]) Q E s := by
  refine wpAny_call_entry PySem.F.slot_set_add ⟨_, ho, rfl⟩ PySem.F.entry_set_add ?_ (PySem.F.args_set_add_2 _ _)
  unfold Builtin.«set.add» Builtin.Frozenset.oneOther
  simp only [List.isEmpty_nil, bind_assoc]
  unfold Builtin.Frozenset.addrOf setAdd
  refine wpAny_bind (wpAny_pure ?_)
  try dsimp only
  refine wpAny_bind (wpAny_pure ?_)
  try dsimp only
  refine wpAny_bind ?_
  refine wpAny_holding ?_
  refine wpAny_bind (hash_true (by show A.units + 1 ≤ 9000; omega) fun tk => ?_)
  unfold setAddHashed setAddHashedIn
  have hf : (SetTable.fresh 0 0 led).fits (#[] : Array (Int × Value)).size = true := by cases led <;> decide +kernel
  have hf1 : (tb1 led).fits (#[(1, Value.bool true)] : Array (Int × Value)).size = true := by cases led <;> decide +kernel
  refine wpAny_holding (wpAny_bind (wpAny_setState_of (s := { s with toks := tk }) ho rfl hf ?_))
  dsimp only
  rw [show byScan (Value.bool true) (#[] : Array (Int × Value)) = true from by decide +kernel]
  simp only [↓reduceIte]
  unfold setAddByScan
  refine wpAny_bind ?_
  refine wpAny_bind (wpAny_rule ?_)
  show wpAny _ _ (pure ScanMet.absent >>= _) _ _ _
  refine wpAny_bind (wpAny_pure ?_)
  dsimp only
  rw [lay1]
  dsimp only
  refine wpAny_bind (wpAny_pure ?_)
  refine wpAny_bind (wpAny_pure ?_)
  simp only [if_true]
  refine wpAny_bind (wpAny_storeSet_of (s := { s with toks := tk }) ho rfl ?_ (by decide))
  rw [show (tb1 led).tooFull = false from by cases led <;> decide +kernel]
  simp only [Bool.not_false, Bool.and_false, Bool.false_eq_true, if_false]
  refine wpAny_pure (wpAny_pure ?_)
  show wpAny _ _ (ret Value.none) _ _ _
  exact wpAny_pure ⟨_, rfl, h tk⟩

theorem add_true_old {a : Addr} {led : Bool} {Q : Value → Shared → Prop} (hu : A.units ≤ 8000) (ho : s.heap.get? a = some (so1 led))
    (h : ∀ tk, Q .none { s with toks := tk }) : wpAny (model prog w) A (call (.builtin "set.add") [.ref a, .bool true]) Q E s := by
  refine wpAny_call_entry PySem.F.slot_set_add ⟨_, ho, rfl⟩ PySem.F.entry_set_add ?_ (PySem.F.args_set_add_2 _ _)
  unfold Builtin.«set.add» Builtin.Frozenset.oneOther
  simp only [List.isEmpty_nil, bind_assoc]
  unfold Builtin.Frozenset.addrOf setAdd
  refine wpAny_bind (wpAny_pure ?_)
  try dsimp only
  refine wpAny_bind (wpAny_pure ?_)
  try dsimp only
  refine wpAny_bind ?_
  refine wpAny_holding ?_
  refine wpAny_bind (hash_true (by show A.units + 1 ≤ 9000; omega) fun tk => ?_)
  unfold setAddHashed setAddHashedIn
  have hf1 : (tb1 led).fits (#[(1, Value.bool true)] : Array (Int × Value)).size = true := by cases led <;> decide +kernel
  refine wpAny_holding (wpAny_bind (wpAny_setState_of (s := { s with toks := tk }) ho rfl hf1 ?_))
  dsimp only
  rw [show byScan (Value.bool true) (#[(1, Value.bool true)] : Array (Int × Value)) = true from by decide +kernel]
  simp only [↓reduceIte]
  unfold setAddByScan
  refine wpAny_bind ?_
  refine wpAny_bind (wpAny_rule ?_)
  show wpAny _ _ (setScanFrom a (.bool true) 1 true [(1, .bool true)] 0 >>= _) _ _ _
  refine wpAny_bind ?_
  unfold setScanFrom
  rw [if_pos (by decide)]
  refine wpAny_bind (wpAny_setEpoch_of (s := { s with toks := tk }) ho rfl hf1 ?_)
  show wpAny _ _ (pure true >>= _) _ _ _
  refine wpAny_bind (wpAny_pure ?_)
  simp only [Bool.and_self, if_true]
  refine wpAny_pure ?_
  dsimp only
  refine wpAny_pure (wpAny_pure ?_)
  show wpAny _ _ (ret Value.none) _ _ _
  exact wpAny_pure ⟨_, rfl, h tk⟩
end
end Mine

/-! ### Fb2 -/
namespace Mine
open PySem PySem.W PySem.Calls PyProof.Rows PySem.SeqAt

theorem owner_setiter : Manifest.owners.lookup (String.ofList ['r', 'o', 't', 'a', 'r', 'e', 't', 'i', '_', 't', 'e', 's'].reverse) = some Manifest.sig_set_iterator := by kernel_rfl
theorem slot_setiter_next : Slot "set_iterator" "__next__" "set_iterator.__next__" :=
  .of (owner := "set_iterator") (n := "__next__") (by rw [typeLookup_type, builtinLookup_eq_fast]; kernel_rfl) (by decide +kernel) (by decide +kernel) (by decide +kernel)
    (by first | exact .inl (by decide +kernel) | exact .inr (by decide +kernel)) (by rw [isSubtype_type]; kernel_rfl)
theorem entry_setiter_next : entryFor table "set_iterator.__next__" = some Builtin.«set_iterator.__next__» := entryFor_of_tree (by kernel_rfl)
theorem args_setiter_next_1 (a : Value) : argsOk "set_iterator.__next__" ⟨[a], []⟩ := by
  unfold argsOk; rw [signature?_of (id := "set_iterator.__next__") (n := ['_', '_', 't', 'x', 'e', 'n', '_', '_']) (o := ['r', 'o', 't', 'a', 'r', 'e', 't', 'i', '_', 't', 'e', 's']) (by kernel_rfl) owner_setiter]; kernel_rfl
theorem entry_set_iter : entryFor table "set.__iter__" = some Builtin.«frozenset.__iter__» :=
  entryFor_alias (id' := "frozenset.__iter__") (by kernel_rfl) (by first | rfl | decide +kernel | (unfold String.splitOn; simp +decide [String.splitOnAux])) (by decide +kernel) (by kernel_rfl)
end Mine

/-! ### Fb3 -/
namespace Mine
open PySem PySem.W PySem.Calls PyProof.Rows PySem.SeqAt

section
variable {prog : Program} {w : World} {A : Around} {E : Value → Shared → Prop} {s : Shared}
theorem fits1 (led : Bool) : (tb1 led).fits (#[(1, Value.bool true)] : Array (Int × Value)).size = true := by cases led <;> decide +kernel

theorem pick1 {α : Type} (f : Nat → Nat) (x : α) : pickOrder f #[x] = #[x] := by
  unfold pickOrder
  show pickOrder.go f 1 0 [x] #[] = #[x]
  unfold pickOrder.go
  simp only [List.length_singleton, Nat.mod_one]
  rfl
abbrev sit (i j : Nat) (a : Addr) : Obj := { cls := .type "set_iterator", data := .fields #[rawInt j, rawInt i, .ref a, rawInt 1, rawInt 1] }
theorem iter_set1 {a : Addr} {Q : Value → Shared → Prop} (ho : s.heap.get? a = some (so1 (!byTxt w)))
    (h : Q (.ref s.heap.objs.size) { s with heap := s.heap.push (sit 0 0 a) }) : wpAny (model prog w) A (pyIter (.ref a)) Q E s := by
  have hT : s.TypeIs (.ref a) "set" := ⟨_, ho, rfl⟩
  refine wpAny_pyIter_slot hT PySem.F.slot_set_iter (wpAny_call_entry PySem.F.slot_set_iter hT entry_set_iter ?_ (PySem.F.args_set_iter_1 _))
  show wpAny _ _ (do
    let n ← Builtin.Frozenset.sizeOf a
    let first ← if ← setDrawn a then newTuple ((← drawOrder n (List.range n)).map fun (i : Nat) => rawInt i) else pure (rawInt 0)
    ret (← newFields "set_iterator" [first, rawInt 0, .ref a, rawInt n, rawInt (← setEpoch a)])) _ _ s
  unfold Builtin.Frozenset.sizeOf
  refine wpAny_bind (wpAny_bind (wpAny_setEntries_of ho rfl (fits1 _) (wpAny_pure ?_)))
  unfold setDrawn
  refine wpAny_bind (wpAny_bind (wpAny_setState_of ho rfl (fits1 _) ?_))
  dsimp only
  unfold setsByText
  refine wpAny_bind (wpAny_bind (wpAny_askSetting (wpAny_pure ?_)))
  refine wpAny_pure ?_
  rw [if_neg (by rw [Bool.and_eq_true]; rintro ⟨_, h⟩; revert h; cases (byTxt w) <;> decide +kernel)]
  refine wpAny_bind (wpAny_pure ?_)
  refine wpAny_bind (wpAny_setEpoch_of ho rfl (fits1 _) ?_)
  refine wpAny_bind (wpAny_newObj_type (wpAny_pure ⟨_, rfl, "set_iterator", _, ⟨_, Heap.get?_push_size _ rfl, rfl⟩, slot_setiter_next.lookup, h⟩))

theorem next_set1 {a it : Addr} {Q : Option Value → Shared → Prop} (ho : s.heap.get? a = some (so1 (!byTxt w))) (hi : s.heap.get? it = some (sit 0 0 a)) (hne : a ≠ it)
    (h : ∀ h' j, Heap.SameBut it s.heap h' → h'.get? it = some (sit 1 j a) → (byTxt w = false → j = 2) → Q (some (.bool true)) { s with heap := h' }) : wpAny (model prog w) A (pyNext (.ref it)) Q E s := by
  have hT : s.TypeIs (.ref it) "set_iterator" := ⟨_, hi, rfl⟩
  unfold pyNext
  refine wpAny_bind (wpAny_attempt (wpAny_callSpecial?_slot (name := Str.ofString "__next__") hT slot_setiter_next
    (wpAny_call_entry slot_setiter_next hT entry_setiter_next ?_ (args_setiter_next_1 _))))
  show wpAny _ _ (fieldsOf (.ref it) >>= _) _ _ s
  refine wpAny_bind (wpAny_fieldsOf hi rfl ?_)
  dsimp only [rawInt]
  refine wpAny_bind (wpAny_setEntries_of ho rfl (fits1 _) ?_)
  rw [if_neg (by decide)]
  show wpAny _ _ (setNext a 0 0 1 >>= _) _ _ _
  have hnx : ∀ E' : Value → Shared → Prop, wpAny (model prog w) A.in1 (setNext a 0 0 1) (fun r s' => ∃ j : Nat, (byTxt w = false → j = 2) ∧ r = some (.bool true, j) ∧ s' = s) E' s := by
    intro E'
    unfold setNext setsByText
    refine wpAny_bind (wpAny_setState_of ho rfl (fits1 _) ?_)
    dsimp only
    refine wpAny_bind (wpAny_bind (wpAny_askSetting (wpAny_pure ?_)))
    cases hb : byTxt w with
    | true =>
      rw [if_pos (by exact hb)]
      rw [if_neg (by decide)]
      unfold setWalk setsByText
      refine wpAny_bind (wpAny_bind (wpAny_setState_of ho rfl (fits1 _) ?_))
      dsimp only
      refine wpAny_bind (wpAny_bind (wpAny_askSetting (wpAny_pure ?_)))
      rw [if_pos (by exact hb)]
      refine wpAny_bind (wpAny_askSetting ?_)
      exact wpAny_pure (wpAny_pure ⟨0, ⟨(fun h => nomatch h), (by rw [pick1]; rfl), rfl⟩⟩)
    | false =>
      rw [if_neg (by show ¬ (byTxt w = true); rw [hb]; decide)]
      rw [if_neg (by decide +kernel)]
      refine wpAny_bind (wpAny_of_eq (a := ()) (by rfl) ?_)
      exact wpAny_pure ⟨2, fun _ => rfl, by rfl, rfl⟩
  refine wpAny_bind (wpAny_mono (hnx _) (fun r s' hr => ?_) fun _ _ e => e)
  obtain ⟨j, hj, rfl, rfl⟩ := hr
  dsimp only
  refine wpAny_bind (wpAny_setField hi rfl (by show 0 < 5; decide) ?_)
  have h1 := Heap.get?_update_self (Obj.mapFields (·.setIfInBounds 0 (rawInt j))) hi (by rfl)
  refine wpAny_bind (wpAny_setField h1 rfl (by show 1 < (#[rawInt j, rawInt ↑0, Value.ref a, rawInt 1, rawInt 1] : Array Value).size; show 1 < 5; decide) ?_)
  refine wpAny_pure ⟨_, rfl, wpAny_pure (h _ j ((Heap.SameBut.update ..).trans (Heap.SameBut.update ..)) (Heap.get?_update_self _ h1 (by rfl)) hj)⟩
theorem end_set1 {a it : Addr} {j : Nat} {Q : Option Value → Shared → Prop} (hh : A.handled = none) (ho : s.heap.get? a = some (so1 (!byTxt w))) (hi : s.heap.get? it = some (sit 1 j a)) (hne : a ≠ it) (hj : byTxt w = false → j = 2)
    (h : ∀ h', Heap.ExtBut it s.heap h' → Q none { s with heap := h' }) : wpAny (model prog w) A (pyNext (.ref it)) Q E s := by
  have hT : s.TypeIs (.ref it) "set_iterator" := ⟨_, hi, rfl⟩
  unfold pyNext
  refine wpAny_bind (wpAny_attempt (wpAny_callSpecial?_slot (name := Str.ofString "__next__") hT slot_setiter_next
    (wpAny_call_entry slot_setiter_next hT entry_setiter_next ?_ (args_setiter_next_1 _))))
  show wpAny _ _ (fieldsOf (.ref it) >>= _) _ _ s
  refine wpAny_bind (wpAny_fieldsOf hi rfl ?_)
  dsimp only [rawInt]
  refine wpAny_bind (wpAny_setEntries_of ho rfl (fits1 _) ?_)
  rw [if_neg (by decide)]
  show wpAny _ _ (setNext a j 1 1 >>= _) _ _ _
  have hnx : ∀ E' : Value → Shared → Prop, wpAny (model prog w) A.in1 (setNext a j 1 1) (fun r s' => r = none ∧ s' = s) E' s := by
    intro E'
    unfold setNext setsByText
    refine wpAny_bind (wpAny_setState_of ho rfl (fits1 _) ?_)
    dsimp only
    refine wpAny_bind (wpAny_bind (wpAny_askSetting (wpAny_pure ?_)))
    cases hb : byTxt w with
    | true =>
      rw [if_pos (by exact hb)]
      rw [if_neg (by decide)]
      unfold setWalk setsByText
      refine wpAny_bind (wpAny_bind (wpAny_setState_of ho rfl (fits1 _) ?_))
      dsimp only
      refine wpAny_bind (wpAny_bind (wpAny_askSetting (wpAny_pure ?_)))
      rw [if_pos (by exact hb)]
      refine wpAny_bind (wpAny_askSetting ?_)
      exact wpAny_pure (wpAny_pure ⟨(by rw [pick1]; rfl), rfl⟩)
    | false =>
      rw [if_neg (by show ¬ (byTxt w = true); rw [hb]; decide)]
      rw [if_neg (by decide +kernel)]
      refine wpAny_bind (wpAny_of_eq (a := ()) (by rfl) ?_)
      obtain rfl := hj hb
      exact wpAny_pure ⟨by rfl, rfl⟩
  refine wpAny_bind (wpAny_mono (hnx _) (fun r s' hr => ?_) fun _ _ e => e)
  obtain ⟨rfl, rfl⟩ := hr
  dsimp only
  refine wpAny_bind (wpAny_setField hi rfl (by show 2 < 5; decide) ?_)
  show wpAny _ _ (newExc (.type "StopIteration") [] >>= _) _ _ _
  refine wpAny_bind ?_
  simp only [newExc, newTuple]
  refine wpAny_bind (wpAny_newObj_type ?_ (by size_fits))
  refine wpAny_bind (m := firstArgMember _ _) (wpAny_of_eq (a := Value.none) (by first | rfl | (simp only [firstArgMember]; rfl)) ?_)
  refine wpAny_newObj_type ?_ (by size_fits)
  simp only [raiseNew]
  refine wpAny_bind (wpAny_handled ?_)
  rw [show A.in1.handled = none from hh]
  refine wpAny_bind (wpAny_pure (wpAny_throw ?_))
  refine wpAny_bind (wpAny_isInstance (T := "StopIteration") (b := true) ⟨_, Heap.get?_push_size _ rfl, rfl⟩ isSubtype_stop ?_)
  exact wpAny_pure (h _ (((Heap.SameBut.update ..).extBut.push _).push _))

/-- the one thing within, unpacked -/
theorem unpack_set1 {a : Addr} {Q : List Value → Shared → Prop} (hh : A.handled = none) (ho : s.heap.get? a = some (so1 (!byTxt w)))
    (h : ∀ h', (∀ b o, s.heap.get? b = some o → h'.get? b = some o) → Q [.bool true] { s with heap := h' }) : wpAny (model prog w) A (unpackItems (.ref a) 1 none) Q E s := by
  have hne : a ≠ s.heap.objs.size := Nat.ne_of_lt (Heap.lt_size ho)
  unfold unpackItems
  refine wpAny_bind ?_
  unfold notIterableAtAll
  refine wpAny_bind (wpAny_specialOf (T := "set") ⟨_, ho, rfl⟩ PySem.F.slot_set_iter.lookup ?_)
  refine wpAny_pure ?_
  simp only [Bool.false_eq_true, if_false]
  refine wpAny_bind (wpAny_holding (iter_set1 ho ?_))
  refine wpAny_bind (wpAny_holding ?_)
  show wpAny _ _ (pyNext (.ref s.heap.objs.size) >>= _) _ _ _
  have ho1 : (s.heap.push (sit 0 0 a)).get? a = some (so1 (!byTxt w)) := Heap.get?_push_of_some _ ho
  refine wpAny_bind (next_set1 ho1 (Heap.get?_push_size _ rfl) hne fun h1 j hs1 hi1 hj => ?_)
  have ho2 : h1.get? a = some (so1 (!byTxt w)) := (hs1.2 a hne).trans ho1
  refine wpAny_bind (wpAny_holding ?_)
  show wpAny _ _ (pure []) _ _ _
  refine wpAny_pure (wpAny_pure ?_)
  rw [if_neg (by decide)]
  refine wpAny_bind (wpAny_holding (end_set1 hh ho2 hi1 hne hj fun h2 he2 => ?_))
  simp only [Option.isSome_none, Bool.false_eq_true, if_false]
  refine wpAny_pure (h h2 fun b o e => ?_)
  have hb : b ≠ s.heap.objs.size := Nat.ne_of_lt (Heap.lt_size e)
  exact he2 b o hb (hs1.extBut b o hb (Heap.get?_push_of_some _ e))
end
end Mine

/-! ### Fb4 -/
namespace Mine
open PySem PySem.W PySem.Calls PyProof.Rows PySem.SeqAt

def sob (w : World) (i : Nat) : Obj := if i = 0 then so0 (!byTxt w) else so1 (!byTxt w)
theorem compTurn_set (elt target iter : Expr) (ifs : List Expr) (scope : Scope) (pos : Pos) (it acc : Value) (env : Env) :
    compTurn (.SetComp elt [⟨target, iter, ifs, 0⟩] scope pos) 0 it acc env = (do
      standAt iter.pos
      match ← pyNext it with
      | none => pure (.done .next)
      | some v =>
        letOwnedTupleGo target it v
        assign target env v
        let mut ok := true
        for c in ifs do
          if ok then ok ← isTrue c env (eval c env)
        if ok then
          (do let v ← eval elt env; standAt elt.pos; let _ ← call (.builtin "set.add") [acc, v])
        again (.compLoop (.SetComp elt [⟨target, iter, ifs, 0⟩] scope pos) 0 it acc env)) := by rfl

section
variable {prog : Program} {w : World} {A : Around} {R : Result → Shared → Prop} {s : Shared}
theorem codeAny_compStart_set {elt target iter ifs rest scope pos it acc env}
    (h0 : codeAny (model prog w) A (.compLoop (.SetComp elt (⟨target, iter, ifs, 0⟩ :: rest) scope pos) 0 it acc env) R s)
    (h : wpAny (model prog w) A (pyIter it) (fun it' s' => codeAny (model prog w) A (.compLoop (.SetComp elt (⟨target, iter, ifs, 0⟩ :: rest) scope pos) 0 it' acc env) R s')
      (notedBy (model prog w) A env fun x s' => R (.error x) s') s) :
    codeAny (model prog w) A (.compStart (.SetComp elt (⟨target, iter, ifs, 0⟩ :: rest) scope pos) 0 it acc env) R s := by
  refine codeAny_of_tree ?_
  show wpAny _ _ ((compStart (.SetComp elt (⟨target, iter, ifs, 0⟩ :: rest) scope pos) 0 it acc env).onRaise (fun x => do noteFrame x env; standAt theWindowsPlace)) _ _ s
  refine wpAny_notedAt ?_
  unfold compStart
  show wpAny _ _ (ask >>= _) _ _ s
  refine wpAny_bind (wpAny_askSetting (wpAny_ite ?_))
  split
  · first
      | exact wpAny_bind (wpAny_pure (wpAny_pure (And.intro rfl h0)))
      | exact wpAny_pure (And.intro rfl h0)
  · first
      | exact wpAny_bind (wpAny_rule (wpAny_bind (wpAny_standAt (wpAny_bind (wpAny_mono h (fun it' s' h' => wpAny_pure (And.intro rfl h')) fun _ _ x => x)))))
      | (refine wpAny_bind (wpAny_rule ?_); show wpAny _ _ (standAt iter.pos >>= _) _ _ s; exact wpAny_bind (wpAny_standAt (wpAny_bind (wpAny_mono h (fun it' s' h' => wpAny_pure (And.intro rfl h')) fun _ _ x => x))))
theorem set_turns {elt target iter : Expr} {scope : Scope} {pos : Pos} {it acc : Value} {env : Env} (I : Nat → Shared → Prop)
    (turn : ∀ n s, I n s → ∀ E, wpAny (model prog w) A (pyNext it) (fun r s₁ => match r with
      | none => R (.ok .next) s₁
      | some v => wpAny (model prog w) A (letOwnedTupleGo target it v) (fun _ s₁ => wpAny (model prog w) A (assign target env v) (fun _ s₂ =>
          wpAny (model prog w) A (forIn ([] : List Expr) true fun c r => if r = true then do let ok ← isTrue c env (eval c env); pure (ForInStep.yield ok) else pure (ForInStep.yield r)) (fun ok s₃ =>
            if ok = true then wpAny (model prog w) A (eval elt env) (fun x s₄ =>
              wpAny (model prog w) A (call (.builtin "set.add") [acc, x]) (fun _ s₅ => ∃ m, m < n ∧ I m s₅) E s₄) E s₃
            else ∃ m, m < n ∧ I m s₃) E s₂) E s₁) E s₁) E s)
    (n : Nat) (h : I n s) :
    codeAny (model prog w) A (.compLoop (.SetComp elt [⟨target, iter, [], 0⟩] scope pos) 0 it acc env) R s := by
  refine codeAny_loop rfl I (fun n s hI => ?_) n h
  show wpAny _ A ((compTurn (.SetComp elt [⟨target, iter, [], 0⟩] scope pos) 0 it acc env).onRaise (fun x => do noteFrame x env; theTreesLotGoes x)) _ _ s
  refine wpAny_noted ?_
  rw [compTurn_set]
  refine wpAny_bind (wpAny_standAt (wpAny_bind (wpAny_mono (turn n s hI _) (fun r s₁ h₁ => ?_) fun _ _ h' => h')))
  cases r with
  | none => exact wpAny_pure h₁
  | some v =>
    refine wpAny_bind (wpAny_mono h₁ (fun _ s₁ h₁ => ?_) fun _ _ h' => h')
    refine wpAny_bind (wpAny_mono h₁ (fun _ s₂ h₂ => wpAny_bind (wpAny_mono h₂ (fun ok s₃ h₃ => ?_) fun _ _ h' => h')) fun _ _ h' => h')
    cases ok with
    | false => exact wpAny_pure ⟨rfl, h₃⟩
    | true =>
      refine wpAny_bind (wpAny_bind (wpAny_mono h₃ (fun x s₄ h₄ => ?_) fun _ _ h' => h'))
      exact wpAny_bind (wpAny_standAt (wpAny_bind (wpAny_mono h₄ (fun _ s₅ h₅ => wpAny_pure (wpAny_pure ⟨rfl, h₅⟩)) fun _ _ h' => h')))
end

section
variable {prog : Program} {w : World} {A : Around} {F : List Addr} {B : Heap} {S : List Addr} {h : Heap} {env : Env}
theorem set_core {elt target iter : Expr} {scope : Scope} {pos : Pos} {cl : List (Str × Addr)} {n : Nat} {item : Nat → Value → Heap → Heap → Prop} {vp : Nat → (Str → Option Value) → Heap → Prop}
    {t : Sem Value} (hn0 : 0 < n) (hu : A.units ≤ 8000)
    (hcell : ∀ y ∈ scope.names, y.2 ≠ .cell) (hkind : scope.kind = .function) 
    (hit : Itr prog w A F B S h target t n item) (hasg : ∀ i, i < n → Asg prog w A target (fun C => compEnvC scope cl C env) (item i) (vp i))
    (helt : ∀ i S' h' C, i < n → Tn A F B S h S' h' C (vp i) → Ev prog w A F B S' h' (compEnvC scope cl C env) elt (pbool true))
    (hvp : ∀ i m g g', g.StaysIn g' → vp i m g → vp i m g')
    {s : Shared} (o₀ : Ok A F B S s.heap) (l₀ : Le F B h s.heap) (RR : Value → Addr → Result → Shared → Prop) (E : Value → Shared → Prop)
    (hRR : ∀ D C h' tk m', s.heap.get? D = none → s.heap.get? C = none → D ≠ C → h'.Ns C m' → Le F B s.heap h' → h'.get? D = some (so1 (!byTxt w)) → RR (.ref D) C (.ok .next) { s with heap := h', toks := tk }) :
    wpAny (model prog w) A t (fun x s₁ => wpAny (model prog w) A (pyIter x) (fun it s₂ => wpAny (model prog w) A (newSet (.type "set")) (fun acc s₃ => wpAny (model prog w) A (newFunctionEnv scope env.globals cl [] env.qual none .none (some env)) (fun cenv s₄ =>
      codeAny (model prog w) A (.compStart (.SetComp elt [⟨target, iter, [], 0⟩] scope pos) 0 it acc { cenv with scope := relabel scope env }) (RR acc cenv.locals) s₄) E s₃) E s₂) E s₁) E s := by
  refine hit s _ E o₀ l₀ fun I fp wr P Md St h₁ tk₁ W hst hl₁ hwr hfS hwf hlive hself hitem => ?_
  refine new_set (wpAny_newFunctionEnv hcell (by intro y hy; simp at hy) (fun h₂ hns₂ hsb₂ => ?_) hkind)
  dsimp only at hns₂ hsb₂ ⊢
  generalize hH2 : h₁.push (so0 (!byTxt w)) = H2 at hns₂ hsb₂ ⊢
  have hCeq : H2.objs.size = h₁.objs.size + 1 := by rw [← hH2, Heap.size_push]
  generalize hC : H2.objs.size = C at hns₂ hsb₂ hCeq ⊢
  generalize hD : h₁.objs.size = D at hCeq ⊢
  have freshD : h₁.get? D = none := by
    cases e : h₁.get? D with
    | none => rfl
    | some o => exact absurd (Heap.lt_size e) (by rw [hD]; exact Nat.lt_irrefl _)
  have freshC : h₁.get? C = none := by
    cases e : h₁.get? C with
    | none => rfl
    | some o => exact absurd (Heap.lt_size e) (by rw [hD, hCeq]; exact Nat.not_lt.mpr (Nat.le_succ _))
  have hDC : D ≠ C := by omega
  have sD : s.heap.get? D = none := by
    cases e : s.heap.get? D with
    | none => rfl
    | some o => obtain ⟨o', e'⟩ := hl₁.alive e; rw [freshD] at e'; cases e'
  have sC : s.heap.get? C = none := by
    cases e : s.heap.get? C with
    | none => rfl
    | some o => obtain ⟨o', e'⟩ := hl₁.alive e; rw [freshC] at e'; cases e'
  have notF : ∀ b, s.heap.get? b = none → b ∉ F := fun b hb m => by
    obtain ⟨o, e⟩ := o₀.al b (o₀.fs b m)
    rw [hb] at e; cases e
  have notfp : ∀ b, h₁.get? b = none → b ∉ fp := fun b hb m => by
    obtain ⟨o, e⟩ := hlive 0 h₁ hst b m
    rw [hb] at e; cases e
  have ok₁ := o₀.le hl₁
  have hBg : B.StaysIn (fz wr h₁) := fun b o e => fz_get (ok₁.bh b o e) fun m => by
    have := o₀.bh b o e
    rw [hwr b m] at this; cases this
  have toG : Le F B s.heap (fz wr h₁) := ⟨fun _ => hBg, fun a o e n => fz_get (hl₁.keep a o e n) (fun m => by rw [hwr a m] at e; cases e), fun a o e => by
    obtain ⟨o', e', d'⟩ := hl₁.data a o e
    exact ⟨o', fz_get e' (fun m => by rw [hwr a m] at e; cases e), d'⟩⟩
  let S' := C :: D :: (wr ++ S)
  -- what holds at each heap of the loop
  have facts : ∀ h' m' ys i, Le F B (fz wr h₁) h' → St i h' → h'.Ns C m' → h'.get? D = some ys → Le F B s.heap h' ∧ Ok A F B S' h' ∧ (fz S s.heap).StaysIn (fz S' h') ∧ (fz (wr ++ S) h₁).StaysIn (fz S' h') := by
    intro h' m' ys i l st hn hl
    have ls := toG.trans l
    refine ⟨ls, ⟨ls.base o₀.bh, o₀.fr.le ls, fun a m => .tail _ (.tail _ (List.mem_append_right _ (o₀.fs a m))), fun a m => ?_⟩, ?_, ?_⟩
    · rcases List.mem_cons.mp m with rfl | m
      · obtain ⟨oL, _, _, e, _⟩ := hn; exact ⟨_, e⟩
      · rcases List.mem_cons.mp m with rfl | m
        · exact ⟨_, hl⟩
        · rcases List.mem_append.mp m with m | m
          · exact hlive i h' st a (hwf a m)
          · obtain ⟨o, e⟩ := o₀.al a m; exact ls.alive e
    · refine fz_le ls o₀.fs fun a m => ?_
      rcases List.mem_cons.mp m with rfl | m
      · exact .inr sC
      · rcases List.mem_cons.mp m with rfl | m
        · exact .inr sD
        · rcases List.mem_append.mp m with m | m
          · exact .inr (hwr a m)
          · exact .inl m
    · intro b o e
      obtain ⟨e1, n1⟩ := fz_in e
      have nw : b ∉ wr := fun m => n1 (List.mem_append_left _ m)
      have nS : b ∉ S := fun m => n1 (List.mem_append_right _ m)
      refine fz_get (l.keep b o (fz_get e1 nw) fun m => nS (o₀.fs b m)) fun m => ?_
      rcases List.mem_cons.mp m with rfl | m
      · rw [freshC] at e1; cases e1
      · rcases List.mem_cons.mp m with rfl | m
        · rw [freshD] at e1; cases e1
        · exact n1 m
  have hh₂ : ∀ b o, h₁.get? b = some o → h₂.get? b = some o := fun b o e => hsb₂.extBut b o (by rintro rfl; rw [freshC] at e; cases e) (Heap.get?_push_of_some _ (hH2 ▸ Heap.get?_push_of_some _ e))
  have hacc : h₂.get? D = some (sob w 0) := hsb₂.extBut _ _ hDC (Heap.get?_push_of_some _ (by rw [← hH2, ← hD]; exact Heap.get?_push_size _ rfl))
  have hst₂ : St 0 h₂ := W.frame _ _ _ hst fun b _ o e => hh₂ b o e
  have lg₂ : Le F B (fz wr h₁) h₂ := Le.of_keeps fun b o e => hh₂ b o (fz_in e).1
  have loop : codeAny (model prog w) A (.compLoop (.SetComp elt [⟨target, iter, [], 0⟩] scope pos) 0 (.ref I) (.ref D) (compEnvC scope cl C env)) (RR (.ref D) C) { s with heap := h₂, toks := tk₁ + 0 } := by
    refine set_turns (fun k s' => ∃ h' tk m' i, s' = { s with heap := h', toks := tk } ∧ St i h' ∧ h'.get? D = some (sob w i) ∧ h'.Ns C m' ∧ Le F B (fz wr h₁) h' ∧ i ≤ n ∧ k = n + 1 - i) ?_ (n + 1)
      ⟨h₂, tk₁ + 0, _, 0, rfl, hst₂, hacc, hns₂, lg₂, Nat.zero_le _, rfl⟩
    rintro k s' ⟨h', tk, m', i, rfl, st, hl, hn, lg, hi, rfl⟩ E'
    by_cases hlt : i < n
    · refine W.item i _ _ _ hlt st fun v ha tka hMd hka => ?_
      refine W.go i v _ _ _ hMd fun hb hP stb hkb => ?_
      have Cw : C ∉ wr := fun m => notfp C freshC (hwf C m)
      have Dw : D ∉ wr := fun m => notfp D freshD (hwf D m)
      have kb : ∀ b o, b ∉ wr → h'.get? b = some o → hb.get? b = some o := fun b o nb e => hkb b o nb (hka b o nb e)
      have lgb : Le F B (fz wr h₁) hb := lg.step hBg fun b o ⟨o1, e1⟩ e => kb b o (fz_in e1).2 e
      have nsb : hb.Ns C m' := hn.at' fun o e => kb C o Cw e
      have lsb : hb.get? D = some (sob w i) := kb D _ Dw hl
      obtain ⟨f1, f2, f3, f4⟩ := facts hb m' _ _ lgb stb nsb lsb
      refine hasg i hlt C v (fz S' hb) { s with heap := hb, toks := tka } m' _ _ (hitem i v hb S' hlt hP f4) fz_stays (by
        cases e : (fz S' hb).get? C with
        | none => rfl
        | some o => exact absurd (List.Mem.head _) (fz_in e).2) nsb fun hc mc tkc nsc vpc hkc => ?_
      have lgc : Le F B (fz wr h₁) hc := lgb.step hBg fun b o ⟨o1, e1⟩ e => hkc b o (by rintro rfl; have q := (fz_in e1).1; rw [freshC] at q; cases q) e
      have stc : St (i + 1) hc := W.frame _ _ _ stb fun b m o e => hkc b o (by rintro rfl; exact notfp _ freshC m) e
      have lsc : hc.get? D = some (sob w i) := hkc D _ hDC lsb
      obtain ⟨g1, g2, g3, g4⟩ := facts hc mc _ _ lgc stc nsc lsc
      have stay_bc : (fz S' hb).StaysIn (fz S' hc) := fun b o e => fz_get (hkc b o (by rintro rfl; exact (fz_in e).2 (.head _)) (fz_in e).1) (fz_in e).2
      have stay_b : (fz S' h').StaysIn (fz S' hb) := fun b o e => fz_get (kb b o (fun m => (fz_in e).2 (.tail _ (.tail _ (List.mem_append_left _ m)))) (fz_in e).1) (fz_in e).2
      have tn : Tn A F B S h S' hc C (vp i) := ⟨l₀.trans g1, g2, fun b o e => g3 b o (fz_le l₀ o₀.fs (fun _ m => .inl m) b o e), mc, nsc, hvp i mc _ _ stay_bc vpc⟩
      refine wpAny_tests_nil ?_
      simp only [if_true]
      refine helt i S' hc C hlt tn { s with heap := hc, toks := tkc } _ _ g2 .refl fun y se ge qe => ?_
      obtain ⟨he, tke, rfl, le⟩ := ge
      dsimp only at le qe
      obtain rfl := dat_bool qe
      have lge := lgc.trans le
      have ste : St (i + 1) he := W.frame _ _ _ stc fun b m o e => le.keep b o e fun q => hfS b m (o₀.fs b q)
      have nse := le.ns nsc
      have lse : he.get? D = some (sob w i) := le.keep D _ lsc (notF D sD)
      by_cases h0 : i = 0
      · subst h0
        refine add_true_new hu (show _ = some (so0 (!byTxt w)) from lse) fun tkf => ?_
        have skf := Heap.SameBut.update he D (Obj.putSet #[(1, .bool true)] (tb1 (!byTxt w)))
        have lsf := Heap.get?_update_self (Obj.putSet #[(1, .bool true)] (tb1 (!byTxt w))) (show he.get? D = some (so0 (!byTxt w)) from lse) (by rfl)
        have lgf : Le F B (fz wr h₁) _ := lge.step hBg fun b o ⟨o1, e1⟩ e => skf.extBut b o (by rintro rfl; have q := (fz_in e1).1; rw [freshD] at q; cases q) e
        exact ⟨n + 1 - (0 + 1), by omega, _, tkf, mc, 0 + 1, rfl, W.frame _ _ _ ste fun b m o e => skf.extBut b o (by rintro rfl; exact notfp _ freshD m) e, lsf, nse.sameBut skf (Ne.symm hDC), lgf, hlt, rfl⟩
      · have e1 : sob w i = so1 (!byTxt w) := if_neg h0
        refine add_true_old hu (show _ = some (so1 (!byTxt w)) from e1 ▸ lse) fun tkf => ?_
        exact ⟨n + 1 - (i + 1), by omega, he, tkf, mc, i + 1, rfl, ste, by rw [lse, e1]; rfl, nse, lge, hlt, rfl⟩
    · have hin : i = n := by omega
      subst hin
      refine W.done _ _ _ st fun ha tka hka => ?_
      have Cw : C ∉ wr := fun m => notfp C freshC (hwf C m)
      have Dw : D ∉ wr := fun m => notfp D freshD (hwf D m)
      have lga : Le F B (fz wr h₁) ha := lg.step hBg fun b o ⟨o1, e1⟩ e => hka b o (fz_in e1).2 e
      have nsa : ha.Ns C m' := hn.at' fun o e => hka C o Cw e
      refine hRR D C ha tka m' sD sC hDC nsa (toG.trans lga) ?_
      have e1 : sob w i = so1 (!byTxt w) := if_neg (by omega)
      exact (hka D _ Dw hl).trans (by rw [e1])
  exact codeAny_compStart_set loop (hself _ _ _ hst₂ loop)

end
end Mine

/-! ### Fb5 -/
namespace Mine
open PySem PySem.W PySem.Calls PyProof.Rows PySem.SeqAt

section
variable {prog : Program} {w : World} {A : Around} {F : List Addr} {B : Heap} {S : List Addr} {h : Heap} {env : Env}
def pset1 (w : World) : Pd := ⟨fun v g => ∃ D, v = .ref D ∧ g.get? D = some (so1 (!byTxt w)), fun k ⟨D, e, q⟩ => ⟨D, e, k _ _ q⟩⟩
theorem eval_SetComp (elt gens scope pos) : eval (.SetComp elt gens scope pos) env =
    comprehension (.SetComp elt gens scope pos) scope env (firstIterPos gens pos) (newSet (.type "set")) (firstAsync gens) (firstIter gens env) := rfl
/-- a set comprehension that gives True at each turn -/
theorem ev_setcomp {elt target iter : Expr} {scope : Scope} {pos : Pos} {cl : List (Str × Addr)} {n : Nat} {item : Nat → Value → Heap → Heap → Prop} (vp : Nat → (Str → Option Value) → Heap → Prop)
    (hn0 : 0 < n) (hu : A.units ≤ 8000)
    (hit : Itr prog w A F B S h target (eval iter env) n item) (hasg : ∀ i, i < n → Asg prog w A target (fun C => compEnvC scope cl C env) (item i) (vp i))
    (helt : ∀ i S' h' C, i < n → Tn A F B S h S' h' C (vp i) → Ev prog w A F B S' h' (compEnvC scope cl C env) elt (pbool true))
    (hvp : ∀ i m g g', g.StaysIn g' → vp i m g → vp i m g')
    (hclos : closureFor scope env = pure cl := by rfl) (hcell : ∀ y ∈ scope.names, y.2 ≠ .cell := by decide) (hkind : scope.kind = .function := by rfl)
    (hnames : ∀ x ∈ scope.names, x.2 = .local → scope.names.lookup x.1 = some .local := by decide)
    (hs : ∀ x, foldedSetIterable iter env x = pure x := by intro _; rfl) :
    Ev prog w A F B S h env (.SetComp elt [⟨target, iter, [], 0⟩] scope pos) (pset1 w) := fun s Q E o l₀ k => by
  rw [eval_SetComp]
  refine wpAny_comprehension_free (use := none) rfl hs hclos hkind hnames ?_
  refine set_core hn0 hu hcell hkind hit hasg helt hvp o l₀ (fun acc C => compPost (model prog w) A E none Q acc C) E fun D C h' tk m' hD hC hDC hn hle hp => ?_
  refine ⟨m', hn, fun h'' hs'' => ?_⟩
  have kk : ∀ b o, b ≠ C → h'.get? b = some o → h''.get? b = some o := fun b o n e => hs''.extBut b o n e
  have notC : ∀ b o, s.heap.get? b = some o → b ≠ C := fun b o e q => by rw [q, hC] at e; cases e
  refine k _ _ ⟨h'', tk, rfl, ⟨fun x b o' e => kk b o' (notC b o' (x b o' e)) (hle.base x b o' e), fun a o' e n => kk a o' (notC a o' e) (hle.keep a o' e n), fun a o' e => ?_⟩⟩ ?_
  · obtain ⟨o1, e1, d1⟩ := hle.data a o' e
    exact ⟨o1, kk a o1 (notC a o' e) e1, d1⟩
  · refine ⟨D, rfl, fz_get (kk _ _ hDC hp) fun m => ?_⟩
    obtain ⟨o', e⟩ := o.al D m; rw [hD] at e; cases e
end

section
variable {prog : Program} {w : World} {A : Around} {F : List Addr} {B h₀ : Heap} {S₀ : List Addr} {env : Env} {own : List (Addr × Ow)} {ρ : List (Str × Pd)} {s₀ s : Shared}
/-- x, = a set of True -/
theorem x_unset1 {x : Str} {px tp pos : Pos} {kk : Nat} {e : Expr} {rest : List Stmt} {Q : Flow → Shared → Prop} {E : Value → Shared → Prop} (I : St A F B h₀ S₀ env own ρ s₀ s) (hh : A.handled = none)
    (hev : Ev prog w A F B (SS env own S₀) s.heap env e (pset1 w)) (hx : Kd env x) (k : ∀ s', St A F B h₀ S₀ env own ((x, pbool true) :: ρ) s₀ s' → wpAny (model prog w) A (execs rest env) Q E s')
    (hs : swapsWithSole [.Tuple [.Name x px] kk tp] e pos.line env = pure false := by rfl) (hw : swappedStores [.Tuple [.Name x px] kk tp] e env = pure none := by rfl) :
    wpAny (model prog w) A (execs (.Assign [.Tuple [.Name x px] kk tp] e pos :: rest) env) Q E s := by
  refine wpAny_execs_cons (wpAny_Assign_stores (hev s _ E I.ok .refl fun v s1 g1 q1 => ?_) hs hw)
  have I1 := I.go g1
  obtain ⟨D, rfl, hD⟩ := q1
  show wpAny _ _ (assign (.Tuple [.Name x px] kk tp) env (.ref D)) _ _ _
  show wpAny _ _ (standAt tp >>= fun _ => unpack (.ref D) [(false, assign (.Name x px) env)]) _ _ _
  refine wpAny_bind (wpAny_standAt ?_)
  unfold unpack
  refine wpAny_bind (wpAny_holding ?_)
  show wpAny _ _ (unpackItems (.ref D) 1 none) _ _ _
  refine unpack_set1 hh (fz_in hD).1 fun h2 hk2 => ?_
  have I2 := I1.go (s' := { s1 with heap := h2 }) ⟨h2, s1.toks, rfl, .of_keeps hk2⟩
  show wpAny _ _ (PySem.holding [] (assign (.Name x px) env (.bool true)) >>= fun _ => pure ()) _ _ _
  refine wpAny_bind (wpAny_holding (wpAny_assign_Name (I2.store (P := pbool true) (dat_bool_in true) hx fun s3 I3 => ?_)))
  exact wpAny_pure (k s3 I3)
end
end Mine

/-! ### Fb6 -/
namespace Mine
open PySem PySem.W PySem.Calls PyProof.Rows PySem.SeqAt
open AutoSeq1 (wpAny_loadPart')

/-! ## lists of texts in order -/
def ltL : List (List Nat) → List (List Nat) → Bool
  | [], [] => false
  | [], _ :: _ => true
  | _ :: _, [] => false
  | x :: xs, y :: ys => if x = y then ltL xs ys else decide (x < y)
def ordL (g : Bool) (xs ys : List (List Nat)) : Bool := if g then ltL ys xs else ltL xs ys
def opOf (g : Bool) : CmpOp := if g then .Gt else .Lt
def codeOf (g : Bool) : Int := if g then 4 else 0

def TxtsAt (items : Array Value) (xs : List (List Nat)) : Prop := items.size = xs.length ∧ ∀ (i : Nat) (v : Value), items[i]? = some v → ∃ t, v = .str (S (xs[i]?.getD [])) t

theorem cps_S (l : List Nat) : (S l).cps.toList = l := S_cps l
theorem rich_str {prog : Program} {w : World} {A : Around} {E : Value → Shared → Prop} {s : Shared} (g : Bool) {x y : List Nat} {t u : Tok} {Q : Value → Shared → Prop}
    (h : Q (.bool (if g then decide (y < x) else decide (x < y))) s) : wpAny (model prog w) A (richCompare (opOf g) (.str (S x) t) (.str (S y) u)) Q E s := by
  cases g
  · exact (show wpAny (model prog w) A (compareOp .Lt (.str (S x) t) (.str (S y) u)) Q E s from P.lt_str (by rw [cps_S, cps_S]; exact h))
  · exact (show wpAny (model prog w) A (compareOp .Gt (.str (S x) t) (.str (S y) u)) Q E s from P.gt_str (by rw [cps_S, cps_S]; exact h))

set_option maxHeartbeats 4000000 in
theorem ord_loop (g : Bool) (l b : Addr) (items items2 : Array Value) (n n2 : Nat) (xs ys : List (List Nat)) (d1 d2 : Option Addr) (sl1 sl2 : Array (Option Value)) (hx : TxtsAt items xs) (hy : TxtsAt items2 ys) (k : Nat) :
    ∀ i : Nat, items.size - i = k → Meets (Builtin.«list.__eq__.loop» ⟨[.ref l, .ref b, rawInt i, rawInt (codeOf g)], []⟩)
      (fun _ R s => s.heap.get? l = some { cls := .type "list", dict := d1, data := .seq items n, slots := sl1 } ∧ s.heap.get? b = some { cls := .type "list", dict := d2, data := .seq items2 n2, slots := sl2 } ∧ i ≤ items.size ∧ i ≤ items2.size ∧
        R (.ok (.ret (.bool (ordL g (xs.drop i) (ys.drop i))))) s) := by
  induction k with
  | zero =>
    intro i hk prog w A R s h
    obtain ⟨hp, gg, d, tk, os⟩ := s; obtain ⟨hl, hb, hle, hle2, h⟩ := h
    have hi : i = items.size := by omega
    have hi1 : items[((i : Nat) : Int).toNat]? = none := by rw [Int.toNat_natCast]; exact Array.getElem?_eq_none (by omega)
    have e1 : xs.drop i = [] := by rw [hi, hx.1]; simp
    rw [e1] at h
    cases g
    · wp_walk using wpAny_loadPart' hl, wpAny_loadPart' hb
      rw [hi1]
      wp_walk using wpAny_loadPart' hl, wpAny_loadPart' hb
      show R (.ok (.ret (.bool (decide (items.size < items2.size))))) _
      have : decide (items.size < items2.size) = ordL false [] (ys.drop i) := by
        show _ = ltL [] (ys.drop i)
        cases hd : ys.drop i with
        | nil => rw [List.drop_eq_nil_iff] at hd; exact decide_eq_false (by rw [hy.1]; omega)
        | cons y r =>
          have : (ys.drop i).length = r.length + 1 := by rw [hd]; rfl
          rw [List.length_drop] at this
          exact decide_eq_true (by rw [hy.1]; omega)
      rw [this]; exact h
    · wp_walk using wpAny_loadPart' hl, wpAny_loadPart' hb
      rw [hi1]
      wp_walk using wpAny_loadPart' hl, wpAny_loadPart' hb
      show R (.ok (.ret (.bool (decide (items.size > items2.size))))) _
      have : decide (items.size > items2.size) = ordL true [] (ys.drop i) := by
        show _ = ltL (ys.drop i) []
        rw [decide_eq_false (by omega)]
        cases ys.drop i <;> rfl
      rw [this]; exact h
  | succ k ih =>
    intro i hk prog w A R s h
    obtain ⟨hp, gg, d, tk, os⟩ := s; obtain ⟨hl, hb, hle, hle2, h⟩ := h
    have hlt : i < items.size := by omega
    have hi1 : items[((i : Nat) : Int).toNat]? = some items[i] := by rw [Int.toNat_natCast]; exact Array.getElem?_eq_getElem hlt
    have hxl : i < xs.length := by rw [← hx.1]; exact hlt
    have ex : xs.drop i = xs[i] :: xs.drop (i + 1) := List.drop_eq_getElem_cons hxl
    have hc : ((i : Int) + 1) = ((i + 1 : Nat) : Int) := by push_cast; rfl
    by_cases hlt2 : i < items2.size
    · have hi2 : items2[((i : Nat) : Int).toNat]? = some items2[i] := by rw [Int.toNat_natCast]; exact Array.getElem?_eq_getElem hlt2
      have hyl : i < ys.length := by rw [← hy.1]; exact hlt2
      have ey : ys.drop i = ys[i] :: ys.drop (i + 1) := List.drop_eq_getElem_cons hyl
      obtain ⟨t, et⟩ := hx.2 i _ (Array.getElem?_eq_getElem hlt)
      obtain ⟨u, eu⟩ := hy.2 i _ (Array.getElem?_eq_getElem hlt2)
      rw [List.getElem?_eq_getElem hxl, Option.getD_some] at et
      rw [List.getElem?_eq_getElem hyl, Option.getD_some] at eu
      rw [ex, ey] at h
      have hSx : (S xs[i] = S ys[i]) ↔ xs[i] = ys[i] := ⟨S_inj, fun e => by rw [e]⟩
      cases g
      · wp_walk using wpAny_loadPart' hl, wpAny_loadPart' hb
        rw [hi1, hi2, et, eu]
        refine wpAny_bind (wpAny_eqBool_str ?_)
        by_cases he : xs[i] = ys[i]
        · rw [decide_eq_true (hSx.mpr he)]
          rw [show ordL false (xs[i] :: xs.drop (i + 1)) (ys[i] :: ys.drop (i + 1)) = ordL false (xs.drop (i + 1)) (ys.drop (i + 1)) from if_pos he] at h
          wp_walk
          rw [hc]
          exact ⟨plainId_quiet MeetsSeq3.plain_eq_loop _, codeAny_builtin MeetsSeq3.entry_eq_loop (by
            rw [Around.under_plainId MeetsSeq3.plain_eq_loop _]
            exact ih (i + 1) (by omega) prog w A R _ ⟨hl, hb, hlt, hlt2, h⟩)⟩
        · rw [decide_eq_false (fun e => he (hSx.mp e))]
          rw [show ordL false (xs[i] :: xs.drop (i + 1)) (ys[i] :: ys.drop (i + 1)) = decide (xs[i] < ys[i]) from if_neg he] at h
          wp_walk using wpAny_loadPart' hl, wpAny_loadPart' hb
          rw [hi1, hi2, et, eu]
          dsimp only
          refine wpAny_bind (rich_str false ?_)
          exact wpAny_pure h
      · wp_walk using wpAny_loadPart' hl, wpAny_loadPart' hb
        rw [hi1, hi2, et, eu]
        refine wpAny_bind (wpAny_eqBool_str ?_)
        by_cases he : xs[i] = ys[i]
        · rw [decide_eq_true (hSx.mpr he)]
          rw [show ordL true (xs[i] :: xs.drop (i + 1)) (ys[i] :: ys.drop (i + 1)) = ordL true (xs.drop (i + 1)) (ys.drop (i + 1)) from if_pos he.symm] at h
          wp_walk
          rw [hc]
          exact ⟨plainId_quiet MeetsSeq3.plain_eq_loop _, codeAny_builtin MeetsSeq3.entry_eq_loop (by
            rw [Around.under_plainId MeetsSeq3.plain_eq_loop _]
            exact ih (i + 1) (by omega) prog w A R _ ⟨hl, hb, hlt, hlt2, h⟩)⟩
        · rw [decide_eq_false (fun e => he (hSx.mp e))]
          rw [show ordL true (xs[i] :: xs.drop (i + 1)) (ys[i] :: ys.drop (i + 1)) = decide (ys[i] < xs[i]) from if_neg (fun e : ys[i] = xs[i] => he e.symm)] at h
          wp_walk using wpAny_loadPart' hl, wpAny_loadPart' hb
          rw [hi1, hi2, et, eu]
          dsimp only
          refine wpAny_bind (rich_str true ?_)
          exact wpAny_pure h
    · have hi2 : items2[((i : Nat) : Int).toNat]? = none := by rw [Int.toNat_natCast]; exact Array.getElem?_eq_none (by omega)
      have hie : i = items2.size := by omega
      have ey : ys.drop i = [] := by rw [hie, hy.1]; simp
      rw [ex, ey] at h
      cases g
      · wp_walk using wpAny_loadPart' hl, wpAny_loadPart' hb
        rw [hi1, hi2]
        wp_walk using wpAny_loadPart' hl, wpAny_loadPart' hb
        show R (.ok (.ret (.bool (decide (items.size < items2.size))))) _
        rw [decide_eq_false (by omega)]
        exact h
      · wp_walk using wpAny_loadPart' hl, wpAny_loadPart' hb
        rw [hi1, hi2]
        wp_walk using wpAny_loadPart' hl, wpAny_loadPart' hb
        show R (.ok (.ret (.bool (decide (items.size > items2.size))))) _
        rw [decide_eq_true (by omega)]
        exact h

theorem list_ord (g : Bool) (l b : Addr) (items items2 : Array Value) (n n2 : Nat) (xs ys : List (List Nat)) (d1 d2 : Option Addr) (sl1 sl2 : Array (Option Value)) (hx : TxtsAt items xs) (hy : TxtsAt items2 ys) :
    Meets ((if g then Builtin.«list.__gt__» else Builtin.«list.__lt__») ⟨[.ref l, .ref b], []⟩)
      (fun _ R s => s.heap.get? l = some { cls := .type "list", dict := d1, data := .seq items n, slots := sl1 } ∧ s.heap.get? b = some { cls := .type "list", dict := d2, data := .seq items2 n2, slots := sl2 } ∧
        R (.ok (.ret (.bool (ordL g xs ys)))) s) := by
  intro prog w A R s h
  obtain ⟨hp, gg, d, tk, os⟩ := s; obtain ⟨hl, hb, h⟩ := h
  have f3 := AutoSeq1.sub_list_list
  cases g
  · simp only [Bool.false_eq_true, if_false]
    wp_walk using wpAny_loadPart' hl, wpAny_loadPart' hb
    exact ⟨plainId_quiet MeetsSeq3.plain_eq_loop _, codeAny_builtin MeetsSeq3.entry_eq_loop (by
      rw [Around.under_plainId MeetsSeq3.plain_eq_loop _]
      exact ord_loop false l b items items2 n n2 xs ys d1 d2 sl1 sl2 hx hy _ 0 rfl prog w A R _ ⟨hl, hb, Nat.zero_le _, Nat.zero_le _, h⟩)⟩
  · simp only [if_true]
    wp_walk using wpAny_loadPart' hl, wpAny_loadPart' hb
    exact ⟨plainId_quiet MeetsSeq3.plain_eq_loop _, codeAny_builtin MeetsSeq3.entry_eq_loop (by
      rw [Around.under_plainId MeetsSeq3.plain_eq_loop _]
      exact ord_loop true l b items items2 n n2 xs ys d1 d2 sl1 sl2 hx hy _ 0 rfl prog w A R _ ⟨hl, hb, Nat.zero_le _, Nat.zero_le _, h⟩)⟩
end Mine

/-! ### Fb7 -/
namespace Mine
open PySem PySem.W PySem.Calls PyProof.Rows PySem.SeqAt

section
variable {prog : Program} {w : World} {A : Around} {E : Value → Shared → Prop} {s : Shared}
theorem min_two {l : Addr} {v0 v1 : Value} {g : Heap} {c : Bool} {Q : Value → Shared → Prop} (hh : A.handled = none) (hl : g.IsList l #[v0, v1]) (hg : g.StaysIn s.heap)
    (hcmp : ∀ s' (Q' : Value → Shared → Prop) (E' : Value → Shared → Prop), g.StaysIn s'.heap → Q' (.bool c) s' → wpAny (model prog w) A.in1 (richCompare .Lt v1 v0) Q' E' s')
    (hQ : ∀ h' tk, (∀ b o, s.heap.get? b = some o → h'.get? b = some o) → Q (if c then v1 else v0) { s with heap := h', toks := tk }) :
    wpAny (model prog w) A (call (.builtin "min") [.ref l]) Q E s := by
  have hname : (toString "min" ++ toString ".loop" : String) = "min.loop" := by decide
  have up : ∀ {h' : Heap}, g.StaysIn h' → h'.IsList l #[v0, v1] := fun k => by obtain ⟨o, e, r⟩ := hl; exact ⟨o, k _ _ e, r⟩
  have live : ∀ b o, g.get? b = some o → b < s.heap.objs.size := fun b o e => Heap.lt_size (hg b o e)
  have ll : l < s.heap.objs.size := by obtain ⟨o, e, r⟩ := hl; exact live _ _ e
  refine call_function_tree PySem.F.kind_min PySem.F.plain_min PySem.F.entry_min (PySem.F.args_min1 _) ?_
  show wpAny _ A.in1 (Builtin.Builtins.bindParams "min" ["key", "default"] 0 ⟨[], []⟩ >>= _) _ _ s
  refine wpAny_bind (wpAny_of_eq (show Builtin.Builtins.bindParams "min" ["key", "default"] 0 ⟨[], []⟩ = pure [none, none] from rfl) ?_)
  refine wpAny_bind (wpAny_pure ?_)
  refine wpAny_bind (wpAny_pyIter_list (up hg) ?_)
  refine wpAny_bind (wpAny_newObj_type ?_ (Nat.zero_le _))
  rw [hname]
  generalize hH : (s.heap.push { cls := .type "list_iterator", data := .fields #[.ref l, .int 0 0] }) = H1
  have z1 : H1.objs.size = s.heap.objs.size + 1 := by rw [← hH]; exact Heap.size_push ..
  have k1 : ∀ b o, s.heap.get? b = some o → H1.get? b = some o := fun b o e => hH ▸ Heap.get?_push_of_some _ e
  have i1 : H1.IsListIter s.heap.objs.size l 0 := ⟨_, by rw [← hH]; exact Heap.get?_push_size _ rfl, rfl, rfl⟩
  generalize hI : s.heap.objs.size = I at i1 z1 ll live ⊢
  generalize hS : H1.objs.size = S at z1 ⊢
  have hSI : S ≠ I := by rw [z1]; exact Nat.succ_ne_self _
  have gI : ∀ b o, g.get? b = some o → b ≠ I := fun b o e q => Nat.lt_irrefl _ (q ▸ live b o e)
  have gS : ∀ b o, g.get? b = some o → b ≠ S := fun b o e q => by have := live b o e; rw [q, z1] at this; exact Nat.lt_irrefl _ (Nat.lt_of_succ_lt this)
  have sI : ∀ b o, s.heap.get? b = some o → b ≠ I := fun b o e q => by have := Heap.lt_size e; rw [hI, q] at this; exact Nat.lt_irrefl _ this
  have sS : ∀ b o, s.heap.get? b = some o → b ≠ S := fun b o e q => by have := Heap.lt_size e; rw [hI, q, z1] at this; exact Nat.lt_irrefl _ (Nat.lt_of_succ_lt this)
  -- the heaps from here on: old things stand, S and I turn
  have p2 : ∀ b o, s.heap.get? b = some o → (H1.push { cls := .type "list", data := .seq ([] : List Value).toArray }).get? b = some o := fun b o e => Heap.get?_push_of_some _ (k1 b o e)
  have n2 : (H1.push { cls := .type "list", data := .seq ([] : List Value).toArray }).get? S = some { cls := .type "list", data := .seq ([] : List Value).toArray } := hS ▸ Heap.get?_push_size _ rfl
  have i2 : (H1.push { cls := .type "list", data := .seq ([] : List Value).toArray }).IsListIter I l 0 := by obtain ⟨o, e, r⟩ := i1; exact ⟨o, Heap.get?_push_of_some _ e, r⟩
  generalize (H1.push { cls := .type "list", data := .seq ([] : List Value).toArray }) = H2 at p2 n2 i2 ⊢
  refine wpAny_pure ⟨plainId_quiet PySem.F.plain_min_loop _, codeAny_builtin PySem.F.entry_min_loop ?_⟩
  rw [Around.under_plainId PySem.F.plain_min_loop _]
  show wpAny _ A.in1 (seqItems? (.ref S) >>= _) _ _ _
  refine wpAny_bind (wpAny_seqItems n2 rfl ?_)
  show wpAny _ A.in1 (tryCatch (pyNext (.ref I)) _ >>= _) _ _ _
  refine wpAny_bind (wpAny_tryCatch (wpAny_pyNext_list_item i2 (up fun b o e => p2 b o (hg b o e)) (x := v0) rfl fun H3 i3 s3 => ?_))
  have p3 : ∀ b o, s.heap.get? b = some o → H3.get? b = some o := fun b o e => (s3.2 b (sI b o e)).trans (p2 b o e)
  have n3 := (s3.2 S hSI).trans n2
  show wpAny _ A.in1 (updateSeq S (fun _ => #[v0, v0]) >>= _) _ _ _
  refine wpAny_bind (wpAny_updateSeq n3 rfl ?_ (Nat.zero_le _) (by show 2 ≤ _; decide))
  rw [hname]
  have n4 := Heap.get?_update_self (Obj.mapSeq (fun _ => #[v0, v0])) n3 rfl
  have p4 : ∀ b o, s.heap.get? b = some o → (H3.update S (Obj.mapSeq (fun _ => #[v0, v0]))).get? b = some o := fun b o e => (Heap.get?_update_other _ _ (Ne.symm (sS b o e))).trans (p3 b o e)
  have i4 : (H3.update S (Obj.mapSeq (fun _ => #[v0, v0]))).IsListIter I l 1 := by obtain ⟨o, e, r⟩ := i3; exact ⟨o, (Heap.get?_update_other _ _ hSI).trans e, r⟩
  generalize (H3.update S (Obj.mapSeq (fun _ => #[v0, v0]))) = H4 at p4 n4 i4 ⊢
  refine wpAny_pure ⟨plainId_quiet PySem.F.plain_min_loop _, codeAny_builtin PySem.F.entry_min_loop ?_⟩
  rw [Around.under_plainId PySem.F.plain_min_loop _]
  show wpAny _ A.in1 (seqItems? (.ref S) >>= _) _ _ _
  refine wpAny_bind (wpAny_seqItems n4 rfl ?_)
  show wpAny _ A.in1 (tryCatch (pyNext (.ref I)) _ >>= _) _ _ _
  refine wpAny_bind (wpAny_tryCatch (wpAny_pyNext_list_item i4 (up fun b o e => p4 b o (hg b o e)) (x := v1) rfl fun H5 i5 s5 => ?_))
  have p5 : ∀ b o, s.heap.get? b = some o → H5.get? b = some o := fun b o e => (s5.2 b (sI b o e)).trans (p4 b o e)
  have n5 := (s5.2 S hSI).trans n4
  show wpAny _ A.in1 (tryCatch (PySem.holding [v1, v1] (richCompare .Lt v1 v0 >>= _)) _ >>= _) _ _ _
  refine wpAny_bind (wpAny_tryCatch (wpAny_holding (wpAny_bind (hcmp _ _ _ (fun b o e => p5 b o (hg b o e)) ?_))))
  refine wpAny_bind (wpAny_holding (wpAny_truthy_bool ?_))
  refine wpAny_bind (wpAny_letGo (wpAny_pure ?_))
  have last : ∀ (H6 : Heap) (vb : Value) (cc : Nat), (∀ b o, s.heap.get? b = some o → H6.get? b = some o) → H6.get? S = some { cls := .type "list", data := .seq #[vb, vb] cc } → H6.IsListIter I l 2 → vb = (if c then v1 else v0) →
      codeAny (model prog w) A (.builtin "min.loop" ⟨[.ref I, .none, .ref S], []⟩) (wants Q E) { s with heap := H6 } := by
    intro H6 vb cc p6 n6 i6 hvb
    refine codeAny_builtin PySem.F.entry_min_loop ?_
    rw [Around.under_plainId PySem.F.plain_min_loop _]
    show wpAny _ A.in1 (seqItems? (.ref S) >>= _) _ _ _
    refine wpAny_bind (wpAny_seqItems n6 rfl ?_)
    show wpAny _ A.in1 (tryCatch (pyNext (.ref I)) _ >>= _) _ _ _
    refine wpAny_bind (wpAny_tryCatch (wpAny_pyNext_list_end (by exact hh) i6 (up fun b o e => p6 b o (hg b o e)) rfl fun H7 e7 => ?_))
    have n7 := e7 S _ hSI n6
    show wpAny _ A.in1 (updateSeq S (fun _ => #[]) >>= _) _ _ _
    refine wpAny_bind ?_
    refine wpAny_updateSeq n7 rfl (wpAny_bind (wpAny_letGo (wpAny_pure ?_))) (by show 2 ≤ _; decide) (Nat.zero_le _)
    rw [hvb]
    exact hQ _ s.toks fun b o e => (Heap.get?_update_other _ _ (Ne.symm (sS b o e))).trans (e7 b o (sI b o e) (p6 b o e))
  cases hc : c with
  | true =>
    simp only [if_true]
    refine wpAny_bind ?_
    refine wpAny_updateSeq n5 rfl (wpAny_bind (wpAny_letGo ?_)) (by show 2 ≤ _; decide) (by show 2 ≤ _; decide)
    rw [hname]
    refine wpAny_pure ⟨plainId_quiet PySem.F.plain_min_loop _, last _ v1 _ (fun b o e => (Heap.get?_update_other _ _ (Ne.symm (sS b o e))).trans (p5 b o e)) (Heap.get?_update_self _ n5 rfl) ?_ (by rw [hc]; rfl)⟩
    obtain ⟨o, e, r⟩ := i5
    exact ⟨o, (Heap.get?_update_other _ _ hSI).trans e, r⟩
  | false =>
    simp only [Bool.false_eq_true, if_false]
    refine wpAny_bind (wpAny_letGo ?_)
    rw [hname]
    exact wpAny_pure ⟨plainId_quiet PySem.F.plain_min_loop _, last _ v0 _ p5 n5 i5 (by rw [hc]; rfl)⟩
theorem max_two {l : Addr} {v0 v1 : Value} {g : Heap} {c : Bool} {Q : Value → Shared → Prop} (hh : A.handled = none) (hl : g.IsList l #[v0, v1]) (hg : g.StaysIn s.heap)
    (hcmp : ∀ s' (Q' : Value → Shared → Prop) (E' : Value → Shared → Prop), g.StaysIn s'.heap → Q' (.bool c) s' → wpAny (model prog w) A.in1 (richCompare .Gt v1 v0) Q' E' s')
    (hQ : ∀ h' tk, (∀ b o, s.heap.get? b = some o → h'.get? b = some o) → Q (if c then v1 else v0) { s with heap := h', toks := tk }) :
    wpAny (model prog w) A (call (.builtin "max") [.ref l]) Q E s := by
  have hname : (toString "max" ++ toString ".loop" : String) = "max.loop" := by decide
  have up : ∀ {h' : Heap}, g.StaysIn h' → h'.IsList l #[v0, v1] := fun k => by obtain ⟨o, e, r⟩ := hl; exact ⟨o, k _ _ e, r⟩
  have live : ∀ b o, g.get? b = some o → b < s.heap.objs.size := fun b o e => Heap.lt_size (hg b o e)
  have ll : l < s.heap.objs.size := by obtain ⟨o, e, r⟩ := hl; exact live _ _ e
  refine call_function_tree PySem.F.kind_max PySem.F.plain_max PySem.F.entry_max (PySem.F.args_max1 _) ?_
  show wpAny _ A.in1 (Builtin.Builtins.bindParams "max" ["key", "default"] 0 ⟨[], []⟩ >>= _) _ _ s
  refine wpAny_bind (wpAny_of_eq (show Builtin.Builtins.bindParams "max" ["key", "default"] 0 ⟨[], []⟩ = pure [none, none] from rfl) ?_)
  refine wpAny_bind (wpAny_pure ?_)
  refine wpAny_bind (wpAny_pyIter_list (up hg) ?_)
  refine wpAny_bind (wpAny_newObj_type ?_ (Nat.zero_le _))
  rw [hname]
  generalize hH : (s.heap.push { cls := .type "list_iterator", data := .fields #[.ref l, .int 0 0] }) = H1
  have z1 : H1.objs.size = s.heap.objs.size + 1 := by rw [← hH]; exact Heap.size_push ..
  have k1 : ∀ b o, s.heap.get? b = some o → H1.get? b = some o := fun b o e => hH ▸ Heap.get?_push_of_some _ e
  have i1 : H1.IsListIter s.heap.objs.size l 0 := ⟨_, by rw [← hH]; exact Heap.get?_push_size _ rfl, rfl, rfl⟩
  generalize hI : s.heap.objs.size = I at i1 z1 ll live ⊢
  generalize hS : H1.objs.size = S at z1 ⊢
  have hSI : S ≠ I := by rw [z1]; exact Nat.succ_ne_self _
  have gI : ∀ b o, g.get? b = some o → b ≠ I := fun b o e q => Nat.lt_irrefl _ (q ▸ live b o e)
  have gS : ∀ b o, g.get? b = some o → b ≠ S := fun b o e q => by have := live b o e; rw [q, z1] at this; exact Nat.lt_irrefl _ (Nat.lt_of_succ_lt this)
  have sI : ∀ b o, s.heap.get? b = some o → b ≠ I := fun b o e q => by have := Heap.lt_size e; rw [hI, q] at this; exact Nat.lt_irrefl _ this
  have sS : ∀ b o, s.heap.get? b = some o → b ≠ S := fun b o e q => by have := Heap.lt_size e; rw [hI, q, z1] at this; exact Nat.lt_irrefl _ (Nat.lt_of_succ_lt this)
  -- the heaps from here on: old things stand, S and I turn
  have p2 : ∀ b o, s.heap.get? b = some o → (H1.push { cls := .type "list", data := .seq ([] : List Value).toArray }).get? b = some o := fun b o e => Heap.get?_push_of_some _ (k1 b o e)
  have n2 : (H1.push { cls := .type "list", data := .seq ([] : List Value).toArray }).get? S = some { cls := .type "list", data := .seq ([] : List Value).toArray } := hS ▸ Heap.get?_push_size _ rfl
  have i2 : (H1.push { cls := .type "list", data := .seq ([] : List Value).toArray }).IsListIter I l 0 := by obtain ⟨o, e, r⟩ := i1; exact ⟨o, Heap.get?_push_of_some _ e, r⟩
  generalize (H1.push { cls := .type "list", data := .seq ([] : List Value).toArray }) = H2 at p2 n2 i2 ⊢
  refine wpAny_pure ⟨plainId_quiet PySem.F.plain_max_loop _, codeAny_builtin PySem.F.entry_max_loop ?_⟩
  rw [Around.under_plainId PySem.F.plain_max_loop _]
  show wpAny _ A.in1 (seqItems? (.ref S) >>= _) _ _ _
  refine wpAny_bind (wpAny_seqItems n2 rfl ?_)
  show wpAny _ A.in1 (tryCatch (pyNext (.ref I)) _ >>= _) _ _ _
  refine wpAny_bind (wpAny_tryCatch (wpAny_pyNext_list_item i2 (up fun b o e => p2 b o (hg b o e)) (x := v0) rfl fun H3 i3 s3 => ?_))
  have p3 : ∀ b o, s.heap.get? b = some o → H3.get? b = some o := fun b o e => (s3.2 b (sI b o e)).trans (p2 b o e)
  have n3 := (s3.2 S hSI).trans n2
  show wpAny _ A.in1 (updateSeq S (fun _ => #[v0, v0]) >>= _) _ _ _
  refine wpAny_bind (wpAny_updateSeq n3 rfl ?_ (Nat.zero_le _) (by show 2 ≤ _; decide))
  rw [hname]
  have n4 := Heap.get?_update_self (Obj.mapSeq (fun _ => #[v0, v0])) n3 rfl
  have p4 : ∀ b o, s.heap.get? b = some o → (H3.update S (Obj.mapSeq (fun _ => #[v0, v0]))).get? b = some o := fun b o e => (Heap.get?_update_other _ _ (Ne.symm (sS b o e))).trans (p3 b o e)
  have i4 : (H3.update S (Obj.mapSeq (fun _ => #[v0, v0]))).IsListIter I l 1 := by obtain ⟨o, e, r⟩ := i3; exact ⟨o, (Heap.get?_update_other _ _ hSI).trans e, r⟩
  generalize (H3.update S (Obj.mapSeq (fun _ => #[v0, v0]))) = H4 at p4 n4 i4 ⊢
  refine wpAny_pure ⟨plainId_quiet PySem.F.plain_max_loop _, codeAny_builtin PySem.F.entry_max_loop ?_⟩
  rw [Around.under_plainId PySem.F.plain_max_loop _]
  show wpAny _ A.in1 (seqItems? (.ref S) >>= _) _ _ _
  refine wpAny_bind (wpAny_seqItems n4 rfl ?_)
  show wpAny _ A.in1 (tryCatch (pyNext (.ref I)) _ >>= _) _ _ _
  refine wpAny_bind (wpAny_tryCatch (wpAny_pyNext_list_item i4 (up fun b o e => p4 b o (hg b o e)) (x := v1) rfl fun H5 i5 s5 => ?_))
  have p5 : ∀ b o, s.heap.get? b = some o → H5.get? b = some o := fun b o e => (s5.2 b (sI b o e)).trans (p4 b o e)
  have n5 := (s5.2 S hSI).trans n4
  show wpAny _ A.in1 (tryCatch (PySem.holding [v1, v1] (richCompare .Gt v1 v0 >>= _)) _ >>= _) _ _ _
  refine wpAny_bind (wpAny_tryCatch (wpAny_holding (wpAny_bind (hcmp _ _ _ (fun b o e => p5 b o (hg b o e)) ?_))))
  refine wpAny_bind (wpAny_holding (wpAny_truthy_bool ?_))
  refine wpAny_bind (wpAny_letGo (wpAny_pure ?_))
  have last : ∀ (H6 : Heap) (vb : Value) (cc : Nat), (∀ b o, s.heap.get? b = some o → H6.get? b = some o) → H6.get? S = some { cls := .type "list", data := .seq #[vb, vb] cc } → H6.IsListIter I l 2 → vb = (if c then v1 else v0) →
      codeAny (model prog w) A (.builtin "max.loop" ⟨[.ref I, .none, .ref S], []⟩) (wants Q E) { s with heap := H6 } := by
    intro H6 vb cc p6 n6 i6 hvb
    refine codeAny_builtin PySem.F.entry_max_loop ?_
    rw [Around.under_plainId PySem.F.plain_max_loop _]
    show wpAny _ A.in1 (seqItems? (.ref S) >>= _) _ _ _
    refine wpAny_bind (wpAny_seqItems n6 rfl ?_)
    show wpAny _ A.in1 (tryCatch (pyNext (.ref I)) _ >>= _) _ _ _
    refine wpAny_bind (wpAny_tryCatch (wpAny_pyNext_list_end (by exact hh) i6 (up fun b o e => p6 b o (hg b o e)) rfl fun H7 e7 => ?_))
    have n7 := e7 S _ hSI n6
    show wpAny _ A.in1 (updateSeq S (fun _ => #[]) >>= _) _ _ _
    refine wpAny_bind ?_
    refine wpAny_updateSeq n7 rfl (wpAny_bind (wpAny_letGo (wpAny_pure ?_))) (by show 2 ≤ _; decide) (Nat.zero_le _)
    rw [hvb]
    exact hQ _ s.toks fun b o e => (Heap.get?_update_other _ _ (Ne.symm (sS b o e))).trans (e7 b o (sI b o e) (p6 b o e))
  cases hc : c with
  | true =>
    simp only [if_true]
    refine wpAny_bind ?_
    refine wpAny_updateSeq n5 rfl (wpAny_bind (wpAny_letGo ?_)) (by show 2 ≤ _; decide) (by show 2 ≤ _; decide)
    rw [hname]
    refine wpAny_pure ⟨plainId_quiet PySem.F.plain_max_loop _, last _ v1 _ (fun b o e => (Heap.get?_update_other _ _ (Ne.symm (sS b o e))).trans (p5 b o e)) (Heap.get?_update_self _ n5 rfl) ?_ (by rw [hc]; rfl)⟩
    obtain ⟨o, e, r⟩ := i5
    exact ⟨o, (Heap.get?_update_other _ _ hSI).trans e, r⟩
  | false =>
    simp only [Bool.false_eq_true, if_false]
    refine wpAny_bind (wpAny_letGo ?_)
    rw [hname]
    exact wpAny_pure ⟨plainId_quiet PySem.F.plain_max_loop _, last _ v0 _ p5 n5 i5 (by rw [hc]; rfl)⟩
end
end Mine

/-! ### Fb8 -/
namespace Mine
open PySem PySem.W PySem.Calls PyProof.Rows PySem.SeqAt

theorem txtsAt_of {vs : List Value} {xs : List (List Nat)} {g : Heap} (x : all (txs xs) vs g) : TxtsAt vs.toArray xs := by
  have hl := x.length
  rw [List.length_map] at hl
  refine ⟨by simpa using hl, fun i v e => ?_⟩
  rw [List.getElem?_toArray] at e
  have hi : i < vs.length := (List.getElem?_eq_some_iff.mp e).1
  have ex : xs[i]? = some xs[i] := List.getElem?_eq_getElem (by omega)
  obtain ⟨u, eu, pu⟩ := x.get (i := i) (d := .str (S xs[i])) (by unfold txs; rw [List.getElem?_map, ex]; rfl)
  rw [e] at eu; cases eu
  obtain ⟨t, rfl⟩ := dat_str pu
  exact ⟨t, by rw [ex]; rfl⟩

section
variable {prog : Program} {w : World} {A : Around} {F : List Addr} {B : Heap} {S₁ : List Addr} {h : Heap} {env : Env} {ad : Nat → Addr}

theorem rich_list (b : Bool) {s : Shared} {E : Value → Shared → Prop} {xs ys : List (List Nat)} {u v : Value} {g : Heap} {Q : Value → Shared → Prop} (hu : A.units ≤ 8000) (pa : (plist (txs xs)) u g) (pb : (plist (txs ys)) v g) (hg : g.StaysIn s.heap)
    (hq : Q (.bool (ordL b xs ys)) s) : wpAny (model prog w) A (richCompare (opOf b) u v) Q E s := by
  obtain ⟨x, vs, rfl, ⟨ox, ex, cx, nx, dx⟩, hx⟩ := plist_out pa
  obtain ⟨y, ws, rfl, ⟨oy, ey, cy, ny, dy⟩, hy⟩ := plist_out pb
  obtain ⟨c1, d1, dt1, sl1⟩ := ox
  obtain ⟨c2, d2, dt2, sl2⟩ := oy
  dsimp only at cx dx cy dy
  subst cx dx cy dy
  have M := list_ord b x y vs.toArray ws.toArray nx ny xs ys d1 d2 sl1 sl2 (txtsAt_of hx) (txtsAt_of hy)
  have hu' : A.units < cLine := by have : cLine = 9900 := rfl; omega
  have post : wants (fun v s' => v ≠ .notImplemented ∧ Q v s') E (.ok (.ret (.bool (ordL b xs ys)))) s := ⟨(fun e => by cases e), hq⟩
  cases b
  · exact richCompare_meets_room (T := "list") ⟨_, hg _ _ ex, rfl⟩ ⟨_, hg _ _ ey, rfl⟩ PySem.F.slot_list_lt PySem.F.entry_list_lt (PySem.F.args_list_lt_2 _ _) M ⟨hg _ _ ex, hg _ _ ey, post⟩ hu'
  · exact richCompare_meets_room (T := "list") ⟨_, hg _ _ ex, rfl⟩ ⟨_, hg _ _ ey, rfl⟩ PySem.F.slot_list_gt PySem.F.entry_list_gt (PySem.F.args_list_gt_2 _ _) M ⟨hg _ _ ex, hg _ _ ey, post⟩ hu'

theorem z_min {xs ys : List (List Nat)} {a : Value} (hh : A.handled = none) (hu : A.units ≤ 7000) (p : (plist [.list (txs xs), .list (txs ys)]) a (fz S₁ h)) :
    Do prog w A F B S₁ h (call (.builtin "min") [a] []) (plist (txs (if ltL ys xs then ys else xs))).p := fun s Q E o lh k => by
  obtain ⟨l, vs, rfl, hl, hall⟩ := plist_out p
  have up : (fz S₁ h).StaysIn s.heap := fun b ob e => lh.keep _ _ (fz_in e).1 (fun m => (fz_in e).2 (o.fs _ m))
  obtain ⟨v0, v1, rfl⟩ : ∃ v0 v1, vs = [v0, v1] := by
    have := hall.length
    match vs, this with
    | [a, b], _ => exact ⟨a, b, rfl⟩
  obtain ⟨p0, hall1⟩ := hall.uncons
  obtain ⟨p1, _⟩ := hall1.uncons
  refine min_two (g := fz S₁ h) (c := ltL ys xs) hh hl up (fun s' Q' E' hg q => rich_list false (by show A.units + 1 ≤ 8000; omega) p1 p0 hg q) fun h' tk hk => ?_
  have st : (fz S₁ h).StaysIn (fz S₁ h') := fz_le (lh.trans (.of_keeps hk)) o.fs fun _ m => .inl m
  refine k _ _ ⟨h', tk, rfl, .of_keeps hk⟩ ?_
  cases ltL ys xs
  · exact (plist _).mono st p0
  · exact (plist _).mono st p1
theorem z_max {xs ys : List (List Nat)} {a : Value} (hh : A.handled = none) (hu : A.units ≤ 7000) (p : (plist [.list (txs xs), .list (txs ys)]) a (fz S₁ h)) :
    Do prog w A F B S₁ h (call (.builtin "max") [a] []) (plist (txs (if ltL xs ys then ys else xs))).p := fun s Q E o lh k => by
  obtain ⟨l, vs, rfl, hl, hall⟩ := plist_out p
  have up : (fz S₁ h).StaysIn s.heap := fun b ob e => lh.keep _ _ (fz_in e).1 (fun m => (fz_in e).2 (o.fs _ m))
  obtain ⟨v0, v1, rfl⟩ : ∃ v0 v1, vs = [v0, v1] := by
    have := hall.length
    match vs, this with
    | [a, b], _ => exact ⟨a, b, rfl⟩
  obtain ⟨p0, hall1⟩ := hall.uncons
  obtain ⟨p1, _⟩ := hall1.uncons
  refine max_two (g := fz S₁ h) (c := ltL xs ys) hh hl up (fun s' Q' E' hg q => rich_list true (by show A.units + 1 ≤ 8000; omega) p1 p0 hg q) fun h' tk hk => ?_
  have st : (fz S₁ h).StaysIn (fz S₁ h') := fz_le (lh.trans (.of_keeps hk)) o.fs fun _ m => .inl m
  refine k _ _ ⟨h', tk, rfl, .of_keeps hk⟩ ?_
  cases ltL xs ys
  · exact (plist _).mono st p0
  · exact (plist _).mono st p1
end
end Mine

/-! ### Fb9 -/
namespace Mine
open PySem PySem.W PySem.Calls PyProof.Rows PySem.SeqAt

/-! ## split -/
def splits (x : List Nat) : List (List Nat) := if x = [] then [[], []] else [] :: x.reverse.map fun c => [46, c]
def tailJ (c : Nat) : List (List Nat) → List Nat
  | [] => []
  | p :: r => c :: joinL [c] (p :: r)
theorem joinL_cons (c : Nat) (p : List Nat) (r : List (List Nat)) : joinL [c] (p :: r) = p ++ tailJ c r := by
  cases r with
  | nil => show p = p ++ []; simp
  | cons q r => show p ++ [c] ++ joinL [c] (q :: r) = p ++ (c :: joinL [c] (q :: r)); simp
theorem app_free {c : Nat} : ∀ {p q r r' : List Nat}, c ∉ p → c ∉ q → (r = [] ∨ ∃ t, r = c :: t) → (r' = [] ∨ ∃ t, r' = c :: t) → p ++ r = q ++ r' → p = q ∧ r = r'
  | [], [], r, r', _, _, _, _, e => ⟨rfl, e⟩
  | a :: p, [], r, r', h1, _, _, h4, e => by
    rcases h4 with rfl | ⟨t, rfl⟩
    · simp at e
    · have : a = c := by simp at e; exact e.1
      exact absurd (this ▸ List.mem_cons_self) h1
  | [], b :: q, r, r', _, h2, h3, _, e => by
    rcases h3 with rfl | ⟨t, rfl⟩
    · simp at e
    · have : c = b := by simp at e; exact e.1
      exact absurd (this ▸ List.mem_cons_self) h2
  | a :: p, b :: q, r, r', h1, h2, h3, h4, e => by
    simp only [List.cons_append, List.cons.injEq] at e
    obtain ⟨i1, i2⟩ := app_free (fun m => h1 (.tail _ m)) (fun m => h2 (.tail _ m)) h3 h4 e.2
    exact ⟨by rw [e.1, i1], i2⟩
theorem tailJ_shape (c : Nat) (r : List (List Nat)) : tailJ c r = [] ∨ ∃ t, tailJ c r = c :: t := by
  cases r with
  | nil => exact .inl rfl
  | cons p r => exact .inr ⟨_, rfl⟩
theorem joinL_inj {c : Nat} : ∀ {P Q : List (List Nat)}, P ≠ [] → Q ≠ [] → (∀ p ∈ P, c ∉ p) → (∀ q ∈ Q, c ∉ q) → joinL [c] P = joinL [c] Q → P = Q
  | [], _, h, _, _, _, _ => absurd rfl h
  | _ :: _, [], _, h, _, _, _ => absurd rfl h
  | p :: P, q :: Q, _, _, h1, h2, e => by
    rw [joinL_cons, joinL_cons] at e
    obtain ⟨e1, e2⟩ := app_free (h1 p (.head _)) (h2 q (.head _)) (tailJ_shape c P) (tailJ_shape c Q) e
    cases P with
    | nil => cases Q with
      | nil => rw [e1]
      | cons q' Q => cases e2
    | cons p' P => cases Q with
      | nil => cases e2
      | cons q' Q =>
        have e3 : joinL [c] (p' :: P) = joinL [c] (q' :: Q) := by
          have : c :: joinL [c] (p' :: P) = c :: joinL [c] (q' :: Q) := e2
          exact (List.cons.inj this).2
        rw [e1, joinL_inj (by simp) (by simp) (fun r m => h1 r (.tail _ m)) (fun r m => h2 r (.tail _ m)) e3]

theorem splits_join (x : List Nat) : joinL [47] (splits x) = wayOf x := by
  unfold splits
  cases x with
  | nil => rfl
  | cons c x =>
    rw [if_neg (by simp), joinL_cons, List.nil_append, ← way_join]
    cases hr : ((c :: x).reverse.map fun c => [46, c]) with
    | nil => simp at hr
    | cons p r => rfl
theorem split_way {x : List Nat} (hx : ∀ c ∈ x, c ≠ 47) : Txt.split (S (wayOf x)) (S [47]) = (splits x).map S := by
  have hj := StrLaws.join_split (S (wayOf x)) (S [47])
  have hf := StrLaws.split_free (S (wayOf x)) 47
  have e0 : (S [47] : Str) = ⟨#[47]⟩ := rfl
  rw [e0] at hj ⊢
  generalize Txt.split (S (wayOf x)) ⟨#[47]⟩ = P at hj hf
  have eP : P = (P.map (·.cps.toList)).map S := by
    rw [List.map_map]
    conv => lhs; rw [← List.map_id P]
    exact List.map_congr_left fun p _ => S_of p
  have hj2 : joinL [47] (P.map (·.cps.toList)) = wayOf x := by
    have h1 := txt_join [47] (P.map (·.cps.toList))
    rw [← eP] at h1
    have h2 : Txt.join (S [47]) P = Str.join ⟨#[47]⟩ P := StrLaws.glued_eq_join _ _
    rw [h2, hj] at h1
    exact (S_inj h1).symm
  have hne : P.map (·.cps.toList) ≠ [] := by
    intro e
    rw [e] at hj2
    have : wayOf x ≠ [] := by
      cases x with
      | nil => simp [wayOf]
      | cons d y =>
        have : 46 ∈ wayOf (d :: y) := List.mem_flatMap.mpr ⟨d, by simp, by simp [bit]⟩
        exact List.ne_nil_of_mem this
    exact this hj2.symm
  have hne2 : splits x ≠ [] := by unfold splits; split <;> simp
  rw [eP, joinL_inj hne hne2 (fun p hp => ?_) (fun q hq => ?_) (hj2.trans (splits_join x).symm)]
  · obtain ⟨p', hp', rfl⟩ := List.mem_map.mp hp
    exact hf p' hp'
  · unfold splits at hq
    split at hq
    · simp at hq; rw [hq]; simp
    · rcases List.mem_cons.mp hq with rfl | hq
      · simp
      · obtain ⟨c, hc, rfl⟩ := List.mem_map.mp hq
        have := hx c (List.mem_reverse.mp hc)
        simp; omega

section
variable {prog : Program} {w : World} {A : Around} {F : List Addr} {B : Heap} {S₁ : List Addr} {h : Heap} {env : Env} {ad : Nat → Addr}
theorem all_strValues {g : Heap} {l : List (Str × Tok)} {L : List (List Nat)} (e : l.map (·.1) = L.map S) : all (txs L) (strValues l) g := by
  refine ⟨[], ?_⟩
  have := readsAll_strValues g l
  rw [e, List.map_map] at this
  exact this
theorem call_split {l : List Nat} {L : List (List Nat)} {t u : Tok} (hs : Txt.split (S l) (S [47]) = L.map S) (hsz : l.length ≤ 100000) : Do prog w A F B S₁ h (call (.builtin "str.split") [.str (S l) t, .str (S [47]) u] []) (plist (txs L)).p := fun s Q E o lh k => by
  have h2 : sizeLine = 16777216 := rfl
  have hsz' : (S l).length + 2 ≤ sizeLine := by rw [S_len]; omega
  have fin : ∀ (l' : List (Str × Tok)) (tk : Nat), l'.map (·.1) = Txt.split (S l) (S [47]) → Q (.ref s.heap.objs.size) { s with heap := s.heap.push { cls := .type "list", data := .seq (strValues l').toArray }, toks := tk } := fun l' tk e =>
    k _ _ ⟨_, tk, rfl, .push _⟩ (plist_in (fz_get (Heap.get?_push_size _ rfl) o.size) rfl rfl (by simpa using all_strValues (e.trans hs)))
  have hy : ((S [47]).length == 0) = false := by decide +kernel
  have hn : (Builtin.Str.partsBetween (S l) (Builtin.Str.occurrences (S l) (S [47]) 0 (S l).length ((S l).length + 1)) (S [47]).length).length ≤ sizeLine := by
    have e1 := StrLaws.occ_length_le (S l) (S [47]) 0 (S l).length ((S l).length + 1)
    rw [length_partsBetween]; omega
  cases h1 : (decide ((S l).length < (S [47]).length) || decide (Builtin.Str.strKind (S l) < Builtin.Str.strKind (S [47])))
  · cases hf : (Builtin.Str.occurrences (S l) (S [47]) 0 (S l).length ((S l).length + 1)).isEmpty
    · refine call_meets PySem.F.slot_str_split (typeIs_str _ _ _) PySem.F.entry_str_split (PySem.F.args_str_split_2 _ _) (meets_str_split_sep (S l) (S [47]) t u h1 hy hf (by omega) hn) ?_
      rw [strsFrom_eq]
      exact fin (numbered s.toks _) _ ((numbered_texts _ _).trans ((if_neg (ne_true_of_eq_false h1)).trans (if_neg (ne_true_of_eq_false hf))).symm)
    · exact call_meets PySem.F.slot_str_split (typeIs_str _ _ _) PySem.F.entry_str_split (PySem.F.args_str_split_2 _ _) (meets_str_split_not_found (S l) (S [47]) t u h1 hy hf)
        (fin [(S l, t)] s.toks ((if_neg (ne_true_of_eq_false h1)).trans (if_pos hf)).symm)
  · exact call_meets PySem.F.slot_str_split (typeIs_str _ _ _) PySem.F.entry_str_split (PySem.F.args_str_split_2 _ _) (meets_str_split_cannot_occur (S l) (S [47]) t u h1)
      (fin [(S l, t)] s.toks (if_pos h1).symm)
theorem ev_split {o e1 : Expr} {apos pos : Pos} {pl : Sem Bool} {l : List Nat} {L : List (List Nat)} (hs : Txt.split (S l) (S [47]) = L.map S) (hsz : l.length ≤ 100000) (x : Ev prog w A F B S₁ h env o (pstr (S l))) (y : Ev prog w A F B S₁ h env e1 (pstr (S [47])))
    (hl : backTo pos (starEach [e1] env) = [(false, eval e1 env)] := by rfl)
    (he : eval (.Call (.Attribute o (Str.ofString "split") apos) [e1] [] pos) env = (do
      let ov ← eval o env
      standAt apos.atName
      let (f, first) ← PySem.holding [ov] (getMethod ov (Str.ofString "split") pl)
      callWith pos f first (backTo pos (starEach [e1] env)) []) := by rfl) : Ev prog w A F B S₁ h env (.Call (.Attribute o (Str.ofString "split") apos) [e1] [] pos) (plist (txs L)) :=
  ev_meth1 (id := "str.split") x (fun ov s' Q E ok _ p q => by obtain ⟨t, rfl⟩ := dat_str p; exact GM.split q) y (fun ov u h' l' ok p q => by
    obtain ⟨t, rfl⟩ := dat_str p
    obtain ⟨t', rfl⟩ := dat_str q
    exact call_split hs hsz) hl he
end
end Mine

/-! ### Pl0 -/
namespace Mine
/-! ## what two lists have in common -/
def lcp {α : Type} [DecidableEq α] : List α → List α → List α
  | a :: x, b :: y => if a = b then a :: lcp x y else []
  | _, _ => []
def lcs {α : Type} [DecidableEq α] (x y : List α) : List α := (lcp x.reverse y.reverse).reverse
theorem lcp_comm {α : Type} [DecidableEq α] : ∀ (x y : List α), lcp x y = lcp y x
  | [], [] => rfl
  | [], _ :: _ => rfl
  | _ :: _, [] => rfl
  | a :: x, b :: y => by
    unfold lcp
    by_cases h : a = b
    · rw [if_pos h, if_pos h.symm, lcp_comm x y, h]
    · rw [if_neg h, if_neg fun e => h e.symm]
theorem lcp_map {α β : Type} [DecidableEq α] [DecidableEq β] {f : α → β} (hf : ∀ a b, f a = f b → a = b) : ∀ (x y : List α), lcp (x.map f) (y.map f) = (lcp x y).map f
  | [], [] => rfl
  | [], _ :: _ => rfl
  | _ :: _, [] => rfl
  | a :: x, b :: y => by
    rw [List.map_cons, List.map_cons]
    unfold lcp
    by_cases h : a = b
    · rw [if_pos h, if_pos (by rw [h]), lcp_map hf x y]; rfl
    · rw [if_neg h, if_neg fun e => h (hf _ _ e)]; rfl
theorem lcp_stop {α : Type} [DecidableEq α] : ∀ {i : Nat} {x y : List α}, x.take i = y.take i → (x[i]? ≠ y[i]? ∨ x[i]? = none ∨ y[i]? = none) → lcp x y = x.take i
  | 0, x, y, _, h => by
    rw [List.take_zero]
    cases x with
    | nil => cases y <;> rfl
    | cons a x => cases y with
      | nil => rfl
      | cons b y =>
        unfold lcp
        rw [if_neg]
        rintro rfl
        rcases h with h | h | h
        · exact h rfl
        · cases h
        · cases h
  | i + 1, [], y, _, _ => by cases y <;> rfl
  | i + 1, a :: x, [], e, _ => by cases e
  | i + 1, a :: x, b :: y, e, h => by
    rw [List.take_succ_cons, List.take_succ_cons] at e
    injection e with e1 e2
    subst e1
    show (if a = a then a :: lcp x y else []) = _
    rw [if_pos rfl, List.take_succ_cons, lcp_stop e2 h]
theorem lcs_suffix_left {α : Type} [DecidableEq α] (x y : List α) : lcs x y <:+ x := by
  have : ∀ (x y : List α), lcp x y <+: x := by
    intro x
    induction x with
    | nil => intro y; cases y <;> exact List.nil_prefix
    | cons a x ih =>
      intro y
      cases y with
      | nil => exact List.nil_prefix
      | cons b y =>
        unfold lcp
        split
        · exact (List.prefix_cons_inj a).mpr (ih y)
        · exact List.nil_prefix
  have h := this x.reverse y.reverse
  unfold lcs
  rw [← List.reverse_prefix, List.reverse_reverse]; exact h
end Mine

/-! ### Fn17 -/
namespace Mine
open PySem PySem.W PySem.Calls PyProof.Rows PySem.SeqAt

section
variable {prog : Program} {w : World} {A : Around} {F : List Addr} {B : Heap} {S₁ : List Addr} {h h₀ : Heap} {env : Env} {ad : Nat → Addr} {own : List (Addr × Ow)} {ρ : List (Str × Pd)} {s₀ s : Shared} {D : Addr} {ds : List PyData}

theorem t_tup {ds : List PyData} {a : Value} (pa : (ptup ds) a (fz S₁ h)) (hsz : ds.length ≤ 1000000) : Do prog w A F B S₁ h (truthy a) (fun c _ => c = decide (ds ≠ [])) := fun s Q E o lh k => by
  obtain ⟨l, vs, rfl, hl, hall⟩ := ptup_out pa
  have hl' : IsTup s.heap l vs.toArray := by obtain ⟨ob, e, r⟩ := hl; exact ⟨ob, lh.keep _ _ (fz_in e).1 (fun m => (fz_in e).2 (o.fs _ m)), r⟩
  have hv := hall.length
  refine truthy_tuple hl' (by simp; omega) (k _ _ (Go.toks _) ?_)
  cases vs <;> cases ds <;> simp_all
theorem z_get_tup {ds : List PyData} {d : PyData} {i : Nat} {a v : Value} (pa : (ptup ds) a (fz S₁ h)) (pi : (pint (i : Int)) v (fz S₁ h)) (e : ds[i]? = some d) (hsz : ds.length ≤ sizeLine) :
    Do prog w A F B S₁ h (getItem a v) (dat d).p := by
  obtain ⟨l, vs, rfl, hl, hall⟩ := ptup_out pa
  obtain ⟨t, rfl⟩ := dat_int pi
  obtain ⟨x, ex, px⟩ := hall.get e
  have hi : i < vs.length := (List.getElem?_eq_some_iff.mp ex).1
  have : vs.length ≤ sizeLine := by rw [hall.length]; exact hsz
  have h2 : sizeLine = 16777216 := rfl
  refine Do.frozen (fun s Q E up q => ?_) px fun k p => (dat d).mono k p
  have hl' : IsTup s.heap l vs.toArray := by obtain ⟨ob, e, r⟩ := hl; exact ⟨ob, up _ _ e, r⟩
  refine getItem_tuple hl' (by omega) (by omega) (j := i) ?_ (by simpa using ex) q
  unfold seqIndex?
  simp
  omega
theorem ev_subtup {value slice : Expr} {pos : Pos} {ds : List PyData} {P2 P : Pd} (x : Ev prog w A F B S₁ h env value (ptup ds)) (y : Ev prog w A F B S₁ h env slice P2)
    (z : ∀ a i h', Le F B h h' → Ok A F B S₁ h' → (ptup ds) a (fz S₁ h') → P2 i (fz S₁ h') → Do prog w A F B S₁ h' (getItem a i) P.p)
    (hs : ∀ o i, ∃ ops, subscripted slice false o i = PySem.operate ops (getItem o i) := by intro o i; exact ⟨_, rfl⟩) : Ev prog w A F B S₁ h env (.Subscript value slice pos) P :=
  ev_sub (T := "tuple") x y (fun a s' ok p => by
    obtain ⟨b, vs, rfl, ⟨ob, e, c, _⟩, _⟩ := ptup_out p
    exact ⟨ob, (fz_in e).1, c⟩) slot_tuple_getitem.lookup z hs

/-- a loop that may break: both ends bring J -/
theorem x_forJ {target iter : Expr} {body rest : List Stmt} {pos : Pos} {n : Nat} {item : Nat → Value → Heap → Heap → Prop} {Q : Flow → Shared → Prop} {E : Value → Shared → Prop} {S₀ : List Addr} (J : Shared → Prop)
    (I : St A F B h₀ S₀ env own ρ s₀ s) (hit : Itr prog w A F B (SS env own S₀) s.heap target (eval iter env) n item)
    (own' : Nat → List (Addr × Ow)) (ρ' ρt : Nat → List (Str × Pd)) (K : Nat → Prop) (ha : ∀ i, (own' i).map (·.1) = own.map (·.1)) (h0 : own' 0 = own) (hρ : Sub ρ (ρ' 0)) (hK : K 0)
    (hasg : ∀ i v s1 sb hb S₁ (Q' : Unit → Shared → Prop) (E' : Value → Shared → Prop), i < n → St A F B hb S₁ env (own' i) (ρ' i) sb s1 → item i v (fz (SS env (own' i) S₁) s1.heap) s1.heap →
      (∀ s2, St A F B hb S₁ env (own' i) (ρt i ++ ρ' i) sb s2 → Q' () s2) → wpAny (model prog w) A (assign target env v) Q' E' s1)
    (fin : ∀ s', J s' → wpAny (model prog w) A (execs rest env) Q E s')
    (turn : ∀ i s1 sb hb S₁ (Q' : Flow → Shared → Prop) (E' : Value → Shared → Prop), i < n → K i → St A F B hb S₁ env (own' i) (ρt i ++ ρ' i) sb s1 → (∀ s2, St A F B hb S₁ env (own' (i + 1)) (ρ' (i + 1)) sb s2 → K (i + 1) → Q' .next s2) →
      (∀ ownb ρb s2, ownb.map (·.1) = own.map (·.1) → St A F B hb S₁ env ownb ρb sb s2 → St A F B h₀ S₀ env ownb ρb s₀ s2) →
      (∀ s2, J s2 → Q' .brk s2) →
      wpAny (model prog w) A (execs body env) Q' E' s1)
    (after : ∀ s', St A F B h₀ S₀ env (own' n) (ρ' n) s₀ s' → K n → J s')
    (hs : ∀ x, foldedSetIterable iter env x = pure x := by intro _; rfl) : wpAny (model prog w) A (execs (.For target iter body [] pos :: rest) env) Q E s :=
  x_for I hit own' ρ' ρt K ha h0 hρ hK hasg (fun i s1 sb hb S₁ Q' hi hk hS I' next esc out => turn i s1 sb hb S₁ Q' _ hi hk I' (fun s2 i2 k2 => (next s2 i2 k2).1) esc (fun s2 j => out .brk s2 (fun e => by cases e) (fun e => by cases e) (fin s2 j)))
    (fun s' I' hk => fin s' (after s' I' hk)) hs

/-! the plain side -/
theorem ltL_stop : ∀ {i : Nat} {s1 s2 : List (List Nat)}, ltL s2 s1 = false → s1.take i = s2.take i → i < s1.length → i < s2.length
  | 0, s1, [], h, _, hi => by
    cases s1 with
    | nil => simp at hi
    | cons x s1 => cases h
  | 0, _, _ :: _, _, _, _ => by simp
  | i + 1, a :: s1, [], h, e, hi => by cases e
  | i + 1, [], _, _, _, hi => by simp at hi
  | i + 1, a :: s1, b :: s2, h, e, hi => by
    rw [List.take_succ_cons, List.take_succ_cons] at e
    injection e with e1 e2
    subst e1
    have h' : ltL s2 s1 = false := by
      have : (if a = a then ltL s2 s1 else decide (a < a)) = false := h
      rwa [if_pos rfl] at this
    have := ltL_stop h' e2 (by simpa using hi)
    simpa using this
theorem ltL_asymm : ∀ {x y : List (List Nat)}, ltL x y = true → ltL y x = false
  | [], _ :: _, _ => rfl
  | a :: x, b :: y, h => by
    have h' : (if a = b then ltL x y else decide (a < b)) = true := h
    show (if b = a then ltL y x else decide (b < a)) = false
    by_cases e : a = b
    · rw [if_pos e] at h'
      rw [if_pos e.symm]
      exact ltL_asymm h'
    · rw [if_neg e] at h'
      rw [if_neg fun q => e q.symm]
      exact decide_eq_false (List.lt_asymm (of_decide_eq_true h'))
  | [], [], h => by cases h
  | _ :: _, [], h => by cases h
theorem ltL_irrefl : ∀ (x : List (List Nat)), ltL x x = false
  | [] => rfl
  | a :: x => by
    show (if a = a then ltL x x else decide (a < a)) = false
    rw [if_pos rfl]; exact ltL_irrefl x
theorem ltL_total : ∀ {x y : List (List Nat)}, ltL x y = false → ltL y x = false → x = y
  | [], [], _, _ => rfl
  | [], _ :: _, h, _ => by cases h
  | _ :: _, [], _, h => by cases h
  | a :: x, b :: y, h1, h2 => by
    have h1' : (if a = b then ltL x y else decide (a < b)) = false := h1
    have h2' : (if b = a then ltL y x else decide (b < a)) = false := h2
    by_cases e : a = b
    · rw [if_pos e] at h1'
      rw [if_pos e.symm] at h2'
      rw [e, ltL_total h1' h2']
    · rw [if_neg e] at h1'
      rw [if_neg fun q => e q.symm] at h2'
      exact absurd (List.le_antisymm (List.not_lt.mp (of_decide_eq_false h2')) (List.not_lt.mp (of_decide_eq_false h1'))) e
theorem splits_keep (x : List Nat) (hx : ∀ c ∈ x, sgn c) : (splits x).filter (fun p => decide (p ≠ []) && decide (p ≠ [46])) = x.reverse.map fun c => [46, c] := by
  unfold splits
  cases x with
  | nil => rfl
  | cons c x =>
    rw [if_neg (by simp), List.filter_cons, if_neg (by simp)]
    exact List.filter_eq_self.mpr fun p hp => by
      obtain ⟨d, hd, rfl⟩ := List.mem_map.mp hp
      simp
theorem splits_len (x : List Nat) : (splits x).length ≤ x.length + 2 := by
  unfold splits
  split
  · simp
  · simp

theorem sp_common (W : Wd B ad) {n : Nat} (rm : Rm A (n + 8)) {x y : List Nat} (hx : ∀ c ∈ x, sgn c) (hy : ∀ c ∈ y, sgn c) (hlx : x.length ≤ 1000) (hly : y.length ≤ 1000) {v : Value} (p : (plist (txs [wayOf x, wayOf y])) v (fz S₁ h)) :
    Do prog w A F B S₁ h (call (.ref (ad 26)) [v] []) (pstr (S (wayOf (lcs x y)))).p := by
  refine do_fn (P := pstr (S (wayOf (lcs x y)))) rm (W.f 26) W.lim ["paths"] (Ps := [plist (txs [wayOf x, wayOf y])]) ⟨p, trivial⟩ ?_ ?_
  · intros; exact BindsTo.of_eq rfl _ _ _ _ (by assumption)
  intro name qual kV doc pm ct cd an L s₁ sb h₀ F' A' env Q' E' henv hA hF hrm hl hfS hal I fin
  have en := I.en
  have R := hrm _ rm
  subst henv
  conv in fb 26 => whnf
  have hsz : sizeLine = 16777216 := rfl
  have hu : A'.units ≤ 5000 := by have := R.un; omega
  have wx := way_len x
  have wy := way_len y
  have R4 : Rm A'.in1.in1.in1.in1 (n + 3) := Rm.in1 (n := n + 3) (Rm.in1 (n := n + 4) (Rm.in1 (n := n + 5) (Rm.in1 (n := n + 6) R)))
  refine x_assign (ptup (txs [wayOf x, wayOf y])) I (ev_tuple_map R.hh (ev_g en W.t_tuple) (ev_g en W.t_map) (ev_g en W.n19) (ev_v I rfl) (by show 2 ≤ sizeLine; decide) rfl fun S₂ h₂ i v d e e1 e2 q => ?_) (.inl rfl) fun s2 I2 => ?_
  · rw [e1] at e2; cases e2
    have : ∃ t, d = .str t := by
      match i, e1 with
      | 0, e1 => cases e1; exact ⟨_, rfl⟩
      | 1, e1 => cases e1; exact ⟨_, rfl⟩
    obtain ⟨t, rfl⟩ := this
    exact sp_fspath W (R4.le (by omega)) (by obtain ⟨t', rfl⟩ := dat_str q; exact ⟨_, .str _ _⟩)
  refine x_if false I2 (tr_not (b := true) (tr_plain (P := ptup (txs [wayOf x, wayOf y])) (ev_v I2 rfl) fun a h' l o q => t_tup q (by show 2 ≤ _; decide))) fun s3 I3 => ?_
  rw [if_neg (by decide)]
  refine x_nil ?_
  refine x_if false I3 (tr_plain (P := pbool false) (ev_call2 (P1 := pstr (S (wayOf x))) (ev_g en W.b_isinstance) kp_builtin (ev_subtup (P2 := pint ((0 : Nat) : Int)) (ev_v I3 rfl) ev_int fun a i h' l o q1 q2 => z_get_tup q1 q2 rfl (by show 2 ≤ _; decide)) (ev_g en W.t_bytes) fun u u' h' l o q q' => ?_) fun a h' l o q => t_bool q) fun s4 I4 => ?_
  · obtain rfl : u' = _ := q'
    exact z_isinst_bytes q
  rw [if_neg (by decide)]
  refine x_assign (pstr (S [47])) I4 (ev_S [47]) (.inr ⟨rfl, _, rfl⟩) fun s5 I5 => ?_
  refine x_assign (pstr (S [46])) I5 (ev_S [46]) (.inr ⟨rfl, _, rfl⟩) fun s6 I6 => x_nil ?_
  refine x_try ?_
  have item2 : ∀ i, i < 2 → ∃ z, (z = x ∨ z = y) ∧ (txs [wayOf x, wayOf y])[i]?.getD .none = .str (S (wayOf z)) ∧ ([splits x, splits y][i]?.getD []) = splits z := by
    intro i hi
    match i, hi with
    | 0, _ => exact ⟨x, .inl rfl, rfl, rfl⟩
    | 1, _ => exact ⟨y, .inr rfl, rfl, rfl⟩
  have zs : ∀ z, (z = x ∨ z = y) → (∀ c ∈ z, c ≠ 47) ∧ z.length ≤ 1000 := by
    rintro z (rfl | rfl)
    · exact ⟨fun c hc => (hx c hc).1, hlx⟩
    · exact ⟨fun c hc => (hy c hc).1, hly⟩
  -- split_paths
  refine x_asg_comp (n := 2) (item := fun i => ione ((txs [wayOf x, wayOf y])[i]?.getD .none)) I6 (fun i => vone "path" ((txs [wayOf x, wayOf y])[i]?.getD .none)) (fun _ => true) (fun i => .list (txs ([splits x, splits y][i]?.getD []))) (l := [.list (txs (splits x)), .list (txs (splits y))])
    (itr_tuple (ds := txs [wayOf x, wayOf y]) R.hh (ev_v I6 (x := "paths") rfl)) (fun i hi => asg_one (fun _ => rfl) (fun _ => rfl) (fun _ => rfl)) (fun i S' h' C hi T => do_tests_nil) ?_ (fun i m g g' k q => vone_mono k q) rfl (by show 2 ≤ sizeLine; decide) (.inl rfl) fun s7 I7 => ?_
  · intro i S' h' C hi _ T
    obtain ⟨z, hz, e1, e2⟩ := item2 i hi
    obtain ⟨z1, z2⟩ := zs z hz
    rw [e1] at T
    rw [e2]
    have wz := way_len z
    exact ev_split (split_way z1) (by omega) (ev_n en.comp T.one) (ev_n en.comp (T.free (I6.var (x := "sep") rfl)))
  -- isabs
  refine x_try ?_
  refine x_unset1 I7 R.hh (ev_setcomp (n := 2) (item := fun i => ione ((txs [wayOf x, wayOf y])[i]?.getD .none)) (fun i => vone "p" ((txs [wayOf x, wayOf y])[i]?.getD .none)) (by decide) (by omega)
    (itr_tuple (ds := txs [wayOf x, wayOf y]) R.hh (ev_v I7 (x := "paths") rfl)) (fun i hi => asg_one (fun _ => rfl) (fun _ => rfl) (fun _ => rfl)) ?_ (fun i m g g' k q => vone_mono k q)) (.inl rfl) fun s8 I8 => ?_
  · intro i S' h' C hi T
    obtain ⟨z, hz, e1, e2⟩ := item2 i hi
    rw [e1] at T
    refine Do.mono (ev_starts (l := wayOf z) (m := [47]) (ev_n en.comp T.one) (ev_n en.comp (T.free (I7.var (x := "sep") rfl)))) fun v g q => ?_
    have : decide ((wayOf z).take ([47] : List Nat).length = [47]) = true := by
      rw [← way_join z]
      simp
    rw [this] at q; exact q
  refine x_nil ?_
  -- split_paths, swept
  have asz : ∀ z, (z = x ∨ z = y) → (∀ c ∈ z, sgn c) := by
    rintro z (rfl | rfl)
    · exact hx
    · exact hy
  have item3 : ∀ i, i < 2 → ∃ z, (z = x ∨ z = y) ∧ ([PyData.list (txs (splits x)), .list (txs (splits y))][i]?.getD .none) = .list (txs (splits z)) ∧ ([x.reverse.map (fun c => [46, c]), y.reverse.map (fun c => [46, c])][i]?.getD []) = z.reverse.map (fun c => [46, c]) := by
    intro i hi
    match i, hi with
    | 0, _ => exact ⟨x, .inl rfl, rfl, rfl⟩
    | 1, _ => exact ⟨y, .inr rfl, rfl, rfl⟩
  refine x_asg_comp (n := 2) (item := fun i => ione ([PyData.list (txs (splits x)), .list (txs (splits y))][i]?.getD .none)) I8 (fun i => vone "s" ([PyData.list (txs (splits x)), .list (txs (splits y))][i]?.getD .none)) (fun _ => true) (fun i => .list (txs ([x.reverse.map (fun c => [46, c]), y.reverse.map (fun c => [46, c])][i]?.getD []))) (l := [.list (txs (x.reverse.map fun c => [46, c])), .list (txs (y.reverse.map fun c => [46, c]))])
    (itr_list (ds := [.list (txs (splits x)), .list (txs (splits y))]) R.hh (ev_v I8 (x := "split_paths") rfl)) (fun i hi => asg_one (fun _ => rfl) (fun _ => rfl) (fun _ => rfl)) (fun i S' h' C hi T => do_tests_nil) ?_ (fun i m g g' k q => vone_mono k q) rfl (by show 2 ≤ sizeLine; decide) (.inl rfl) fun s9 I9 => ?_
  · intro i S' h' C hi _ T
    obtain ⟨z, hz, e1, e2⟩ := item3 i hi
    obtain ⟨z1, z2⟩ := zs z hz
    have z3 := asz z hz
    rw [e1] at T
    rw [e2]
    have hsl := splits_len z
    refine ev_listcomp (n := (splits z).length) (item := fun j => ione (.str (S ((splits z)[j]?.getD [])))) (fun j => vone "c" (.str (S ((splits z)[j]?.getD [])))) (fun j => decide ((splits z)[j]?.getD [] ≠ []) && decide ((splits z)[j]?.getD [] ≠ [46])) (fun j => .str (S ((splits z)[j]?.getD []))) ?_ ?_ ?_ ?_ (fun i m g g' k q => vone_mono k q) ?_ (by omega)
    · exact itr_txs R.hh (ev_n en.comp T.one)
    · exact fun i hi => asg_one (fun _ => rfl) (fun _ => rfl) (fun _ => rfl)
    · intro j S2 h2 C2 hj T2
      have hm : (splits z)[j]?.getD [] ∈ splits z := by rw [List.getElem?_eq_getElem hj]; exact List.getElem_mem _
      have ha : asc ((splits z)[j]?.getD []) ∧ ((splits z)[j]?.getD []).length ≤ 2 := by
        generalize (splits z)[j]?.getD [] = q at hm
        unfold splits at hm
        split at hm
        · simp at hm; rw [hm]; exact ⟨(by intro c hc; cases hc), by simp⟩
        · rcases List.mem_cons.mp hm with rfl | hm
          · exact ⟨(by intro c hc; cases hc), by simp⟩
          · obtain ⟨c, hc, rfl⟩ := List.mem_map.mp hm
            refine ⟨fun d hd => ?_, by simp⟩
            have := (z3 c (List.mem_reverse.mp hc)).2.2
            simp at hd
            rcases hd with rfl | rfl
            · omega
            · exact this
      generalize (splits z)[j]?.getD [] = q at ha T2 ⊢
      refine do_tests_one (tr_bool (Do.mono (tr_and (b := decide (q ≠ [])) (c := decide (q ≠ [46])) (tr_plain (P := pstr (S q)) (ev_n en.comp.comp T2.one) fun a h' l o q1 => t_str q1 (by have := ha.2; omega)) fun _ h3 l3 o3 => Do.mono (tr_and (b := decide (q ≠ [46])) (c := true) (tr_cmp (P1 := pstr (S q)) (P2 := pstr (S [46])) ((ev_n en.comp.comp T2.one).up l3) ((ev_n en.comp.comp (T2.free (T.free (I8.var (x := "curdir") rfl)))).up l3) fun a c h' l o q1 q2 => z_ne emb_str (by omega) (by omega) ha.1 (by intro c hc; simp at hc; omega) q1 q2) fun _ h4 l4 o4 => tr_nil rfl) fun d g e => by rw [e]; simp) fun d g e => e))
    · intro j S2 h2 C2 hj hk T2
      exact ev_n en.comp.comp T2.one
    · rw [outs_list (splits z) [] (fun p => decide (p ≠ []) && decide (p ≠ [46])) (fun p => .str (S p)), splits_keep z z3]
  -- the two
  obtain ⟨a, ha⟩ : ∃ a, a = x.reverse.map (fun c => [46, c]) := ⟨_, rfl⟩
  obtain ⟨b, hb⟩ : ∃ b, b = y.reverse.map (fun c => [46, c]) := ⟨_, rfl⟩
  rw [← ha, ← hb] at I9
  have hla : a.length ≤ 1000 ∧ b.length ≤ 1000 := by rw [ha, hb]; simp; omega
  have hasc : (∀ q ∈ a, asc q) ∧ (∀ q ∈ b, asc q) := by
    have : ∀ z : List Nat, (∀ c ∈ z, sgn c) → ∀ q ∈ z.reverse.map (fun c => [46, c]), asc q := fun z hz q hq => by
      obtain ⟨c, hc, rfl⟩ := List.mem_map.mp hq
      have := (hz c (List.mem_reverse.mp hc)).2.2
      intro d hd
      simp at hd
      rcases hd with rfl | rfl
      · omega
      · exact this
    rw [ha, hb]; exact ⟨this x hx, this y hy⟩
  have hlcp : lcp a b = (lcs x y).reverse.map (fun c => [46, c]) := by
    rw [ha, hb, lcp_map (f := fun c => [46, c]) (fun c d e => by simpa using e)]
    unfold lcs
    rw [List.reverse_reverse]
  refine x_assign (plist (txs (if ltL b a then b else a))) I9 (ev_call1 (ev_g en W.b_min) kp_builtin (ev_v I9 rfl) fun u h' l o q => z_min R.hh (by omega) q) (.inl rfl) fun s10 I10 => ?_
  refine x_assign (plist (txs (if ltL a b then b else a))) I10 (ev_call1 (ev_g en W.b_max) kp_builtin (ev_v I10 rfl) fun u h' l o q => z_max R.hh (by omega) q) (.inl rfl) fun s11 I11 => ?_
  obtain ⟨s1, hs1⟩ : ∃ s1, s1 = (if ltL b a then b else a) := ⟨_, rfl⟩
  obtain ⟨s2', hs2⟩ : ∃ s2, s2 = (if ltL a b then b else a) := ⟨_, rfl⟩
  rw [← hs1, ← hs2] at I11
  have hord : ltL s2' s1 = false ∧ lcp s1 s2' = lcp a b := by
    rw [hs1, hs2]
    cases e1 : ltL a b with
    | true =>
      rw [ltL_asymm e1]
      exact ⟨ltL_asymm e1, rfl⟩
    | false =>
      cases e2 : ltL b a with
      | true => exact ⟨e1, lcp_comm b a⟩
      | false =>
        obtain rfl := ltL_total e1 e2
        exact ⟨e1, rfl⟩
  have hin1 : s1.length ≤ 1000 ∧ ∀ q ∈ s1, asc q := by
    rw [hs1]; split
    · exact ⟨hla.2, hasc.2⟩
    · exact ⟨hla.1, hasc.1⟩
  have hin2 : s2'.length ≤ 1000 ∧ ∀ q ∈ s2', asc q := by
    rw [hs2]; split
    · exact ⟨hla.2, hasc.2⟩
    · exact ⟨hla.1, hasc.1⟩
  refine x_assign (plist (txs s1)) I11 (ev_v I11 rfl) (.inl rfl) fun s12 I12 => ?_
  refine x_forJ (fun s' => St A' F' B h₀ S₁ (callEnvC (fdOf 26 name qual .none kV doc pm ct cd an) L (ad 26)) [] [("common", plist (txs (lcp a b))), ("sep", pstr (S [47])), ("isabs", pbool true)] sb s') I12 (itr_enumerate R.hh (ev_g en W.t_enumerate) (ev_v I12 (x := "s1") rfl)) (fun i => [])
    (fun i => [("common", plist (txs s1)), ("s1", plist (txs s1)), ("s2", plist (txs s2')), ("sep", pstr (S [47])), ("isabs", pbool true)]) (fun i => [("c", dat ((txs s1)[i]?.getD .none)), ("i", dat (.int (i : Int)))]) (fun i => s1.take i = s2'.take i)
    (fun i => rfl) rfl ⟨rfl, rfl, rfl, rfl, rfl, trivial⟩ rfl (fun i v s1 sb hb S₁ Q' E' hi J hv k => asgSt_two R.hh (.inl rfl) (.inl rfl) J hv k) ?fin ?turn ?after
  case after =>
    intro s' J hK
    have e : lcp a b = s1 := by
      have hl' : (txs s1).length = s1.length := by unfold txs; simp
      rw [hl'] at hK
      rw [← hord.2, lcp_stop hK (.inr (.inl (by simp)))]
      simp
    rw [e]
    exact J.sub ⟨rfl, rfl, rfl, trivial⟩
  case turn =>
    intro i s3 sb3 hb3 S₂ Q2 E2 hi hK I13 next esc out
    have hi' : i < s1.length := by unfold txs at hi; simpa using hi
    have hi2 := ltL_stop hord.1 hK hi'
    have e1 : s1[i]? = some s1[i] := List.getElem?_eq_getElem hi'
    have e2 : s2'[i]? = some s2'[i] := List.getElem?_eq_getElem hi2
    have ed : (txs s1)[i]?.getD .none = .str (S s1[i]) := by unfold txs; rw [List.getElem?_map, e1]; rfl
    rw [ed] at I13
    refine x_if (decide (s1[i] ≠ s2'[i])) I13 (tr_cmp (P1 := pstr (S s1[i])) (P2 := pstr (S s2'[i])) (ev_v I13 rfl) (ev_sublist (ds := txs s2') (P2 := pint (i : Int)) (ev_v I13 rfl) (ev_v I13 rfl) fun a i h' l o q1 q2 => z_get_list q1 q2 (by unfold txs; rw [List.getElem?_map, e2]; rfl) (by unfold txs; simp; omega)) fun a c h' l o q1 q2 => z_ne emb_str (by omega) (by omega) (hin1.2 _ (List.getElem_mem hi')) (hin2.2 _ (List.getElem_mem hi2)) q1 q2) fun s14 I14 => ?_
    by_cases he : s1[i] = s2'[i]
    · rw [if_neg (by simpa using he)]
      refine x_nil (x_nil (next s14 (I14.sub ⟨rfl, rfl, rfl, rfl, rfl, trivial⟩) ?_))
      rw [List.take_add_one, List.take_add_one, e1, e2, hK, he]
    · rw [if_pos (by simpa using he)]
      refine x_assign (plist (txs (s1.take i))) I14 (ev_sublist (ds := txs s1) (ev_v I14 rfl) (ev_slice part_none (part_some (ev_v I14 rfl)) part_none) fun a i' h' l o q1 q2 => ?_) (.inl rfl) fun s15 I15 => ?_
      · have := z_slice_list (prog := prog) (w := w) (A := A') (F := F') (B := B) (lo := none) (hi := some i) q1 q2 (by unfold txs; simp; omega)
        have e : sub none (some i) (txs s1) = txs (s1.take i) := by unfold sub txs; simp
        rw [e] at this; exact this
      · refine wpAny_execs_cons (wpAny_Break (out s15 ?_))
        have e : lcp a b = s1.take i := by
          rw [← hord.2]
          exact lcp_stop hK (.inl (by rw [e1, e2]; simpa using he))
        rw [e]
        exact esc [] _ _ rfl (I15.sub ⟨rfl, rfl, rfl, trivial⟩)
  case fin =>
    intro s' J
    refine x_assign (pstr (S [47])) J (ev_if (c := true) (tr_plain (P := pbool true) (ev_v J rfl) fun a h' l o q => t_bool q) (fun _ h3 l3 o3 => (ev_v J rfl).up l3) fun e => by cases e) (.inl rfl) fun s16 I16 => ?_
    have hw := lcs_suffix_left x y
    have hlen : (lcs x y).length ≤ 1000 := Nat.le_trans hw.length_le hlx
    rw [hlcp] at I16
    have hsum : (((lcs x y).reverse.map fun c => [46, c]).map List.length).sum = 2 * (lcs x y).length := by
      rw [List.map_map]
      have := sum_map_const (List.length ∘ fun c : Nat => [46, c]) 2 (fun _ => rfl) (lcs x y).reverse
      rw [List.length_reverse] at this
      exact this
    refine x_return (pstr (S (wayOf (lcs x y)))) I16 (ev_bin (P1 := pstr (S [47])) (P2 := pstr (S (joinL [47] ((lcs x y).reverse.map fun c => [46, c])))) (ev_v I16 rfl) (ev_join (ev_v I16 rfl) (ev_v I16 rfl) ?_) fun a b h' l o q1 q2 => ?_) fun v s' I' q => fin _ _ _ s' I' (ret_sub q)
    · rw [hsum]; simp; omega
    · rw [← way_join]
      refine z_cat q1 q2 ?_
      rw [← List.length_append, way_join]
      have := way_len (lcs x y); omega
end
end Mine

/-! ### Fc1 -/
namespace Mine
open PySem PySem.W PySem.Calls PyProof.Rows PySem.SeqAt

def keys (t : Tab) : List (List Nat) := t.map (·.1)
theorem Rel.get' {vals : List (Str × Value)} {t : Tab} {g : Heap} (x : Rel vals t g) {k : List Nat} (hk : k ∈ keys t) : ∃ v, valueAt vals (S k) = some v ∧ (plist (nats (tget t k))) v g := by
  induction vals generalizing t with
  | nil => cases t with
    | nil => cases hk
    | cons => have := x.length; simp at this
  | cons u vals ih => cases t with
    | nil => cases hk
    | cons p t =>
      obtain ⟨h1, h2, h3⟩ := x.uncons
      unfold valueAt tget
      rw [List.find?_cons, List.lookup_cons, h1]
      by_cases h : k = p.1
      · subst h
        exact ⟨u.2, by simp, by simpa using h2⟩
      · have e1 : (k == p.1) = false := beq_eq_false_iff_ne.mpr h
        have e2 : decide (S p.1 = S k) = false := decide_eq_false fun e => h (S_inj e).symm
        rw [e1, e2]
        refine ih h3 ?_
        rcases List.mem_cons.mp hk with e | e
        · exact absurd e h
        · exact e

section
variable {prog : Program} {w : World} {A : Around} {F : List Addr} {B : Heap} {S₁ : List Addr} {h : Heap} {env : Env} {t : Tab}

theorem z_get_dict {k : List Nat} {a i : Value} (hk : k ∈ keys t) (pa : (ptab prog w t) a (fz S₁ h)) (pi : (pstr (S k)) i (fz S₁ h)) : Do prog w A F B S₁ h (getItem a i) (plist (nats (tget t k))).p := fun s Q E o lh kk => by
  obtain ⟨d, vals, rfl, hns, hd, hr⟩ := pa
  obtain ⟨tk, rfl⟩ := dat_str pi
  obtain ⟨v, hv, pv⟩ := hr.get' hk
  have up : (fz S₁ h).StaysIn s.heap := fun b ob e => lh.keep _ _ (fz_in e).1 (fun m => (fz_in e).2 (o.fs _ m))
  have hd' : s.heap.DictOf (strKind prog w) d vals := by obtain ⟨ob, es, ep, e, r⟩ := hd; exact ⟨ob, es, ep, up _ _ e, r⟩
  exact wpAny_getItem_of (strKind_is prog w (S k) tk) hd'.mapOf hv (kk _ _ (Go.toks _) ((plist _).mono (fz_le lh o.fs fun _ m => .inl m) pv))
theorem ev_subdict {value slice : Expr} {pos : Pos} {P2 P : Pd} (x : Ev prog w A F B S₁ h env value (ptab prog w t)) (y : Ev prog w A F B S₁ h env slice P2)
    (z : ∀ a i h', Le F B h h' → Ok A F B S₁ h' → (ptab prog w t) a (fz S₁ h') → P2 i (fz S₁ h') → Do prog w A F B S₁ h' (getItem a i) P.p)
    (hs : ∀ o i, ∃ ops, subscripted slice false o i = PySem.operate ops (getItem o i) := by intro o i; exact ⟨_, rfl⟩) : Ev prog w A F B S₁ h env (.Subscript value slice pos) P :=
  ev_sub (T := "dict") x y (fun a s' ok p => by
    obtain ⟨d, vals, rfl, hns, hd, hr⟩ := p
    have hd' : s'.heap.DictOf (strKind prog w) d vals := by obtain ⟨ob, es, ep, e, r⟩ := hd; exact ⟨ob, es, ep, (fz_in e).1, r⟩
    exact hd'.typeIs) slot_dict_getitem.lookup z hs

theorem keys_vals {vals : List (Str × Value)} {g g' : Heap} (hr : Rel vals t g) {vs : List Value} (hl : vs.length = vals.length) (hi : ∀ (j : Nat) (v : Value), vs[j]? = some v → ∃ k x, vals[j]? = some (k, x) ∧ (strKind prog w).is k v = true) : all (txs (keys t)) vs g' := by
  refine all.of_get (by unfold txs keys; rw [List.length_map, List.length_map, ← hr.length, hl]) fun i v d e1 e2 => ?_
  obtain ⟨k, x, ex, hk⟩ := hi i v e1
  obtain ⟨u, rfl⟩ := Value.isStrOf_shape hk
  have h1 : vals[i]?.map (·.1) = some k := by rw [ex]; rfl
  rw [← List.getElem?_map, hr.1, List.getElem?_map] at h1
  unfold txs keys at e2
  rw [List.map_map, List.getElem?_map] at e2
  cases hp : t[i]? with
  | none => rw [hp] at e2; cases e2
  | some p =>
    rw [hp] at e2 h1
    cases e2
    have : S p.1 = k := Option.some.inj h1
    rw [← this]
    exact dat_str_in _ _
theorem z_list_dict {a : Value} (hh : A.handled = none) (hsz : t.length ≤ 100000) (pa : (ptab prog w t) a (fz S₁ h)) : Do prog w A F B S₁ h (call (.type "list") [a] []) (plist (txs (keys t))).p := fun s Q E o lh kk => by
  obtain ⟨d, vals, rfl, hns, hd, hr⟩ := pa
  have up : (fz S₁ h).StaysIn s.heap := fun b ob e => lh.keep _ _ (fz_in e).1 (fun m => (fz_in e).2 (o.fs _ m))
  have hd' : s.heap.DictOf (strKind prog w) d vals := by obtain ⟨ob, es, ep, e, r⟩ := hd; exact ⟨ob, es, ep, up _ _ e, r⟩
  obtain ⟨ep, hat⟩ := hd'.dictAt
  have hz : sizeLine = 16777216 := rfl
  refine kdl_call (kdl_dict hns) hh hat (by rw [hr.length]; omega) fun h' tk acc' c' hk hD hacc => ?_
  have nS : s.heap.objs.size ∉ S₁ := o.size
  refine kk _ _ ⟨h', tk, rfl, .of_keeps hk⟩ (plist_in (fz_get hD nS) rfl rfl (keys_vals (g := fz S₁ h) hr (by rw [Array.length_toList, hacc.1]) fun j v e => hacc.2 j v (by simpa using e)))

theorem dict_iadd {d : Addr} {vals : List (Str × Value)} {ep : Nat} {s : Shared} {R : Result → Shared → Prop} {S : Addr} (hh : A.handled = none) (hns : (d == sysModules) = false) (hat : s.heap.DictAt (strKind prog w) d vals ep) (hn : vals.length ≤ sizeLine) (hSd : S ≠ d)
    (hS : s.heap.get? S = some { cls := .type "list", data := .seq #[] })
    (hR : ∀ h' tk acc' c', (∀ b o, b ≠ S → s.heap.get? b = some o → h'.get? b = some o) → h'.get? S = some { cls := .type "list", dict := none, data := .seq acc' c', slots := #[] } → ItemsOf (fun i v => ∃ k x, vals[i]? = some (k, x) ∧ (strKind prog w).is k v = true) acc' vals.length → R (.ok (.ret (.ref S))) { s with heap := h', toks := tk }) :
    codeAny (model prog w) A (.builtin "list.__iadd__" ⟨[.ref S, .ref d], []⟩) R s := by
  refine codeAny_builtin PySem.F.entry_list_iadd ?_
  rw [Around.under_plainId PySem.F.plain_list_iadd _]
  show wpAny _ A.in1 (Builtin.List.listExtendWith (.ref S) (.ref d) (.ref S)) _ _ _
  exact kdl_extend (kdl_dict hns) hh hat S hSd hSd (.ref S) 0 hS hR hn
/-- the keys, collected -/
theorem collect_dict {d : Addr} {vals : List (Str × Value)} {s : Shared} {E : Value → Shared → Prop} {Q : List Value → Shared → Prop} (hh : A.handled = none) (hns : (d == sysModules) = false) (hd : s.heap.DictOf (strKind prog w) d vals) (hn : vals.length ≤ 100000)
    (hQ : ∀ h' tk vs, (∀ b o, s.heap.get? b = some o → h'.get? b = some o) → vs.length = vals.length → (∀ (j : Nat) (v : Value), vs[j]? = some v → ∃ k x, vals[j]? = some (k, x) ∧ (strKind prog w).is k v = true) → Q vs { s with heap := h', toks := tk }) : wpAny (model prog w) A (collect (.ref d)) Q E s := by
  obtain ⟨ep, hat⟩ := hd.dictAt
  have hz : sizeLine = 16777216 := rfl
  have hlt := hat.lt_size
  unfold collect
  refine wpAny_bind (wpAny_runValue (codeAny_builtin PySem.F.entry_proto_collect ?_))
  rw [Around.under_plainId PySem.F.plain_proto_collect _]
  show wpAny _ A.in1 (newList [] >>= fun l => again (.builtin "list.__iadd__" ⟨[l, .ref d], []⟩)) _ _ s
  refine wpAny_bind (wpAny_newObj_type ?_ (Nat.zero_le _))
  have hS : (s.heap.push { cls := .type "list", data := .seq ([] : List Value).toArray }).get? s.heap.objs.size = some { cls := .type "list", data := .seq #[] } := Heap.get?_push_size _ rfl
  refine wpAny_pure ⟨plainId_quiet PySem.F.plain_list_iadd _, dict_iadd (s := { s with heap := s.heap.push { cls := .type "list", data := .seq ([] : List Value).toArray } }) hh hns (hat.push _) (by omega) (Nat.ne_of_gt hlt) hS fun h' tk acc' c' hk hS' hacc => ?_⟩
  show wpAny _ A (load s.heap.objs.size >>= _) _ _ _
  refine wpAny_bind (wpAny_load hS' ?_)
  exact wpAny_pure (hQ h' tk acc'.toList (fun b ob e => hk b ob (Nat.ne_of_lt (Heap.lt_size e)) (Heap.get?_push_of_some _ e)) (by rw [Array.length_toList, hacc.1]) fun j v e => hacc.2 j v (by simpa using e))

/-! ## sorted, of texts -/
def leN (a b : List Nat) : Bool := !decide (b < a)
def sortT (xs : List (List Nat)) : List (List Nat) := xs.mergeSort leN
theorem leN_trans : ∀ (a b c : List Nat), leN a b = true → leN b c = true → leN a c = true := fun a b c h1 h2 => by
  simp only [leN, Bool.not_eq_true', decide_eq_false_iff_not] at *
  exact List.not_lt.mpr (List.le_trans (List.not_lt.mp h1) (List.not_lt.mp h2))
theorem leN_total : ∀ (a b : List Nat), (leN a b || leN b a) = true := fun a b => by
  simp only [leN, Bool.or_eq_true, Bool.not_eq_true', decide_eq_false_iff_not]
  by_cases h : b < a
  · exact .inr (List.lt_asymm h)
  · exact .inl h
theorem sortT_perm (xs : List (List Nat)) : (sortT xs).Perm xs := List.mergeSort_perm xs leN
theorem sortT_sorted (xs : List (List Nat)) : (sortT xs).Pairwise fun a b => leN a b = true := List.pairwise_mergeSort leN_trans leN_total xs
theorem sortT_uniq {xs ys : List (List Nat)} (hp : ys.Perm xs) (hs : ys.Pairwise fun a b => leN a b = true) : ys = sortT xs :=
  (hp.trans (sortT_perm xs).symm).eq_of_pairwise (fun a b _ _ h1 h2 => by
    simp only [leN, Bool.not_eq_true', decide_eq_false_iff_not] at h1 h2
    exact List.le_antisymm (List.not_lt.mp h1) (List.not_lt.mp h2)) hs (sortT_sorted xs)
theorem risingS_pw : ∀ (p : Str) (l : List Str), risingS p l = true → (p :: l).Pairwise fun a b => leN a.cps.toList b.cps.toList = true
  | p, [], _ => by simp
  | p, x :: r, h => by
    have h' : (!Spec.ltCps x.cps.toList p.cps.toList && risingS x r) = true := h
    rw [Bool.and_eq_true] at h'
    have ih := risingS_pw x r h'.2
    have h1 : leN p.cps.toList x.cps.toList = true := by
      have := h'.1
      rw [ltCps_eq] at this
      exact this
    refine List.pairwise_cons.mpr ⟨fun y hy => ?_, ih⟩
    rcases List.mem_cons.mp hy with rfl | hy
    · exact h1
    · exact leN_trans _ _ _ h1 ((List.pairwise_cons.mp ih).1 y hy)
theorem sortedS_pw {l : List Str} (h : sortedS l = true) : l.Pairwise fun a b => leN a.cps.toList b.cps.toList = true := by
  cases l with
  | nil => simp
  | cons x r => exact risingS_pw x r h

theorem z_sorted {xs : List (List Nat)} {a : Value} (h64 : xs.length < 64) (pa : (plist (txs xs)) a (fz S₁ h)) : Do prog w A F B S₁ h (call (.builtin "sorted") [a] []) (plist (txs (sortT xs))).p := fun s Q E o lh kk => by
  obtain ⟨l, vs, rfl, hl, hall⟩ := plist_out pa
  have up : (fz S₁ h).StaysIn s.heap := fun b ob e => lh.keep _ _ (fz_in e).1 (fun m => (fz_in e).2 (o.fs _ m))
  have hl' : s.heap.IsList l vs.toArray := by obtain ⟨ob, e, r⟩ := hl; exact ⟨ob, up _ _ e, r⟩
  have hlen := hall.length
  rw [List.length_map] at hlen
  refine sorted_strs hl' (strsAre_of hall) (by omega) fun out ss' h1 h2 h3 => ?_
  obtain ⟨e, he⟩ := sortedAll_at s.heap vs out
  have nS : s.heap.objs.size + 1 ∉ S₁ := fun m => by
    obtain ⟨ob, e'⟩ := o.al _ m
    have := Heap.lt_size e'
    exact absurd this (Nat.not_lt.mpr (Nat.le_succ _))
  refine kk _ _ ⟨_, s.toks, rfl, .of_keeps fun b ob e => sortedAll_old e⟩ (plist_in (fz_get he nS) rfl rfl ?_)
  have es : ss' = (ss'.map (·.cps.toList)).map S := by
    rw [List.map_map]
    conv => lhs; rw [← List.map_id ss']
    exact List.map_congr_left fun p _ => S_of p
  have e3 : ss'.map (·.cps.toList) = sortT xs := by
    refine sortT_uniq ?_ ?_
    · have := h2.map (·.cps.toList)
      rw [List.map_map] at this
      have e4 : xs.map ((fun x => x.cps.toList) ∘ S) = xs := by
        conv => rhs; rw [← List.map_id xs]
        exact List.map_congr_left fun p _ => S_cps p
      rw [e4] at this; exact this
    · rw [List.pairwise_map]; exact sortedS_pw h3
  rw [← e3]
  have : ∀ {vs : List Value} {ss : List Str} (g : Heap), StrsAre vs ss → all (txs (ss.map (·.cps.toList))) vs g := by
    intro vs ss g hS
    induction hS with
    | nil => exact .nil
    | cons x t hr ih =>
      refine all.cons ?_ ih
      show (dat (.str (S x.cps.toList))).p _ _
      rw [← S_of x]; exact dat_str_in _ _
  exact this _ h1
end
end Mine

/-! ### Fc2 -/
namespace Mine
open PySem PySem.W PySem.Calls PyProof.Rows PySem.SeqAt

/-! ## the lambda of the law -/
def lamParams (p : Pos) : Arguments := { posonlyargs := [], args := [{ arg := "stretch", annotation := none, pos := p }], vararg := none, kwonlyargs := [], kw_defaults := [], kwarg := none, defaults := [] }
def lamScope : Scope := { kind := .function, names := [(Str.ofString "stretch", .local), (Str.ofString "len", .globalImplicit)], isGenerator := false, isCoroutine := false, more := [] }
def lamBody (p1 p2 p3 : Pos) : Expr := .Call (.Name "len" p1) [.Name "stretch" p2] [] p3
abbrev lamFd (qual : Str) (p p1 p2 p3 : Pos) (pm cdv ctv : Value) : FuncData := kla_fn (Str.ofString "<lambda>") qual (lamParams p) (lamBody p1 p2 p3) lamScope [] pm cdv ctv
def plam : Pd := ⟨fun v g => ∃ fa qual p p1 p2 p3 pm cdv ctv ob, v = .ref fa ∧ g.get? fa = some ob ∧ ob.data = .func (lamFd qual p p1 p2 p3 pm cdv ctv) ∧ g.CodeRec cdv qual,
  fun k ⟨fa, qual, p, p1, p2, p3, pm, cdv, ctv, ob, e, q, d, c⟩ => ⟨fa, qual, p, p1, p2, p3, pm, cdv, ctv, ob, e, k _ _ q, d, c.keeps k⟩⟩

section
variable {prog : Program} {w : World} {A : Around} {F : List Addr} {B : Heap} {S : List Addr} {h : Heap} {env : Env} {ad : Nat → Addr} {t : Tab}

theorem do_lam (W : Wd B ad) {n : Nat} (rm : Rm A n) {f v : Value} {l : List Nat} (hl : l.length ≤ 1000) (pf : plam f (fz S h)) (pv : (pstr (Mine.S l)) v (fz S h)) : Do prog w A F B S h (call f [v] []) (pint (l.length : Int)).p := fun s Q E o lh k => by
  obtain ⟨fa, qual, p, p1, p2, p3, pm, cdv, ctv, ob, rfl, ho, hd, hcd⟩ := pf
  have up : (fz S h).StaysIn s.heap := fun b ob e => lh.keep _ _ (fz_in e).1 (fun m => (fz_in e).2 (o.fs _ m))
  have hz : sizeLine = 16777216 := rfl
  refine wpAny_call ?_
  refine kla_callFunE (fd := lamFd qual p p1 p2 p3 pm cdv ctv) (by have := rm.dp; have : recursionLimit = 1000 := rfl; omega) (up _ _ ho) hd rfl rfl rfl (hcd.keeps up) ?_
  have hb : bindArgs (lamFd qual p p1 p2 p3 pm cdv ctv) ⟨[v], []⟩ = pure [(Str.ofString "stretch", v)] := rfl
  refine wpAny_of_eq hb ?_
  refine wpAny_newFunctionEnv_cells rfl (fun x hx => ?_) fun env he s2 x => ?_
  · rw [List.mem_singleton.mp hx]; exact .inl rfl
  have hL : env.locals = s.heap.objs.size := by rw [he]; rfl
  have hcells : env.cells = [] := by rw [he]; rfl
  refine ⟨(W.lim.keeps o.bh).keeps x.toInCall.keep, kla_codeExpr ?_⟩
  have le2 : Le F B s.heap s2.heap := .of_keeps x.toInCall.keep
  have frL : s.heap.get? env.locals = none := by
    rw [hL]
    cases e : s.heap.get? s.heap.objs.size with
    | none => rfl
    | some o => exact absurd (Heap.lt_size e) (Nat.lt_irrefl _)
  have hfs : Fs (A.deeper env) (env.locals :: F) B s2.heap := by
    obtain ⟨outer, e1, e2, e3⟩ := (o.le le2).fr
    refine ⟨env :: outer, Around.frames_deeper e1, ?_, ?_⟩
    · rw [List.filterMap_cons, e2, show env.frame = some env.locals from by rw [he]; rfl]
    · refine ⟨by rw [he]; exact (fun q => nomatch (q : ScopeKind.function = ScopeKind.module)), ?_, e3⟩
      obtain ⟨oL, es, ep, eL, dL, _⟩ := x.toInCall.ns
      refine ⟨env.locals, oL, by rw [he]; rfl, ?_, eL, fun vs q => by rw [dL] at q; cases q⟩
      cases e : B.get? env.locals with
      | none => rfl
      | some o' => have := o.bh _ _ e; rw [frL] at this; cases this
  have ok2 : Ok (A.deeper env) (env.locals :: F) B (env.locals :: S) s2.heap := by
    refine ⟨(o.le le2).bh, hfs, fun b m => ?_, fun b m => ?_⟩
    · rcases List.mem_cons.mp m with rfl | m
      · exact .head _
      · exact .tail _ (o.fs b m)
    · rcases List.mem_cons.mp m with rfl | m
      · obtain ⟨oL, _, _, e, _⟩ := x.toInCall.ns; exact ⟨oL, e⟩
      · exact (o.le le2).al b m
  have en : En env := ⟨by rw [he]; rfl, by rw [he]; rfl, by rw [he]; rfl⟩
  have hk1 : env.kindOf "stretch" = some .local := by rw [he]; rfl
  have hk2 : env.kindOf "len" = some .globalImplicit := by rw [he]; rfl
  have V : Vr (env.locals :: S) env s2.heap "stretch" (pstr (Mine.S l)) := by
    refine ⟨v, .inl ⟨hk1, _, x.toInCall.ns, ?_⟩, ?_⟩
    · rw [he]; exact bindL_get rfl (by simp) (.head _)
    · obtain ⟨tk, rfl⟩ := dat_str pv; exact dat_str_in _ _
  have ev : Ev prog w (A.deeper env) (env.locals :: F) B (env.locals :: S) s2.heap env (lamBody p1 p2 p3) (pint (l.length : Int)) :=
    ev_call1 (ev_g en W.b_len hk2) kp_builtin (ev_n en V) fun u h' l' o' q => z_len_str q (by omega)
  refine ev s2 _ _ ok2 .refl fun r s3 g3 q3 => ?_
  obtain ⟨h3, t3, e3, l3⟩ := g3
  obtain ⟨h2, t2, e2⟩ := x.toInCall.same
  have fin : Go F B s s3 := by
    refine ⟨h3, t3, by rw [e3, e2], ⟨fun hb => l3.base (le2.base hb), fun b ob e nn => l3.keep b ob (x.toInCall.keep b ob e) fun m => ?_, fun b ob e => l3.data b ob (x.toInCall.keep b ob e)⟩⟩
    rcases List.mem_cons.mp m with rfl | m
    · rw [frL] at e; cases e
    · exact nn m
  refine k r s3 fin ?_
  obtain ⟨tk, rfl⟩ := dat_int q3
  exact dat_int_in _ _
end
end Mine

/-! ### Fc3 -/
namespace Mine
open PySem PySem.W PySem.Calls PyProof.Rows PySem.SeqAt

section
variable {prog : Program} {w : World} {A : Around} {E : Value → Shared → Prop} {s : Shared} {a kS : Addr} {vs : List Value} {kz : List Int} {keys : Array Value} {e e1 : Nat} {P : PySem.Fin → Shared → Prop}

/-- the sort's end: keys let go, the list laid anew -/
theorem sort_tail {st : SortSt} (hS : s.heap.get? kS = some (seqObj "list" keys e)) (hT : s.heap.get? a = some (seqObj "list" #[] e1)) (hka : kS ≠ a)
    (hk : IntsAre keys.toList kz) (hlen : kz.length = vs.length) (h64 : vs.length < 64) (hp : (arrOf st).Perm (keys.zip vs.toArray)) (hs : SortedTo (arrOf st) (arrOf st).size) (hfl : failedOf st = none)
    (h : ∀ (out : Array Value), KskOut false kz vs out.toList → P (.done (.ret .none)) { s with heap := (s.heap.update kS (Obj.mapSeq fun _ => (#[] : Array Value))).update a (Obj.mapSeq fun _ => out) }) :
    wpAny (model prog w) A (ksk_tail a false e1 (.ref kS) st) P E s := by
  have hsz : keys.size = vs.length := by
    have h1 := hk.length
    rw [Array.length_toList] at h1
    omega
  have hsz2 : (arrOf st).size = vs.length := by rw [hp.size_eq, Array.size_zip, hsz, List.size_toArray, Nat.min_self]
  have hT1 : (s.heap.update kS (Obj.mapSeq fun _ => (#[] : Array Value))).get? a = some (seqObj "list" #[] e1) := (Heap.get?_update_other _ _ hka).trans hT
  unfold ksk_tail
  try dsimp only
  refine wpAny_bind (listUpdate_at hS rfl ?_ (by rw [hsz, sizeLine_eq]; omega) (Nat.zero_le _))
  refine wpAny_bind (wpAny_letGo ?_)
  refine wpAny_bind (seqEpoch_at hT1 rfl ?_)
  refine wpAny_bind (listUpdate_at hT1 rfl ?_ (Nat.zero_le _) (by show ((arrOf st).map (·.2)).size ≤ _; rw [Array.size_map, hsz2, sizeLine_eq]; omega))
  rw [hfl]
  simp only [bne_self_eq_false, Bool.false_eq_true, if_false]
  exact wpAny_pure (h _ (ksk_out (b := false) hk hp hs))

theorem sort_end (hS : s.heap.get? kS = some (seqObj "list" keys e)) (hT : s.heap.get? a = some (seqObj "list" #[] e1)) (hka : kS ≠ a)
    (hk : IntsAre keys.toList kz) (hlen : kz.length = vs.length) (h64 : vs.length < 64)
    (h : ∀ (out : Array Value), KskOut false kz vs out.toList → P (.done (.ret .none)) { s with heap := (s.heap.update kS (Obj.mapSeq fun _ => (#[] : Array Value))).update a (Obj.mapSeq fun _ => out) }) :
    wpAny (model prog w) A (ksk_end a false vs.toArray e1 (.ref kS) keys) P E s := by
  have hsz : keys.size = vs.length := by
    have h1 := hk.length
    rw [Array.length_toList] at h1
    omega
  have hzs : (keys.zip vs.toArray).size = vs.length := by rw [Array.size_zip, hsz, List.size_toArray, Nat.min_self]
  unfold ksk_end
  try dsimp only
  simp only [Bool.false_eq_true, if_false]
  by_cases h2 : vs.toArray.size < 2
  · rw [if_pos h2, if_pos h2]
    refine wpAny_bind (wpAny_pure ?_)
    rw [StateT.run_pure]
    refine wpAny_bind (wpAny_pure ?_)
    try dsimp only
    refine sort_tail (st := SortSt.mk' general' (keys.zip vs.toArray) #[] 7 none) hS hT hka hk hlen h64 (Array.Perm.refl _) ?_ rfl h
    intro i j hij hj
    have hj2 : j < (keys.zip vs.toArray).size := hj
    rw [hzs] at hj2
    rw [List.size_toArray] at h2
    have : i = j := by omega
    subst this
    exact Int.le_refl _
  · rw [if_neg h2, if_neg h2]
    rw [List.size_toArray] at h2
    rw [ksk_kind hk (by rw [hsz]; omega)]
    refine wpAny_bind (wpAny_pure ?_)
    refine wpAny_bind (wpAny_mono (wpS_sortRuns (a₀ := keys.zip vs.toArray) (st := SortSt.mk' oneType' (keys.zip vs.toArray) #[] 7 none)
      (Q := fun _ st' => (arrOf st').Perm (keys.zip vs.toArray) ∧ failedOf st' = none ∧ SortedTo (arrOf st') (keys.zip vs.toArray).size)
      (ksk_intKeys hk) ⟨Array.Perm.refl _, rfl, rfl, rfl⟩ (by rw [hzs]; omega) (by rw [hzs]; exact h64) fun st' a1 a2 a3 => ⟨a1, a2, a3⟩) ?_ fun _ _ e => e)
    rintro ⟨⟨⟩, st'⟩ s' ⟨rfl, hp, hf, hs⟩
    try dsimp only
    exact sort_tail hS hT hka hk hlen h64 hp (by rw [hp.size_eq]; exact hs) hf h
end

section
variable {prog : Program} {w : World} {A : Around} {F : List Addr} {B : Heap} {S : List Addr} {E : Value → Shared → Prop} {s : Shared} {a kS : Addr} {e1 : Nat} {ad : Nat → Addr}
/-- the keys made, one call a thing -/
theorem sort_rest (W : Wd B ad) {n : Nat} (rm : Rm A n) {f : Value} {h₀ g : Heap} {xs : List (List Nat)} {vs : List Value} {P : PySem.Fin → Shared → Prop} (hxs : ∀ x ∈ xs, x.length ≤ 1000) (hB : B.StaysIn h₀) (f0 : Fs A F B h₀) (hF : ∀ b ∈ F, b ∈ S) (al : ∀ b ∈ S, ∃ o, h₀.get? b = some o)
    (nk : h₀.get? kS = none) (na : h₀.get? a = none) (hka : kS ≠ a) (pf : plam f (fz S h₀)) (pv : all (txs xs) vs g) (le : Le F B h₀ s.heap) (hS : s.heap.get? kS = some (seqObj "list" #[] 0)) (hT : s.heap.get? a = some (seqObj "list" #[] e1)) (h64 : vs.length < 64)
    (h : ∀ h' tk (out : Array Value) c, Le F B h₀ h' → h'.get? a = some (seqObj "list" out c) → KskOut false (xs.map fun x => (x.length : Int)) vs out.toList → P (.done (.ret .none)) { s with heap := h', toks := tk }) :
    wpAny (model prog w) A (ksk_rest a f false vs.toArray e1 (.ref kS)) P E s := by
  have nF : ∀ b, h₀.get? b = none → b ∉ F := fun b hb m => by obtain ⟨o, e⟩ := al b (hF b m); rw [hb] at e; cases e
  have ok : ∀ h', Le F B h₀ h' → Ok A F B S h' := fun h' l => ⟨l.base hB, f0.le l, hF, fun b m => let ⟨o, e⟩ := al b m; l.alive e⟩
  have hlen : xs.length = vs.length := by have := pv.length; rw [List.length_map] at this; omega
  have hz : sizeLine = 16777216 := rfl
  unfold ksk_rest
  refine wpAny_bind (wpAny_rule ?_)
  rw [List.forIn_toArray]
  refine wpAny_bind (ksk_fold (fun i s' => ∃ h' tk kA e, s' = { s with heap := h', toks := tk } ∧ Le F B h₀ h' ∧ h'.get? kS = some (seqObj "list" kA e) ∧ h'.get? a = some (seqObj "list" #[] e1) ∧ IntsAre kA.toList ((xs.map fun x => (x.length : Int)).take i)) vs 0 s
    ⟨s.heap, s.toks, #[], 0, rfl, le, hS, hT, by simpa using IntsAre.nil⟩ ?step ?done)
  case step =>
    rintro j x s' hx ⟨h', tk, kA, e, rfl, l', hS', hT', hk⟩
    simp only [Nat.zero_add] at hk ⊢
    have hj : j < vs.length := (List.getElem?_eq_some_iff.mp hx).1
    have ex : xs[j]? = some xs[j] := List.getElem?_eq_getElem (by omega)
    obtain ⟨v, ev, pvj⟩ := pv.get (i := j) (d := .str (Mine.S xs[j])) (by unfold txs; rw [List.getElem?_map, ex]; rfl)
    rw [hx] at ev; cases ev
    have pvj' : (pstr (Mine.S xs[j])) x (fz S h₀) := by obtain ⟨t, rfl⟩ := dat_str pvj; exact dat_str_in _ _
    have hkA : kA.size ≤ vs.length := by
      have h1 := hk.length
      rw [Array.length_toList, List.length_take] at h1
      omega
    refine wpAny_bind (wpAny_attempt (do_lam W rm (hxs _ (List.getElem_mem (by omega))) pf pvj' _ _ _ (ok h' l') l' fun r s2 g2 q2 => ?_))
    obtain ⟨h2, tk2, rfl, l2⟩ := g2
    obtain ⟨t2, rfl⟩ := dat_int q2
    have hS2 := l2.keep kS _ hS' (nF _ nk)
    have hT2 := l2.keep a _ hT' (nF _ na)
    try dsimp only
    obtain ⟨c2, hc2⟩ : ∃ c2, (h2.update kS (Obj.mapSeq (·.push (.int (xs[j].length : Int) t2)))).get? kS = some (seqObj "list" (kA.push (.int (xs[j].length : Int) t2)) c2) := ⟨_, get?_update_seq hS2 (·.push (.int (xs[j].length : Int) t2))⟩
    have ek : (xs.map fun x => (x.length : Int)).take (j + 1) = (xs.map fun x => (x.length : Int)).take j ++ [(xs[j].length : Int)] := by rw [List.take_add_one, List.getElem?_map, ex]; simp
    have ea : (kA.push (Value.int (xs[j].length : Int) t2)).toList = kA.toList ++ [Value.int (xs[j].length : Int) t2] := by simp
    refine wpAny_bind (listUpdate_at hS2 rfl ?_ (by omega) (Nat.le_trans (Nat.le_of_eq (Array.size_push ..)) (by omega)))
    refine wpAny_pure ⟨rfl, _, _, kA.push (.int (xs[j].length : Int) t2), c2, rfl, ?_, hc2, (Heap.get?_update_other _ _ hka).trans hT2, by rw [ea, ek]; exact ksk_snoc hk⟩
    exact (l'.trans l2).step hB fun b ob ⟨o1, e1⟩ e => (Heap.get?_update_other _ _ (fun q : kS = b => by rw [← q, nk] at e1; cases e1)).trans e
  case done =>
    rintro s' ⟨h', tk, kA, e, rfl, l', hS', hT', hk⟩
    have hk' : IntsAre kA.toList (xs.map fun x => (x.length : Int)) := by
      have e3 : (xs.map fun x => (x.length : Int)).take (0 + vs.length) = xs.map fun x => (x.length : Int) := List.take_of_length_le (by rw [List.length_map]; omega)
      rw [e3] at hk
      exact hk
    try dsimp only
    refine wpAny_bind (listItems_at hS' rfl ?_)
    refine sort_end (s := { s with heap := h', toks := tk }) hS' hT' hka hk' (by rw [List.length_map]; exact hlen) h64 fun out ko => ?_
    have hT3 : (h'.update kS (Obj.mapSeq fun _ => (#[] : Array Value))).get? a = some (seqObj "list" #[] e1) := (Heap.get?_update_other _ _ hka).trans hT'
    obtain ⟨c, hc⟩ : ∃ c, ((h'.update kS (Obj.mapSeq fun _ => (#[] : Array Value))).update a (Obj.mapSeq fun _ => out)).get? a = some (seqObj "list" out c) := ⟨_, get?_update_seq hT3 fun _ => out⟩
    refine h _ tk out c ?_ hc ko
    exact (l'.step hB fun b ob ⟨o1, e1⟩ e => (Heap.get?_update_other _ _ (fun q : kS = b => by rw [← q, nk] at e1; cases e1)).trans e).step hB fun b ob ⟨o1, e1⟩ e => (Heap.get?_update_other _ _ (fun q : a = b => by rw [← q, na] at e1; cases e1)).trans e

/-- texts of a dict, laid out by their lengths -/
def prising (t : Tab) : Pd := ⟨fun v g => ∃ R, R.Perm (keys t) ∧ (R.Pairwise fun x y => x.length ≤ y.length) ∧ (plist (txs R)) v g, fun k ⟨R, p, q, r⟩ => ⟨R, p, q, (plist _).mono k r⟩⟩
theorem ksk_texts {g : Heap} {xs : List (List Nat)} {vs out : List Value} (pv : all (txs xs) vs g) (ko : KskOut false (xs.map fun x => (x.length : Int)) vs out) : ∃ R, R.Perm xs ∧ (R.Pairwise fun x y => x.length ≤ y.length) ∧ ∀ g', all (txs R) out g' := by
  obtain ⟨ps, hp, ho, hs⟩ := ko
  let tx : Value → List Nat := fun v => (strOf v).cps.toList
  have hlen : xs.length = vs.length := by have := pv.length; rw [List.length_map] at this; omega
  have htx : vs.map tx = xs := by
    refine List.ext_getElem? fun i => ?_
    rw [List.getElem?_map]
    by_cases hi : i < vs.length
    · have ex : xs[i]? = some xs[i] := List.getElem?_eq_getElem (by omega)
      obtain ⟨v, ev, pvj⟩ := pv.get (i := i) (d := .str (Mine.S xs[i])) (by unfold txs; rw [List.getElem?_map, ex]; rfl)
      obtain ⟨t, rfl⟩ := dat_str pvj
      rw [ev, ex]
      exact congrArg some (S_cps _)
    · rw [List.getElem?_eq_none (by omega), List.getElem?_eq_none (by omega)]; rfl
  have hrel : ∀ p ∈ ps, p.1 = ((tx p.2).length : Int) ∧ ∃ t, p.2 = .str (Mine.S (tx p.2)) t := by
    intro p hp'
    have hm := hp.mem_iff.mp hp'
    obtain ⟨i, hi, e⟩ := List.getElem_of_mem hm
    rw [List.getElem_zip] at e
    rw [List.length_zip, List.length_map] at hi
    have ex : xs[i]? = some xs[i] := List.getElem?_eq_getElem (by omega)
    obtain ⟨v, ev, pvj⟩ := pv.get (i := i) (d := .str (Mine.S xs[i])) (by unfold txs; rw [List.getElem?_map, ex]; rfl)
    obtain ⟨t, rfl⟩ := dat_str pvj
    have e2 : vs[i]'(by omega) = .str (Mine.S xs[i]) t := by
      have := List.getElem?_eq_getElem (l := vs) (i := i) (by omega)
      rw [ev] at this; exact (Option.some.inj this).symm
    rw [← e]
    simp only [List.getElem_map, e2]
    have : tx (.str (Mine.S xs[i]) t) = xs[i] := S_cps _
    rw [this]
    exact ⟨rfl, t, rfl⟩
  refine ⟨ps.map fun p => tx p.2, ?_, ?_, fun g' => ?_⟩
  · have h1 := hp.map fun p => tx p.2
    have h2 : ((xs.map fun x => (x.length : Int)).zip vs).map (fun p => tx p.2) = xs := by
      have : (fun p : Int × Value => tx p.2) = tx ∘ Prod.snd := rfl
      rw [this, ← List.map_map, List.map_snd_zip (by rw [List.length_map]; omega), htx]
    rw [h2] at h1; exact h1
  · rw [List.pairwise_map]
    refine hs.imp_of_mem fun {p q} hp' hq' hr => ?_
    have hr' : p.1 ≤ q.1 := by simpa using hr
    rw [(hrel p hp').1, (hrel q hq').1] at hr'
    omega
  · rw [ho]
    have : ∀ l : List (Int × Value), (∀ p ∈ l, ∃ t, p.2 = .str (Mine.S (tx p.2)) t) → all (txs (l.map fun p => tx p.2)) (l.map Prod.snd) g' := by
      intro l
      induction l with
      | nil => intro _; exact .nil
      | cons p l ih =>
        intro hl
        obtain ⟨t, et⟩ := hl p (.head _)
        refine all.cons ?_ (ih fun q m => hl q (.tail _ m))
        show (dat (.str (Mine.S (tx p.2)))).p p.2 g'
        rw [et]
        have : tx (.str (Mine.S (tx p.2)) t) = tx p.2 := S_cps _
        rw [this]
        exact dat_str_in _ _
    exact this ps fun p m => (hrel p m).2
/-- sorted(d, key=the lambda) -/
theorem z_sortedkey {h : Heap} {t : Tab} {x f : Value} (W : Wd B ad) {n : Nat} (rm : Rm A (n + 2)) (hxs : ∀ x ∈ keys t, x.length ≤ 1000) (h64 : t.length < 64) (pa : (ptab prog w t) x (fz S h)) (pf : plam f (fz S h)) :
    Do prog w A F B S h (call (.builtin "sorted") [x] [(Str.ofString "key", f)]) (prising t).p := fun s Q E o lh kk => by
  obtain ⟨d, vals, rfl, hns, hd, hr⟩ := pa
  obtain ⟨fa, hfa⟩ : ∃ fa, f = .ref fa := by obtain ⟨fa, _, _, _, _, _, _, _, _, _, e, _⟩ := pf; exact ⟨fa, e⟩
  subst hfa
  have up : (fz S h).StaysIn s.heap := fun b ob e => lh.keep _ _ (fz_in e).1 (fun m => (fz_in e).2 (o.fs _ m))
  have hd' : s.heap.DictOf (strKind prog w) d vals := by obtain ⟨ob, es, ep, e, r⟩ := hd; exact ⟨ob, es, ep, up _ _ e, r⟩
  have hz : sizeLine = 16777216 := rfl
  have hvl := hr.length
  have R2 : Rm A.in1.in1 n := Rm.in1 (n := n) (Rm.in1 (n := n + 1) rm)
  refine call_function_entry_kw kind_sorted plain_sorted entry_sorted (ksk_s1 _ _) ?_
  unfold Builtin.«sorted»
  refine wpAny_bind (m := checkCount "sorted" 1 1 _) (wpAny_pure ?_)
  refine wpAny_bind (collect_dict (A := A.in1) rm.hh hns hd' (by omega) fun h1 tk1 vs hk1 hl1 hv1 => ?_)
  have pv : all (txs (keys t)) vs h1 := keys_vals (g := fz S h) hr hl1 hv1
  refine wpAny_bind (wpAny_newList ?_ (by omega))
  have hoL : (h1.push (seqObj "list" vs.toArray 0)).get? h1.objs.size = some (seqObj "list" vs.toArray 0) := Heap.get?_push_size _ rfl
  have fr1 : ∀ b, h1.objs.size ≤ b → s.heap.get? b = none := fun b hb => by
    cases e : s.heap.get? b with
    | none => rfl
    | some o' => exact absurd (Heap.lt_size (hk1 b o' e)) (Nat.not_lt.mpr hb)
  refine wpAny_bind (wpAny_holding (wpAny_call_entry_kw slot_list_sort ⟨_, hoL, rfl⟩ entry_list_sort ?body (ksk_l1 _ _)))
  case body =>
    show wpAny (model prog w) A.in1.in1 (Builtin.«list.sort» ⟨[.ref h1.objs.size], [(Str.ofString "key", .ref fa)]⟩) _ _ _
    rw [ksk_t1]
    unfold ksk_tree
    refine wpAny_bind (listItems_at hoL rfl ?_)
    refine wpAny_bind (listUpdate_at hoL rfl ?_ (by rw [List.size_toArray]; omega) (Nat.zero_le _))
    obtain ⟨e1, ho1⟩ : ∃ e1, ((h1.push (seqObj "list" vs.toArray 0)).update h1.objs.size (Obj.mapSeq fun _ => (#[] : Array Value))).get? h1.objs.size = some (seqObj "list" #[] e1) := ⟨_, get?_update_seq hoL fun _ => #[]⟩
    refine wpAny_bind (seqEpoch_at ho1 rfl ?_)
    refine wpAny_bind (wpAny_newTuple ?_ (by show vs.length ≤ _; omega))
    refine wpAny_bind (wpAny_newList ?_ (Nat.zero_le _))
    refine wpAny_holding ?_
    generalize hG : ((h1.push (seqObj "list" vs.toArray 0)).update h1.objs.size (Obj.mapSeq fun _ => (#[] : Array Value))).push (seqObj "tuple" vs.toArray 0) = G
    have hGsz : G.objs.size = h1.objs.size + 1 + 1 := by rw [← hG, size_push', Heap.size_update, size_push']
    have ho2 : (G.push (seqObj "list" #[] 0)).get? h1.objs.size = some (seqObj "list" #[] e1) := Heap.get?_push_of_some _ (by rw [← hG]; exact Heap.get?_push_of_some _ ho1)
    have hk2 : ∀ b ob, s.heap.get? b = some ob → (G.push (seqObj "list" #[] 0)).get? b = some ob := fun b ob e => by
      have hb : h1.objs.size ≠ b := fun q => by rw [← q, fr1 _ (Nat.le_refl _)] at e; cases e
      refine Heap.get?_push_of_some _ ?_
      rw [← hG]
      exact Heap.get?_push_of_some _ ((Heap.get?_update_other _ _ hb).trans (Heap.get?_push_of_some _ (hk1 b ob e)))
    have pf' : plam (.ref fa) (fz S s.heap) := plam.mono (fz_le lh o.fs fun _ m => .inl m) pf
    refine sort_rest (s := { s with heap := G.push (seqObj "list" #[] 0), toks := tk1 }) (h₀ := s.heap) W R2 hxs o.bh (Fs.in1 (Fs.in1 o.fr)) o.fs o.al (fr1 _ (by rw [hGsz]; omega)) (fr1 _ (Nat.le_refl _)) (by rw [hGsz]; exact Nat.ne_of_gt (by omega)) pf' pv (.of_keeps hk2) (Heap.get?_push_size _ rfl) ho2 (by omega) fun h' tk out c l' hT' ko => ⟨_, rfl, ?_⟩
    obtain ⟨R, r1, r2, r3⟩ := ksk_texts pv ko
    have nS : h1.objs.size ∉ S := fun m => by obtain ⟨ob, e'⟩ := o.al _ m; rw [fr1 _ (Nat.le_refl _)] at e'; cases e'
    exact wpAny_pure ⟨_, rfl, kk _ _ ⟨h', tk, rfl, l'⟩ ⟨R, r1, r2, plist_in (fz_get hT' nS) rfl rfl (r3 _)⟩⟩
end
end Mine

/-! ### Fc4 -/
namespace Mine
open PySem PySem.W PySem.Calls PyProof.Rows PySem.SeqAt

/-! ## the law's own table of its lambdas -/
def owt0 : Ow := ⟨fun o _ => o = tabObj #[], fun _ e => e⟩
def owt : Ow := ⟨fun o _ => ∃ ps, o = tabObj ps, fun _ e => e⟩
structure Nest (B : Heap) (c P : Addr) : Prop where
  hd : CodeHd B c P
  mg : ∃ mg, B.Ns mainGlobals mg ∧ B.BuiltinsAt mg P
  ne : mainGlobals ≠ P

section
variable {prog : Program} {w : World} {A : Around} {F : List Addr} {B h₀ : Heap} {S₀ : List Addr} {env : Env} {own : List (Addr × Ow)} {ρ : List (Str × Pd)} {s₀ s : Shared} {ad : Nat → Addr} {t : Tab} {c P : Addr}

theorem BuiltinsAt_up {h h' : Heap} {mg : Str → Option Value} {P : Addr} (x : h.BuiltinsAt mg P) (k : h.StaysIn h') : h'.BuiltinsAt mg P := by
  obtain ⟨bm, o, h1, h2, h3, h4, h5, r⟩ := x
  exact ⟨bm, o, h1, h2, h3, h4, k _ _ h5, r⟩

theorem x_sortlam {px fp ep p p1 p2 p3 lp kp cpos pos : Pos} {rest : List Stmt} {Q : Flow → Shared → Prop} {E : Value → Shared → Prop} (W : Wd B ad) (N : Nest B c P) {n : Nat} (rm : Rm A (n + 2)) (I : St A F B h₀ S₀ env [(P, owt0)] ρ s₀ s) (hcode : env.code = .ref c)
    (hv : ρ.lookup (Str.ofString "ends") = some (ptab prog w t)) (hxs : ∀ x ∈ keys t, x.length ≤ 1000) (h64 : t.length < 64)
    (k : ∀ R s', R.Perm (keys t) → (R.Pairwise fun x y => x.length ≤ y.length) → St A F B h₀ S₀ env [(P, owt)] (("rising", plist (txs R)) :: ρ) s₀ s' → wpAny (model prog w) A (execs rest env) Q E s')
    (hks : env.kindOf "sorted" = some .globalImplicit := by rfl) (hkr : env.kindOf "rising" = some .local := by rfl) (hcl : closureFor lamScope env = pure [] := by rfl)
    (hl : backTo cpos (starEach [.Name "ends" ep] env) = [(false, eval (.Name "ends" ep) env)] := by rfl)
    (hk : backToKw cpos (keywordEach [⟨some (Str.ofString "key"), .Lambda (lamParams p) (lamBody p1 p2 p3) lamScope lp, kp⟩] env) = [(some (Str.ofString "key"), do let v ← eval (.Lambda (lamParams p) (lamBody p1 p2 p3) lamScope lp) env; standAt cpos; pure v)] := by rfl)
    (he : eval (.Call (.Name "sorted" fp) [.Name "ends" ep] [⟨some (Str.ofString "key"), .Lambda (lamParams p) (lamBody p1 p2 p3) lamScope lp, kp⟩] cpos) env = (do callWith cpos (← eval (.Name "sorted" fp) env) [] (backTo cpos (starEach [.Name "ends" ep] env)) (backToKw cpos (keywordEach [⟨some (Str.ofString "key"), .Lambda (lamParams p) (lamBody p1 p2 p3) lamScope lp, kp⟩] env))) := by rfl)
    (hs : swapsWith (.Call (.Name "sorted" fp) [.Name "ends" ep] [⟨some (Str.ofString "key"), .Lambda (lamParams p) (lamBody p1 p2 p3) lamScope lp, kp⟩] cpos) (some (.Name "rising" px)) pos.line env = pure false := by rfl) :
    wpAny (model prog w) A (execs (.Assign [.Name "rising" px] (.Call (.Name "sorted" fp) [.Name "ends" ep] [⟨some (Str.ofString "key"), .Lambda (lamParams p) (lamBody p1 p2 p3) lamScope lp, kp⟩] cpos) pos :: rest) env) Q E s := by
  refine wpAny_execs_cons (wpAny_Assign_Name ?_ hs)
  rw [he, hl, hk]
  have en := I.en
  refine wpAny_bind (ev_g en W.b_sorted hks (by decide) s _ E I.ok .refl fun v s1 g1 q1 => ?_)
  obtain rfl : v = _ := q1
  have I1 := I.go g1
  refine wp_callWith (B := B) kp_builtin (evalArgs_kw rfl (spliced_cons (ev_v I1 hv (by decide) (by decide) s1 _ E I1.ok .refl fun u s2 g2 q2 => spliced_nil ?_)))
  have I2 := I1.go g2
  refine wpAny_evalAll_cons (wpAny_bind ?_)
  show wpAny _ _ (makeFunction (Str.ofString "<lambda>") (env.qual ++ Str.ofString "<lambda>") (lamParams p) (.expr (lamBody p1 p2 p3)) lamScope env [] [] [] lp lp.line) _ _ s2
  obtain ⟨mg, gm, gb⟩ := N.mg
  have hP2 : s2.heap.get? P = some (tabObj #[]) := by
    obtain ⟨o, e, q⟩ := I2.head
    rw [e]; exact congrArg some q
  have hPm : P ∈ addrs env [(P, owt0)] := .tail _ (List.mem_append_right _ (.head _))
  refine kla_makeFunction (s := s2) (clos := []) (ps := #[]) hcl en.gl (gm.keeps I2.ok.bh) hcode (N.hd.keeps I2.ok.bh) hP2 trivial rfl N.ne (BuiltinsAt_up gb I2.ok.bh) fun c' ctv h' tk hx hge hlt hrec htb => ?_
  generalize hfo : kla_obj (Str.ofString "<lambda>") (env.qual ++ Str.ofString "<lambda>") (lamParams p) (lamBody p1 p2 p3) lamScope [] ((mg (Str.ofString "__name__")).getD .none) c' ctv = fo
  have kk : ∀ b o, b ≠ P → s2.heap.get? b = some o → (h'.push fo).get? b = some o := fun b o hb e => Heap.get?_push_of_some _ (hx b o hb e)
  have I3 : St A F B h₀ S₀ env [(P, owt)] ρ s₀ { s2 with heap := h'.push fo, toks := tk } := I2.owned kk ⟨_, Heap.get?_push_of_some _ htb, _, rfl⟩
  have notSS : ∀ b, s2.heap.objs.size ≤ b → b ∉ SS env [(P, owt0)] S₀ := fun b hb m => by
    obtain ⟨o, e⟩ := I2.ok.al b m
    exact absurd (Heap.lt_size e) (Nat.not_lt.mpr hb)
  have st : (fz (SS env [(P, owt0)] S₀) s2.heap).StaysIn (fz (SS env [(P, owt)] S₀) (h'.push fo)) := fz_turned (List.mem_append_left _ hPm) kk
  have pl : plam (.ref h'.objs.size) (fz (SS env [(P, owt)] S₀) (h'.push fo)) := by
    refine ⟨h'.objs.size, _, p, p1, p2, p3, _, _, ctv, fo, rfl, fz_get (Heap.get?_push_size _ (by rw [← hfo]; rfl)) (notSS _ (Nat.le_trans hge (Nat.le_of_lt hlt))), by rw [← hfo], ?_⟩
    obtain ⟨c1, oc, vs, tq, hc, hoc, r⟩ := hrec
    have e1 : c1 = c' := (Value.ref.inj hc).symm
    subst e1
    exact ⟨c1, oc, vs, tq, rfl, fz_get (Heap.get?_push_of_some _ hoc) (notSS _ hge), r⟩
  refine wpAny_bind (wpAny_standAt (wpAny_pure (wpAny_evalAll_nil ⟨I3.ok.bh, ?_⟩)))
  refine z_sortedkey W rm hxs h64 ((ptab prog w t).mono st q2) pl _ _ E I3.ok .refl fun r s4 g4 q4 => ?_
  have I4 := I3.go g4
  obtain ⟨R, r1, r2, r3⟩ := q4
  exact I4.store (P := plist (txs R)) r3 (.inl hkr) fun s5 I5 => k R s5 r1 r2 I5
end
end Mine

/-! ### Fc5 -/
namespace Mine
open PySem PySem.W PySem.Calls PyProof.Rows PySem.SeqAt

section
variable {prog : Program} {w : World} {A : Around} {F : List Addr} {B : Heap} {S₁ : List Addr} {h : Heap} {env : Env} {ad : Nat → Addr}

/-- a, *xs -/
theorem sp_star {t u : Sem Value} {P : Pd} {ds : List PyData} (x : Do prog w A F B S₁ h t P.p) (y : Do prog w A F B S₁ h u (plist ds).p) (hsz : ds.length ≤ sizeLine) : Do prog w A F B S₁ h (spliced [(false, t), (true, u)]) (fun vs g => ∃ v ws, vs = v :: ws ∧ P v g ∧ all ds ws g) := fun s Q E o l k => by
  refine spliced_cons (x s _ E o l fun v s1 g1 q1 => ?_)
  have o1 := o.le g1.le
  show wpAny _ _ (u >>= _) _ _ _
  refine wpAny_bind (y s1 _ E o1 (l.trans g1.le) fun a s2 g2 q2 => ?_)
  have o2 := o1.le g2.le
  obtain ⟨D, vs, rfl, hl, hall⟩ := plist_out q2
  have hl' : s2.heap.IsList D vs.toArray := by obtain ⟨ob, e, r⟩ := hl; exact ⟨ob, (fz_in e).1, r⟩
  simp only [if_true]
  refine wpAny_bind ?_
  unfold notIterableAtAll
  refine wpAny_bind (wpAny_specialOf hl'.typeIs slot_list_iter.lookup ?_)
  refine wpAny_pure ?_
  simp only [Bool.false_eq_true, if_false]
  have keep : ∀ b ob, s2.heap.get? b = some ob → ((s2.heap.push (seqObj "list" #[] 0)).update s2.heap.objs.size (Obj.mapSeq (· ++ vs.toArray))).get? b = some ob := fun b ob e =>
    (Heap.get?_update_other _ _ (Nat.ne_of_gt (Heap.lt_size e))).trans (Heap.get?_push_of_some _ e)
  refine wpAny_bind (collect_list hl' ?_ (by rw [hall.length]; exact hsz))
  refine wpAny_bind (wpAny_holding (wpAny_pure (wpAny_pure ?_)))
  have l3 : Le F B s2.heap ((s2.heap.push (seqObj "list" #[] 0)).update s2.heap.objs.size (Obj.mapSeq (· ++ vs.toArray))) := .of_keeps keep
  obtain ⟨h2, t2, rfl, l2⟩ := g1.trans g2
  refine k _ _ ⟨_, t2, rfl, l2.trans l3⟩ ⟨v, vs, by simp, P.mono (o1.fz (g2.le.trans l3)) q1, hall.mono (o2.fz l3)⟩

theorem ev_callstar {fe e1 e2 : Expr} {spos pos : Pos} {f : Value} {P1 P : Pd} {ds : List PyData} (x : Ev prog w A F B S₁ h env fe (isv f)) (K : Kp prog w B f) (y : Ev prog w A F B S₁ h env e1 P1) (y2 : Ev prog w A F B S₁ h env e2 (plist ds)) (hsz : ds.length ≤ sizeLine)
    (z : ∀ v ws h', Le F B h h' → Ok A F B S₁ h' → P1 v (fz S₁ h') → all ds ws (fz S₁ h') → Do prog w A F B S₁ h' (call f (v :: ws) []) P.p)
    (hl : backTo pos (starEach [e1, .Starred e2 spos] env) = [(false, eval e1 env), (true, do let v ← eval e2 env; standAt pos; pure v)] := by rfl)
    (he : eval (.Call fe [e1, .Starred e2 spos] [] pos) env = (do callWith pos (← eval fe env) [] (backTo pos (starEach [e1, .Starred e2 spos] env)) []) := by rfl) : Ev prog w A F B S₁ h env (.Call fe [e1, .Starred e2 spos] [] pos) P :=
  ev_call x K (sp_star y (Do.bind y2 fun a h' l o q => Do.stand (Do.pure fun h2 l2 o2 => (plist ds).mono (o.fz l2) q)) hsz) (fun vs h' l o q => by
    obtain ⟨v, ws, rfl, p1, p2⟩ := q
    exact z v ws h' l o p1 p2) hl (fun _ e => by cases e) he
theorem z_is_bool {b c : Bool} {x y : Value} {g : Heap} (px : (pbool b) x g) (py : (pbool c) y g) : Do prog w A F B S₁ h (compareOp .Is x y) (pbool (b == c)).p := fun s Q E o l k => by
  obtain rfl := dat_bool px
  obtain rfl := dat_bool py
  refine wpAny_is_plain rfl ?_
  have : (Value.bool b == Value.bool c) = (b == c) := by cases b <;> cases c <;> rfl
  rw [this]
  exact k _ s .refl (dat_bool_in _)
end
end Mine

/-! ### PlD -/
namespace Mine
/-! ## the law's own things, in plain words -/
def kE (wd : List Nat) : List (List Nat) := keys (tabOf id wd)
def en (wd : List Nat) (x : List Nat) : List Nat := tget (tabOf id wd) x
def whl (wd : List Nat) (x : List Nat) : Bool := wholeB wd x (en wd x)
def wholesOf (wd : List Nat) : List (List Nat) := (kE wd).filter (whl wd)
def prefs (wd : List Nat) : List (List Nat) := (List.range (wd.length + 1)).map fun j => wd.take j
def ordO (wd : List Nat) : List (List Nat) := (prefs wd).mergeSort fun a b => leN (wayOf a) (wayOf b)
def meetO (wd : List Nat) : List (List Nat) := (List.range ((ordO wd).length - 1)).map fun k => lcs ((ordO wd)[k]?.getD []) ((ordO wd)[k + 1]?.getD [])
def fitsB (wd : List Nat) : Bool := decide ((wholesOf wd).filter (fun x => decide (wd.take x.length ≠ x)) = [])
def earlyB (wd : List Nat) : Bool := decide (((kE wd).take (wholesOf wd).length).filter (fun x => decide (x ∉ wholesOf wd)) = [])
def dueB (wd : List Nat) : List Bool := [true, true, fitsB wd, earlyB wd] ++ (kE wd).tail.map fun x => decide (x.tail ∉ wholesOf wd)
inductive Pr where
  | t (x y : List (List Nat))
  | r (x y : List (List Nat))
  | n (x y : List Nat)
def Pr.cmp : Pr → Bool
  | .t x y => Mine.cmp x y
  | .r x y => Mine.cmp x y
  | .n x y => Mine.cmp x y
def turnP (wd : List Nat) (k : Nat) (x : List Nat) : Pr := if k % 2 = 0 then .n (en wd x) (en wd x.tail) else .n (en wd x.tail) (en wd x)
def pairs0 (wd : List Nat) (R : List (List Nat)) : List Pr :=
  [.t (frontsOf wd ++ (meetO wd).map wayOf) ((wholesOf wd).map wayOf), .r ((wholesOf wd).map (en wd)) (R.map (en wd)), .t (frontsOf wd) ((wholesOf wd).map wayOf), .t (((kE wd).map wayOf).take (wholesOf wd).length) ((wholesOf wd).map wayOf)]
def turnsP (wd : List Nat) (m : Nat) : List Pr := (List.range m).map fun k => turnP wd k ((kE wd).tail[k]?.getD [])
def pairsP (wd : List Nat) (R : List (List Nat)) : List Pr := pairs0 wd R ++ turnsP wd (kE wd).tail.length
def IsRising (wd : List Nat) (R : List (List Nat)) : Prop := R.Perm (kE wd) ∧ R.Pairwise fun x y => x.length ≤ y.length

/-- what the walk wants of the plain law -/
structure LawOk (wd : List Nat) : Prop where
  held : tabOf wayOf wd = (tabOf id wd).map fun p => (wayOf p.1, p.2)
  heldGet : ∀ x ∈ kE wd, tget (tabOf wayOf wd) (wayOf x) = en wd x
  nodup : (kE wd).Nodup
  small : (kE wd).length < 64
  tailIn : ∀ x ∈ kE wd, x.tail ∈ kE wd
  letters : ∀ x ∈ kE wd, ∀ c ∈ x, c ∈ wd
  lens : ∀ x ∈ kE wd, x.length ≤ wd.length
  rowIn : ∀ x, ∀ j ∈ en wd x, j ≤ wd.length
  rowLen : ∀ x, (en wd x).length ≤ 100
  d1 : ∀ R, IsRising wd R → dedup (R.map (en wd)) = (R.filter fun x => decide (x.tail ∈ wholesOf wd)).map (en wd)
  d2 : ∀ R, IsRising wd R → dedup (R.map (en wd)).reverse = (R.reverse.filter fun x => decide (x ∈ wholesOf wd)).map (en wd)
  says : ∀ R, IsRising wd R → (pairsP wd R).map Pr.cmp = dueB wd
end Mine

/-! ### Fn18 -/
namespace Mine
open PySem PySem.W PySem.Calls PyProof.Rows PySem.SeqAt

def signs64 : List Nat := (List.range 64).map sign64
theorem signs64_get {i : Nat} (h : i < 64) : signs64[i]? = some (sign64 i) := by
  unfold signs64; rw [List.getElem?_map, List.getElem?_range h]; rfl
theorem joinL_nil : ∀ l : List Nat, joinL [] (l.map fun c => [c]) = l
  | [] => rfl
  | [c] => rfl
  | c :: d :: l => by
    show [c] ++ [] ++ joinL [] ((d :: l).map fun c => [c]) = _
    rw [joinL_nil (d :: l)]; rfl

section
variable {prog : Program} {w : World} {A : Around} {F : List Addr} {B : Heap} {S₁ : List Addr} {h h₀ : Heap} {env : Env} {ad : Nat → Addr} {own : List (Addr × Ow)} {ρ : List (Str × Pd)} {s₀ s : Shared} {D : Addr} {ds : List PyData}

theorem itr_tab {y : Str} {px : Pos} {t : Sem Value} {T : Tab} (hh : A.handled = none) (z : Do prog w A F B S₁ h t (ptab prog w T).p) : Itr prog w A F B S₁ h (.Name y px) t (keys T).length (fun i => ione (.str (S ((keys T)[i]?.getD [])))) :=
  Itr.weaken (itr_dict hh (Do.mono z fun v g q => ptab_dict q)) (by unfold tdat keys; simp) fun i v g h' hi q => by
    have hi' : i < T.length := by unfold tdat at hi; simpa using hi
    have : ((tdat T)[i]?.map (·.1)).getD Str.empty = S ((keys T)[i]?.getD []) := by
      unfold tdat keys
      rw [List.getElem?_map, List.getElem?_map, List.getElem?_eq_getElem hi']; rfl
    rw [← this]; exact q

/-- what the law's frame holds from the seventh row on -/
theorem law_a (W : Wd B ad) {n : Nat} (rm : Rm A (n + 12)) {name qual : Str} {kV doc pm ct cd : Value} {an : Option Addr} {L a : Addr} {ns : List Int} (hln : ns.length ≤ 1000) {wd : List Nat} (hwd : wd = (sixes ns).map sign64)
    (hs : ∀ c ∈ wd, sgn c) (hsix : ∀ i ∈ sixes ns, i < 64)
    (henv : env = callEnvC (fdOf 34 name qual .none kV doc pm ct cd an) L a) {Q : Flow → Shared → Prop} {E : Value → Shared → Prop}
    (I : St A F B h₀ S₁ env own [("script", plist (intsD ns))] s₀ s)
    (k : ∀ s', St A F B h₀ S₁ env own [("ends", ptab prog w (tabOf id wd)), ("held", ptab prog w (tabOf wayOf wd)), ("fronts", plist (txs (frontsOf wd))), ("word", pstr (S wd))] s₀ s' → wpAny (model prog w) A (execs ((fb 34).drop 7) env) Q E s') :
    wpAny (model prog w) A (execs (fb 34) env) Q E s := by
  have en := I.en
  have hl8 : wd.length = 8 := by rw [hwd, List.length_map, sixes_len]
  have hsz : sizeLine = 16777216 := rfl
  subst henv
  revert k
  conv in fb 34 => whnf
  conv in fb 34 => whnf
  intro k
  refine x_assign (pstr (S signs64)) I (ev_S signs64) (.inr ⟨rfl, _, rfl⟩) fun s2 I2 => ?_
  refine x_assign (plist (nats (sixes ns))) I2 (ev_call1 (ev_g en W.n28) (W.f 28).kp (ev_v I2 rfl) fun u h' l o q => sp_sixes W rm hln q) (.inl rfl) fun s3 I3 => ?_
  refine x_assign (pstr (S wd)) I3 ?w (.inr ⟨rfl, _, rfl⟩) fun s4 I4 => ?_
  case w =>
    have : S wd = S (joinL [] (wd.map fun c => [c])) := by rw [joinL_nil]
    rw [this]
    refine ev_join (ev_S []) (ev_listcomp (n := (sixes ns).length) (item := fun i => ione (.int (((sixes ns)[i]?.getD 0 : Nat) : Int))) (fun i => vone "six" (.int (((sixes ns)[i]?.getD 0 : Nat) : Int))) (fun _ => true) (fun i => .str (S [sign64 ((sixes ns)[i]?.getD 0)])) (itr_nats rm.hh (ev_v I3 rfl)) (fun i hi => asg_one (fun _ => rfl) (fun _ => rfl) (fun _ => rfl)) (fun i S' h' C hi T => do_tests_nil) ?_ (fun i m g g' k q => vone_mono k q) ?_ (by rw [sixes_len]; decide)) ?_
    · intro i S' h' C hi _ T
      have hm : (sixes ns)[i]?.getD 0 < 64 := by rw [List.getElem?_eq_getElem hi]; exact hsix _ (List.getElem_mem _)
      exact ev_substr (l := signs64) (ev_n en.comp (T.free (I3.var (x := "signs") rfl))) (ev_n en.comp T.one) fun a i' h' l o q1 q2 => z_get_str q1 q2 (signs64_get hm) (by unfold signs64; rw [List.length_map, List.length_range]; decide)
    · rw [keep_all, range_get (fun i => PyData.str (S [sign64 i]))]
      unfold txs
      rw [hwd, List.map_map, List.map_map]; rfl
    · rw [List.map_map, List.length_map, hl8]
      have := sum_map_const (List.length ∘ fun c : Nat => [c]) 1 (fun _ => rfl) wd
      rw [this, hl8]; simp
  refine x_assign (pstr (S wd)) I4 (ev_call1 (ev_g en W.n29) (W.f 29).kp (ev_v I4 rfl) fun u h' l o q => by rw [hwd]; exact sp_text W (rm.le (by omega) : Rm A (0 + 4)) (sixes_len ns) hsix q) (.inr ⟨rfl, _, rfl⟩) fun s5 I5 => ?_
  refine x_asg_comp (n := wd.length + 1) (item := fun j => ione (.int (j : Int))) I5 (fun j => vone "j" (.int (j : Int))) (fun _ => true) (fun j => .str (S (wayOf (wd.take j)))) (l := txs (frontsOf wd))
    (ints_range (y := "j") (n := wd.length + 1) rm.hh (ev_range1 (ev_g en W.t_range) (ev_bin (P1 := pint (wd.length : Int)) (P2 := pint 1) (P := pint ((wd.length + 1 : Nat) : Int)) (ev_call1 (ev_g en W.b_len) kp_builtin (ev_v I5 (x := "text") rfl) fun u h' l o q => z_len_str q (by omega)) ev_int fun a b h' l o q1 q2 => z_add q1 q2)) (by omega))
    (fun i hi => asg_one (fun _ => rfl) (fun _ => rfl) (fun _ => rfl)) (fun i S' h' C hi T => do_tests_nil) ?_ (fun i m g g' k q => vone_mono k q) ?_ (by omega) (.inl rfl) fun s6 I6 => ?_
  · intro j S' h' C hj _ T
    have ltk : (wd.take j).length ≤ 8 := by rw [List.length_take]; omega
    refine ev_callstar (P1 := pstr (S [47])) (ds := txs ((wd.take j).reverse.map fun c => [46, c])) (ev_g en.comp W.n24) (W.f 24).kp (ev_S [47]) ?_ (by unfold txs; rw [List.length_map, List.length_map, List.length_reverse]; omega) fun v ws h2 l2 o2 p1 p2 => ?_
    · refine ev_listcomp (n := (wd.take j).reverse.length) (item := fun i => ione (.str (S [(wd.take j).reverse[i]?.getD 0]))) (fun i => vone "sign" (.str (S [(wd.take j).reverse[i]?.getD 0]))) (fun _ => true) (fun i => .str (S [46, (wd.take j).reverse[i]?.getD 0])) ?_ ?_ ?_ ?_ (fun i m g g' k q => vone_mono k q) ?_ (by rw [List.length_reverse]; omega)
      · refine itr_S rm.hh (ev_substr (l := wd.take j) (ev_substr (l := wd) (ev_n en.comp (T.free (I5.var (x := "text") rfl))) (ev_slice part_none (part_some (ev_n en.comp T.one)) part_none) fun a i h' l o q1 q2 => ?_) (ev_slice part_none part_none (part_some ev_neg)) fun a i h' l o q1 q2 => z_rev_str q1 q2 (by omega))
        have := z_slice_str (prog := prog) (w := w) (A := A) (F := F) (B := B) (lo := none) (hi := some j) q1 q2 (by omega)
        exact this
      · exact fun i hi => asg_one (fun _ => rfl) (fun _ => rfl) (fun _ => rfl)
      · exact fun i S2 h2 C2 hi T2 => do_tests_nil
      · intro i S2 h2 C2 hi _ T2
        refine ev_bin (P1 := pstr (S [46])) (P2 := pstr (S [(wd.take j).reverse[i]?.getD 0])) (ev_S [46]) (ev_n en.comp.comp T2.one) fun a b h' l o q1 q2 => ?_
        exact z_cat q1 q2 (by simp; omega)
      · rw [keep_all, range_get (fun c => PyData.str (S [46, c]))]; unfold txs; rw [List.map_map]; rfl
    · have := sp_join (prog := prog) (w := w) (F := F) (S₁ := S') (h := h2) W (rm.le (by omega) : Rm A (0 + 3)) (l := (wd.take j).reverse) (fun c hc => ?_) (by rw [List.length_reverse]; omega) p1 p2
      · rw [List.reverse_reverse] at this; exact this
      · exact hs c (List.mem_of_mem_take (List.mem_reverse.mp hc))
  · rw [keep_all]
    unfold frontsOf txs
    rw [List.map_map]; rfl
  refine x_assign (ptab prog w (tabOf wayOf wd)) I6 (ev_call1 (ev_g en W.n30) (W.f 30).kp (ev_v I6 rfl) fun u h' l o q => sp_held W (rm.le (by omega) : Rm A (0 + 4)) hs (by omega) q) (.inr ⟨rfl, _, rfl⟩) fun s7 I7 => ?_
  refine x_assign (ptab prog w (tabOf id wd)) I7 (ev_call1 (ev_g en W.n31) (W.f 31).kp (ev_v I7 rfl) fun u h' l o q => sp_ends W (rm.le (by omega) : Rm A (0 + 1)) (by omega) q) (.inr ⟨rfl, _, rfl⟩) fun s8 I8 => ?_
  exact k s8 (I8.sub ⟨rfl, rfl, rfl, rfl, trivial⟩)
end
end Mine

/-! ### Fn19 -/
namespace Mine
open PySem PySem.W PySem.Calls PyProof.Rows PySem.SeqAt

def rws (L : List (List Nat)) : List PyData := L.map fun l => .list (nats l)
theorem LawOk.keysH {wd : List Nat} (K : LawOk wd) : keys (tabOf wayOf wd) = (kE wd).map wayOf := by
  rw [K.held]; unfold kE keys; rw [List.map_map, List.map_map]; rfl
theorem LawOk.inH {wd : List Nat} (K : LawOk wd) {x : List Nat} (hx : x ∈ kE wd) : wayOf x ∈ keys (tabOf wayOf wd) := by
  rw [K.keysH]; exact List.mem_map_of_mem hx
theorem asc_way {x : List Nat} (h : ∀ c ∈ x, sgn c) : asc (wayOf x) := fun c hc => by
  rcases way_mem hc with rfl | rfl | h1
  · omega
  · omega
  · exact (h c h1).2.2
theorem LawOk.sg {wd : List Nat} (K : LawOk wd) (hs : ∀ c ∈ wd, sgn c) {x : List Nat} (hx : x ∈ kE wd) : ∀ c ∈ x, Mine.sgn c := fun c hc => hs c (K.letters x hx c hc)
theorem LawOk.as {wd : List Nat} (K : LawOk wd) (hs : ∀ c ∈ wd, sgn c) {x : List Nat} (hx : x ∈ kE wd) : Mine.asc x := fun c hc => (K.sg hs hx c hc).2.2
theorem wholes_in {wd x : List Nat} (h : x ∈ wholesOf wd) : x ∈ kE wd := (List.mem_filter.mp h).1

section
variable {prog : Program} {w : World} {A : Around} {F : List Addr} {B : Heap} {S₁ : List Addr} {h h₀ : Heap} {env : Env} {ad : Nat → Addr} {own : List (Addr × Ow)} {ρ : List (Str × Pd)} {s₀ s : Shared} {D : Addr} {ds : List PyData}

theorem law_b (W : Wd B ad) {c P : Addr} (N : Nest B c P) {n : Nat} (rm : Rm A (n + 12)) {name qual : Str} {kV doc pm ct : Value} {an : Option Addr} {L a : Addr} {wd : List Nat} (hl8 : wd.length = 8)
    (hs : ∀ c ∈ wd, sgn c) (K : LawOk wd)
    (henv : env = callEnvC (fdOf 34 name qual .none kV doc pm ct (.ref c) an) L a) {Q : Flow → Shared → Prop} {E : Value → Shared → Prop}
    (I : St A F B h₀ S₁ env [(P, owt0)] [("ends", ptab prog w (tabOf id wd)), ("held", ptab prog w (tabOf wayOf wd)), ("fronts", plist (txs (frontsOf wd))), ("word", pstr (S wd))] s₀ s)
    (k : ∀ R s', IsRising wd R → St A F B h₀ S₁ env [(P, owt)] [("rising", plist (txs R)), ("wholes", plist (txs (wholesOf wd))), ("ways", plist (txs ((kE wd).map wayOf))), ("ends", ptab prog w (tabOf id wd)), ("held", ptab prog w (tabOf wayOf wd)), ("fronts", plist (txs (frontsOf wd))), ("word", pstr (S wd))] s₀ s' → wpAny (model prog w) A (execs ((fb 34).drop 11) env) Q E s') :
    wpAny (model prog w) A (execs ((fb 34).drop 7) env) Q E s := by
  have en := I.en
  have hsz : sizeLine = 16777216 := rfl
  have hu : A.units ≤ 5000 := by have := rm.un; omega
  have hsm := K.small
  subst henv
  revert k
  conv in (fb 34).drop 7 => whnf
  conv in (fb 34).drop 11 => whnf
  intro k
  have kget : ∀ i, i < (kE wd).length → (kE wd)[i]?.getD [] ∈ kE wd := fun i hi => by rw [List.getElem?_eq_getElem hi]; exact List.getElem_mem _
  have klen : ∀ x ∈ kE wd, x.length ≤ 8 := fun x hx => by have := K.lens x hx; omega
  -- ways
  refine x_asg_comp (n := (kE wd).length) (item := fun i => ione (.str (S ((kE wd)[i]?.getD [])))) I (fun i => vone "stretch" (.str (S ((kE wd)[i]?.getD [])))) (fun _ => true) (fun i => .str (S (wayOf ((kE wd)[i]?.getD [])))) (l := txs ((kE wd).map wayOf))
    (itr_tab (T := tabOf id wd) rm.hh (ev_v I (x := "ends") rfl)) (fun i hi => asg_one (fun _ => rfl) (fun _ => rfl) (fun _ => rfl)) (fun i S' h' C hi T => do_tests_nil) ?_ (fun i m g g' k q => vone_mono k q) ?_ (by omega) (.inl rfl) fun s2 I2 => ?_
  · intro i S' h' C hi _ T
    exact ev_call1 (ev_g en.comp W.n33) (W.f 33).kp (ev_n en.comp T.one) fun u h' l o q => sp_way W (rm.le (by omega) : Rm A (0 + 1)) (by have := klen _ (kget i hi); omega) q
  · rw [keep_all, range_get (fun x => PyData.str (S (wayOf x)))]; unfold txs; rw [List.map_map]; rfl
  -- the first test
  refine x_if false I2 (tr_bool (tr_or (b := false) (c := false) ?t1 fun _ h1 l1 o1 => tr_or (b := false) (c := false) ?t2 fun _ h2 l2 o2 => tr_nil rfl)) fun s3 I3 => ?_
  case t1 =>
    refine tr_cmp (P1 := plist (txs ((kE wd).map wayOf))) (P2 := plist (txs ((kE wd).map wayOf))) (ev_call1 (P1 := ptab prog w (tabOf wayOf wd)) (ev_g en W.t_list) kp_type (ev_v I2 rfl) fun u h' l o q => ?_) (ev_v I2 rfl) fun x y h' l o q1 q2 => ?_
    · have := z_list_dict (prog := prog) (w := w) (A := A) (F := F) (B := B) rm.hh (by have := congrArg List.length K.keysH; unfold keys at this; rw [List.length_map, List.length_map] at this; omega) q
      rw [K.keysH] at this; exact this
    · refine (z_ne (emb_str.list) (by omega) (by omega) ?_ ?_ q1 q2).mono fun v g q => ?_
      · intro z hz; obtain ⟨x, hx, rfl⟩ := List.mem_map.mp hz; exact asc_way (K.sg hs hx)
      · intro z hz; obtain ⟨x, hx, rfl⟩ := List.mem_map.mp hz; exact asc_way (K.sg hs hx)
      · rw [decide_eq_false (fun h => h rfl)] at q; exact q
  case t2 =>
    refine tr_cmp (P1 := plist (rws ((kE wd).map (Mine.en wd)))) (P2 := plist (rws ((kE wd).map (Mine.en wd)))) (ev_listcomp (n := ((kE wd).map wayOf).length) (item := fun i => ione (.str (S (((kE wd).map wayOf)[i]?.getD [])))) (fun i => vone "way" (.str (S (((kE wd).map wayOf)[i]?.getD [])))) (fun _ => true) (fun i => .list (nats (Mine.en wd ((kE wd)[i]?.getD [])))) (itr_txs rm.hh ((ev_v I2 (x := "ways") rfl).up l1)) (fun i hi => asg_one (fun _ => rfl) (fun _ => rfl) (fun _ => rfl)) (fun i S' h' C hi T => do_tests_nil) ?_ (fun i m g g' k q => vone_mono k q) ?_ (by rw [List.length_map]; omega))
      (ev_listcomp (n := (kE wd).length) (item := fun i => ione (.str (S ((kE wd)[i]?.getD [])))) (fun i => vone "stretch" (.str (S ((kE wd)[i]?.getD [])))) (fun _ => true) (fun i => .list (nats (Mine.en wd ((kE wd)[i]?.getD [])))) (itr_tab (T := tabOf id wd) rm.hh ((ev_v I2 (x := "ends") rfl).up l1)) (fun i hi => asg_one (fun _ => rfl) (fun _ => rfl) (fun _ => rfl)) (fun i S' h' C hi T => do_tests_nil) ?_ (fun i m g g' k q => vone_mono k q) ?_ (by omega)) fun x y h' l o q1 q2 => ?_
    · intro i S' h' C hi _ T
      rw [List.length_map] at hi
      have ei : ((kE wd).map wayOf)[i]?.getD [] = wayOf ((kE wd)[i]?.getD []) := by rw [List.getElem?_map, List.getElem?_eq_getElem hi]; rfl
      rw [ei] at T
      rw [← K.heldGet _ (kget i hi)]
      exact ev_subdict (ev_n en.comp (T.free ((I2.var (x := "held") rfl).le l1 I2.ok.fs))) (ev_n en.comp T.one) fun a' i' h' l o q1 q2 => z_get_dict (K.inH (kget i hi)) q1 q2
    · rw [keep_all, List.length_map, range_get (fun x => PyData.list (nats (Mine.en wd x)))]; unfold rws; rw [List.map_map]; rfl
    · intro i S' h' C hi _ T
      exact ev_subdict (ev_n en.comp (T.free ((I2.var (x := "ends") rfl).le l1 I2.ok.fs))) (ev_n en.comp T.one) fun a' i' h' l o q1 q2 => z_get_dict (kget i hi) q1 q2
    · rw [keep_all, range_get (fun x => PyData.list (nats (Mine.en wd x)))]; unfold rws; rw [List.map_map]; rfl
    · refine (z_ne (f := fun l : List (List Nat) => PyData.list (rws l)) (emb_int.list.list) (by omega) (by omega) ?_ ?_ q1 q2).mono fun v g q => ?_
      · intro z hz d hd; trivial
      · intro z hz d hd; trivial
      · rw [decide_eq_false (fun h => h rfl)] at q; exact q
  rw [if_neg (by decide)]
  refine x_nil ?_
  -- wholes
  have hin : ∀ x ∈ kE wd, tget (tabOf id wd) x = Mine.en wd x := fun _ _ => rfl
  refine x_assign (plist (txs (wholesOf wd))) I3 (ev_listcomp (n := (kE wd).length) (item := fun i => ione (.str (S ((kE wd)[i]?.getD [])))) (fun i => vone "stretch" (.str (S ((kE wd)[i]?.getD [])))) (fun i => whl wd ((kE wd)[i]?.getD [])) (fun i => .str (S ((kE wd)[i]?.getD []))) (itr_tab (T := tabOf id wd) rm.hh (ev_v I3 (x := "ends") rfl)) (fun i hi => asg_one (fun _ => rfl) (fun _ => rfl) (fun _ => rfl)) ?_ (fun i S' h' C hi _ T => ev_n en.comp T.one) (fun i m g g' k q => vone_mono k q) ?_ (by omega)) (.inr ⟨rfl, _, rfl⟩) fun s4 I4 => ?_
  · intro i S' h' C hi T
    refine do_tests_one (tr_plain (P := pbool (whl wd ((kE wd)[i]?.getD []))) (ev_call (R := fun vs g => ∃ v u t, vs = [v, u, t] ∧ (pstr (S wd)) v g ∧ (pstr (S ((kE wd)[i]?.getD []))) u g ∧ (plist (nats (Mine.en wd ((kE wd)[i]?.getD [])))) t g) (ev_g en.comp W.n32) (W.f 32).kp ?_ fun vs h2 l2 o2 q => ?_) fun a h' l o q => t_bool q)
    · refine (sp_cons (ev_n en.comp (T.free (I3.var (x := "word") rfl))) fun h2 l2 o2 => (sp_two (P := pstr (S ((kE wd)[i]?.getD []))) (R := plist (nats (Mine.en wd ((kE wd)[i]?.getD [])))) ((ev_n en.comp T.one).up l2) (Do.up (ev_subdict (ev_n en.comp (T.free (I3.var (x := "ends") rfl))) (ev_n en.comp T.one) fun a' i' h' l o q1 q2 => z_get_dict (kget i hi) q1 q2) l2))).mono fun vs g q => ?_
      obtain ⟨v, vs', rfl, p1, u, t, rfl, p2, p3⟩ := q
      exact ⟨v, u, t, rfl, p1, p2, p3⟩
    · obtain ⟨v, u, t, rfl, p1, p2, p3⟩ := q
      have hx := kget i hi
      exact sp_whole W (rm.le (by omega) : Rm A (0 + 1)) (fun c hc => (hs c hc).2.2) (K.as hs hx) (by omega) (by have := klen _ hx; omega) (K.rowIn _) (by have := K.rowLen ((kE wd)[i]?.getD []); omega) p1 p2 p3
  · rw [outs_list (kE wd) [] (whl wd) (fun x => .str (S x))]
    unfold txs wholesOf; rfl
  -- rising
  refine x_sortlam W N (rm.le (by omega) : Rm A (0 + 2)) I4 rfl rfl (fun x hx => by have := klen x hx; omega) (by unfold kE keys at hsm; rw [List.length_map] at hsm; exact hsm) fun R s5 r1 r2 I5 => ?_
  exact k R s5 ⟨r1, r2⟩ (I5.sub ⟨rfl, rfl, rfl, rfl, rfl, rfl, rfl, trivial⟩)
end
end Mine

/-! ### Fn20 -/
namespace Mine
open PySem PySem.W PySem.Calls PyProof.Rows PySem.SeqAt

theorem ordO_perm (wd : List Nat) : (ordO wd).Perm (prefs wd) := List.mergeSort_perm _ _
theorem ordO_len (wd : List Nat) : (ordO wd).length = wd.length + 1 := by
  rw [(ordO_perm wd).length_eq]; unfold prefs; simp
theorem prefs_in {wd x : List Nat} (h : x ∈ prefs wd) : ∃ j, x = wd.take j := by
  obtain ⟨j, _, rfl⟩ := List.mem_map.mp h; exact ⟨j, rfl⟩
theorem ordO_in {wd x : List Nat} (h : x ∈ ordO wd) : ∃ j, x = wd.take j := prefs_in ((ordO_perm wd).mem_iff.mp h)
theorem ordO_sorted (wd : List Nat) : (ordO wd).Pairwise fun a b => leN (wayOf a) (wayOf b) = true :=
  List.pairwise_mergeSort (le := fun a b => leN (wayOf a) (wayOf b)) (fun a b c => leN_trans (wayOf a) (wayOf b) (wayOf c)) (fun a b => leN_total (wayOf a) (wayOf b)) (prefs wd)
theorem ord_eq (wd : List Nat) : sortT (frontsOf wd) = (ordO wd).map wayOf := by
  symm
  refine sortT_uniq ?_ ?_
  · have h1 := (ordO_perm wd).map wayOf
    have h2 : (prefs wd).map wayOf = frontsOf wd := by unfold prefs frontsOf; rw [List.map_map]; rfl
    rw [h2] at h1; exact h1
  · rw [List.pairwise_map]; exact ordO_sorted wd
theorem rws_rev (L : List (List Nat)) : (rws L).reverse = rws L.reverse := by unfold rws; rw [List.map_reverse]
theorem txs_rev (L : List (List Nat)) : (txs L).reverse = txs L.reverse := by unfold txs; rw [List.map_reverse]

section
variable {prog : Program} {w : World} {A : Around} {F : List Addr} {B : Heap} {S₁ : List Addr} {h h₀ : Heap} {env : Env} {ad : Nat → Addr} {own : List (Addr × Ow)} {ρ : List (Str × Pd)} {s₀ s : Shared} {D : Addr} {ds : List PyData}

theorem z_inT {x : List Nat} {xs : List (List Nat)} {a b : Value} (hu : A.units ≤ 6000) (hx : asc x) (hxs : ∀ a ∈ xs, asc a) (pa : (pstr (S x)) a (fz S₁ h)) (pb : (plist (txs xs)) b (fz S₁ h)) : Do prog w A F B S₁ h (compareOp .In a b) (pbool (decide (x ∈ xs))).p :=
  (z_in (f := fun l : List Nat => PyData.str (S l)) emb_str (by omega) hu hx hxs pa pb).mono fun v g q => by
    have e : ∀ (i1 i2 : Decidable (x ∈ xs)), @decide _ i1 = @decide _ i2 := fun i1 i2 => by cases i1 <;> cases i2 <;> first | rfl | contradiction
    rw [e _ (inferInstance)] at q
    exact q
theorem z_notinT {x : List Nat} {xs : List (List Nat)} {a b : Value} (hu : A.units ≤ 6000) (hx : asc x) (hxs : ∀ a ∈ xs, asc a) (pa : (pstr (S x)) a (fz S₁ h)) (pb : (plist (txs xs)) b (fz S₁ h)) : Do prog w A F B S₁ h (compareOp .NotIn a b) (pbool (decide (x ∉ xs))).p :=
  (z_notin (f := fun l : List Nat => PyData.str (S l)) emb_str (by omega) hu hx hxs pa pb).mono fun v g q => by
    have e : ∀ (i1 i2 : Decidable (x ∉ xs)), @decide _ i1 = @decide _ i2 := fun i1 i2 => by cases i1 <;> cases i2 <;> first | rfl | contradiction
    rw [e _ (inferInstance)] at q
    exact q

theorem law_c (W : Wd B ad) {n : Nat} (rm : Rm A (n + 12)) {name qual : Str} {kV doc pm ct cd : Value} {an : Option Addr} {L a : Addr} {wd : List Nat} (hl8 : wd.length = 8)
    (hs : ∀ c ∈ wd, sgn c) (K : LawOk wd) {R : List (List Nat)} (hR : IsRising wd R)
    (henv : env = callEnvC (fdOf 34 name qual .none kV doc pm ct cd an) L a) {Q : Flow → Shared → Prop} {E : Value → Shared → Prop}
    (I : St A F B h₀ S₁ env own [("rising", plist (txs R)), ("wholes", plist (txs (wholesOf wd))), ("ways", plist (txs ((kE wd).map wayOf))), ("ends", ptab prog w (tabOf id wd)), ("held", ptab prog w (tabOf wayOf wd)), ("fronts", plist (txs (frontsOf wd))), ("word", pstr (S wd))] s₀ s)
    (k : ∀ s', St A F B h₀ S₁ env own [("kinds", plist (rws ((wholesOf wd).map (Mine.en wd)))), ("tops", plist (txs ((wholesOf wd).map wayOf))), ("meets", plist (txs ((meetO wd).map wayOf))), ("rows", plist (rws (R.map (Mine.en wd)))), ("wholes", plist (txs (wholesOf wd))), ("ways", plist (txs ((kE wd).map wayOf))), ("ends", ptab prog w (tabOf id wd)), ("held", ptab prog w (tabOf wayOf wd)), ("fronts", plist (txs (frontsOf wd))), ("word", pstr (S wd))] s₀ s' → wpAny (model prog w) A (execs ((fb 34).drop 18) env) Q E s') :
    wpAny (model prog w) A (execs ((fb 34).drop 11) env) Q E s := by
  have en := I.en
  have hsz : sizeLine = 16777216 := rfl
  have hu : A.units ≤ 5000 := by have := rm.un; omega
  have hu6 : A.units ≤ 6000 := by omega
  have hsm := K.small
  subst henv
  revert k
  conv in (fb 34).drop 11 => whnf
  conv in (fb 34).drop 18 => whnf
  intro k
  have klen : ∀ x ∈ kE wd, x.length ≤ 8 := fun x hx => by have := K.lens x hx; omega
  have rin : ∀ x ∈ R, x ∈ kE wd := fun x hx => hR.1.mem_iff.mp hx
  have rlen : R.length < 64 := by rw [hR.1.length_eq]; exact hsm
  have rget : ∀ i, i < R.length → R[i]?.getD [] ∈ kE wd := fun i hi => by rw [List.getElem?_eq_getElem hi]; exact rin _ (List.getElem_mem _)
  have wlen : (wholesOf wd).length < 64 := Nat.lt_of_le_of_lt (List.length_filter_le _ _) hsm
  have wget : ∀ i, i < (wholesOf wd).length → (wholesOf wd)[i]?.getD [] ∈ kE wd := fun i hi => by rw [List.getElem?_eq_getElem hi]; exact wholes_in (List.getElem_mem _)
  have wasc : ∀ x ∈ wholesOf wd, asc x := fun x hx => K.as hs (wholes_in hx)
  -- rows
  refine x_asg_comp (n := R.length) (item := fun i => ione (.str (S (R[i]?.getD [])))) I (fun i => vone "stretch" (.str (S (R[i]?.getD [])))) (fun _ => true) (fun i => .list (nats (Mine.en wd (R[i]?.getD [])))) (l := rws (R.map (Mine.en wd)))
    (itr_txs rm.hh (ev_v I (x := "rising") rfl)) (fun i hi => asg_one (fun _ => rfl) (fun _ => rfl) (fun _ => rfl)) (fun i S' h' C hi T => do_tests_nil) ?_ (fun i m g g' k q => vone_mono k q) ?_ (by omega) (.inl rfl) fun s2 I2 => ?_
  · intro i S' h' C hi _ T
    rw [← K.heldGet _ (rget i hi)]
    exact ev_subdict (ev_n en.comp (T.free (I.var (x := "held") rfl))) (ev_call1 (ev_g en.comp W.n33) (W.f 33).kp (ev_n en.comp T.one) fun u h' l o q => sp_way W (rm.le (by omega) : Rm A (0 + 1)) (by have := klen _ (rget i hi); omega) q) fun a' i' h' l o q1 q2 => z_get_dict (K.inH (rget i hi)) q1 q2
  · rw [keep_all, range_get (fun x => PyData.list (nats (Mine.en wd x)))]; unfold rws; rw [List.map_map]; rfl
  -- the shortest of each kind
  refine x_if false I2 ?t1 fun s3 I3 => ?_
  case t1 =>
    refine tr_cmp (P1 := plist (rws (dedup (R.map (Mine.en wd))))) (P2 := plist (rws ((R.filter fun x => decide (x.tail ∈ wholesOf wd)).map (Mine.en wd)))) (ev_call1 (P1 := plist (rws (R.map (Mine.en wd)))) (ev_g en W.n2) (W.f 2).kp (ev_v I2 rfl) fun u h' l o q => ?_) ?_ fun x y h' l o q1 q2 => ?_
    · exact sp_dedup (f := fun l : List Nat => PyData.list (nats l)) W (rm.le (by omega) : Rm A (0 + 1)) (emb_int.list) (by omega) (fun z hz d hd => trivial) (by rw [List.length_map]; omega) q
    · refine ev_listcomp (n := R.length) (item := fun i => ione (.str (S (R[i]?.getD [])))) (fun i => vone "stretch" (.str (S (R[i]?.getD [])))) (fun i => decide ((R[i]?.getD []).tail ∈ wholesOf wd)) (fun i => .list (nats (Mine.en wd (R[i]?.getD [])))) (itr_txs rm.hh (ev_v I2 (x := "rising") rfl)) (fun i hi => asg_one (fun _ => rfl) (fun _ => rfl) (fun _ => rfl)) ?_ ?_ (fun i m g g' k q => vone_mono k q) ?_ (by omega)
      · intro i S' h' C hi T
        have hx := rget i hi
        have hxl := klen _ hx
        refine do_tests_one (tr_cmp (P1 := pstr (S (R[i]?.getD []).tail)) (P2 := plist (txs (wholesOf wd))) (ev_substr (l := R[i]?.getD []) (ev_n en.comp T.one) (ev_slice (part_some ev_int) part_none part_none) fun a i' h' l o q1 q2 => ?_) (ev_n en.comp (T.free (I2.var (x := "wholes") rfl))) fun a c h' l o q1 q2 => z_inT hu6 (fun c hc => K.as hs hx c (List.mem_of_mem_tail hc)) wasc q1 q2)
        have := z_slice_str (prog := prog) (w := w) (A := A) (F := F) (B := B) (lo := some 1) (hi := none) q1 q2 (by omega)
        have e : sub (some 1) none (R[i]?.getD []) = (R[i]?.getD []).tail := by unfold sub; simp
        rw [e] at this; exact this
      · intro i S' h' C hi _ T
        exact ev_subdict (ev_n en.comp (T.free (I2.var (x := "ends") rfl))) (ev_n en.comp T.one) fun a' i' h' l o q1 q2 => z_get_dict (rget i hi) q1 q2
      · rw [outs_list R [] (fun x => decide (x.tail ∈ wholesOf wd)) (fun x => .list (nats (Mine.en wd x)))]; unfold rws; rw [List.map_map]; rfl
    · rw [K.d1 R hR] at q1
      refine (z_ne (f := fun l : List (List Nat) => PyData.list (rws l)) (emb_int.list.list) (by omega) (by omega) ?_ ?_ q1 q2).mono fun v g q => ?_
      · intro z hz d hd; trivial
      · intro z hz d hd; trivial
      · rw [decide_eq_false (fun h => h rfl)] at q; exact q
  rw [if_neg (by decide)]
  refine x_nil ?_
  -- the longest
  refine x_if false I3 ?t2 fun s4 I4 => ?_
  case t2 =>
    refine tr_cmp (P1 := plist (rws (dedup (R.map (Mine.en wd)).reverse))) (P2 := plist (rws ((R.reverse.filter fun x => decide (x ∈ wholesOf wd)).map (Mine.en wd)))) (ev_call1 (P1 := plist (rws (R.map (Mine.en wd)).reverse)) (ev_g en W.n2) (W.f 2).kp (ev_sublist (ds := rws (R.map (Mine.en wd))) (ev_v I3 rfl) (ev_slice part_none part_none (part_some ev_neg)) fun a i h' l o q1 q2 => ?_) fun u h' l o q => ?_) ?_ fun x y h' l o q1 q2 => ?_
    · have := z_rev_list (prog := prog) (w := w) (A := A) (F := F) (B := B) q1 q2 (by unfold rws; rw [List.length_map, List.length_map]; omega)
      rw [rws_rev] at this; exact this
    · exact sp_dedup (f := fun l : List Nat => PyData.list (nats l)) W (rm.le (by omega) : Rm A (0 + 1)) (emb_int.list) (by omega) (fun z hz d hd => trivial) (by rw [List.length_reverse, List.length_map]; omega) q
    · refine ev_listcomp (n := R.reverse.length) (item := fun i => ione (.str (S (R.reverse[i]?.getD [])))) (fun i => vone "stretch" (.str (S (R.reverse[i]?.getD [])))) (fun i => decide (R.reverse[i]?.getD [] ∈ wholesOf wd)) (fun i => .list (nats (Mine.en wd (R.reverse[i]?.getD [])))) (itr_txs rm.hh (ev_sublist (ds := txs R) (ev_v I3 (x := "rising") rfl) (ev_slice part_none part_none (part_some ev_neg)) fun a i h' l o q1 q2 => ?_)) (fun i hi => asg_one (fun _ => rfl) (fun _ => rfl) (fun _ => rfl)) ?_ ?_ (fun i m g g' k q => vone_mono k q) ?_ (by rw [List.length_reverse]; omega)
      · have := z_rev_list (prog := prog) (w := w) (A := A) (F := F) (B := B) q1 q2 (by unfold txs; rw [List.length_map]; omega)
        rw [txs_rev] at this; exact this
      · intro i S' h' C hi T
        have hx : R.reverse[i]?.getD [] ∈ kE wd := by rw [List.getElem?_eq_getElem hi]; exact rin _ (List.mem_reverse.mp (List.getElem_mem _))
        exact do_tests_one (tr_cmp (P1 := pstr (S (R.reverse[i]?.getD []))) (P2 := plist (txs (wholesOf wd))) (ev_n en.comp T.one) (ev_n en.comp (T.free (I3.var (x := "wholes") rfl))) fun a c h' l o q1 q2 => z_inT hu6 (K.as hs hx) wasc q1 q2)
      · intro i S' h' C hi _ T
        have hx : R.reverse[i]?.getD [] ∈ kE wd := by rw [List.getElem?_eq_getElem hi]; exact rin _ (List.mem_reverse.mp (List.getElem_mem _))
        exact ev_subdict (ev_n en.comp (T.free (I3.var (x := "ends") rfl))) (ev_n en.comp T.one) fun a' i' h' l o q1 q2 => z_get_dict hx q1 q2
      · rw [outs_list R.reverse [] (fun x => decide (x ∈ wholesOf wd)) (fun x => .list (nats (Mine.en wd x)))]; unfold rws; rw [List.map_map]; rfl
    · rw [K.d2 R hR] at q1
      refine (z_ne (f := fun l : List (List Nat) => PyData.list (rws l)) (emb_int.list.list) (by omega) (by omega) ?_ ?_ q1 q2).mono fun v g q => ?_
      · intro z hz d hd; trivial
      · intro z hz d hd; trivial
      · rw [decide_eq_false (fun h => h rfl)] at q; exact q
  rw [if_neg (by decide)]
  refine x_nil ?_
  -- order
  have hol := ordO_len wd
  refine x_assign (plist (txs ((ordO wd).map wayOf))) I4 (ev_call1 (ev_g en W.b_sorted) kp_builtin (ev_v I4 rfl) fun u h' l o q => ?_) (.inr ⟨rfl, _, rfl⟩) fun s5 I5 => ?_
  · have := z_sorted (prog := prog) (w := w) (A := A) (F := F) (B := B) (xs := frontsOf wd) (by unfold frontsOf; rw [List.length_map, List.length_range]; omega) q
    rw [ord_eq] at this; exact this
  -- meets
  have oget : ∀ i, i < (ordO wd).length → ∃ x, (ordO wd)[i]? = some x ∧ (∀ c ∈ x, sgn c) ∧ x.length ≤ 1000 := fun i hi => by
    have hm := List.getElem_mem hi
    obtain ⟨j, e⟩ := ordO_in hm
    refine ⟨_, List.getElem?_eq_getElem hi, fun c hc => hs c ?_, ?_⟩
    · rw [e] at hc; exact List.mem_of_mem_take hc
    · rw [e, List.length_take]; omega
  refine x_asg_comp (n := (ordO wd).length - 1) (item := fun j => ione (.int (j : Int))) I5 (fun j => vone "k" (.int (j : Int))) (fun _ => true) (fun k => .str (S (wayOf (lcs ((ordO wd)[k]?.getD []) ((ordO wd)[k + 1]?.getD []))))) (l := txs ((meetO wd).map wayOf))
    (ints_range (y := "k") (n := (ordO wd).length - 1) rm.hh (ev_range1 (ev_g en W.t_range) (ev_bin (P1 := pint (((ordO wd).map wayOf).length : Int)) (P2 := pint 1) (P := pint (((ordO wd).length - 1 : Nat) : Int)) (ev_call1 (ev_g en W.b_len) kp_builtin (ev_v I5 (x := "order") rfl) fun u h' l o q => ?_) ev_int fun a b h' l o q1 q2 => ?_)) (by omega))
    (fun i hi => asg_one (fun _ => rfl) (fun _ => rfl) (fun _ => rfl)) (fun i S' h' C hi T => do_tests_nil) ?_ (fun i m g g' k q => vone_mono k q) ?_ (by omega) (.inl rfl) fun s6 I6 => ?_
  · have := z_len_list (prog := prog) (w := w) (A := A) (F := F) (B := B) q (by unfold txs; rw [List.length_map, List.length_map]; omega)
    unfold txs at this
    rw [List.length_map] at this; exact this
  · have e : (((ordO wd).map wayOf).length : Int) - 1 = (((ordO wd).length - 1 : Nat) : Int) := by rw [List.length_map]; omega
    rw [← e]; exact z_sub q1 q2
  · intro i S' h' C hi _ T
    obtain ⟨x, ex, hx, hlx⟩ := oget i (by omega)
    obtain ⟨y, ey, hy, hly⟩ := oget (i + 1) (by omega)
    rw [ex, ey]
    refine ev_call1 (P1 := plist (txs [wayOf x, wayOf y])) (ev_g en.comp W.n26) (W.f 26).kp (ev_sublist (ds := txs ((ordO wd).map wayOf)) (ev_n en.comp (T.free (I5.var (x := "order") rfl))) (ev_slice (part_some (ev_n en.comp T.one)) (part_some (i := ((i + 2 : Nat) : Int)) (ev_bin (P1 := pint (i : Int)) (P2 := pint 2) (ev_n en.comp T.one) ev_int fun a b h' l o q1 q2 => z_add q1 q2)) part_none) fun a i' h' l o q1 q2 => ?_) fun u h' l o q => sp_common W (rm.le (by omega) : Rm A (0 + 8)) hx hy hlx hly q
    have := z_slice_list (prog := prog) (w := w) (A := A) (F := F) (B := B) (lo := some i) (hi := some (i + 2)) q1 q2 (by unfold txs; rw [List.length_map, List.length_map]; omega)
    have e : sub (some i) (some (i + 2)) (txs ((ordO wd).map wayOf)) = txs [wayOf x, wayOf y] := by
      unfold sub txs
      simp only [Option.getD_some]
      rw [← List.map_take, ← List.map_take, ← List.map_drop, ← List.map_drop]
      have : ((ordO wd).take (i + 2)).drop i = [x, y] := by
        rw [show i + 2 = i + 1 + 1 from rfl, List.take_add_one, List.take_add_one, ex, ey, List.append_assoc, List.drop_append, List.drop_of_length_le (by rw [List.length_take]; omega)]
        have : i - ((ordO wd).take i).length = 0 := by rw [List.length_take]; omega
        rw [this]; rfl
      rw [this]; rfl
    rw [e] at this; exact this
  · rw [keep_all]; unfold txs meetO; rw [List.map_map, List.map_map]; rfl
  -- tops
  refine x_asg_comp (n := (wholesOf wd).length) (item := fun i => ione (.str (S ((wholesOf wd)[i]?.getD [])))) I6 (fun i => vone "stretch" (.str (S ((wholesOf wd)[i]?.getD [])))) (fun _ => true) (fun i => .str (S (wayOf ((wholesOf wd)[i]?.getD [])))) (l := txs ((wholesOf wd).map wayOf))
    (itr_txs rm.hh (ev_v I6 (x := "wholes") rfl)) (fun i hi => asg_one (fun _ => rfl) (fun _ => rfl) (fun _ => rfl)) (fun i S' h' C hi T => do_tests_nil) ?_ (fun i m g g' k q => vone_mono k q) ?_ (by omega) (.inl rfl) fun s7 I7 => ?_
  · intro i S' h' C hi _ T
    exact ev_call1 (ev_g en.comp W.n33) (W.f 33).kp (ev_n en.comp T.one) fun u h' l o q => sp_way W (rm.le (by omega) : Rm A (0 + 1)) (by have := klen _ (wget i hi); omega) q
  · rw [keep_all, range_get (fun x => PyData.str (S (wayOf x)))]; unfold txs; rw [List.map_map]; rfl
  -- kinds
  refine x_asg_comp (n := (wholesOf wd).length) (item := fun i => ione (.str (S ((wholesOf wd)[i]?.getD [])))) I7 (fun i => vone "stretch" (.str (S ((wholesOf wd)[i]?.getD [])))) (fun _ => true) (fun i => .list (nats (Mine.en wd ((wholesOf wd)[i]?.getD [])))) (l := rws ((wholesOf wd).map (Mine.en wd)))
    (itr_txs rm.hh (ev_v I7 (x := "wholes") rfl)) (fun i hi => asg_one (fun _ => rfl) (fun _ => rfl) (fun _ => rfl)) (fun i S' h' C hi T => do_tests_nil) ?_ (fun i m g g' k q => vone_mono k q) ?_ (by omega) (.inl rfl) fun s8 I8 => ?_
  · intro i S' h' C hi _ T
    exact ev_subdict (ev_n en.comp (T.free (I7.var (x := "ends") rfl))) (ev_n en.comp T.one) fun a' i' h' l o q1 q2 => z_get_dict (wget i hi) q1 q2
  · rw [keep_all, range_get (fun x => PyData.list (nats (Mine.en wd x)))]; unfold rws; rw [List.map_map]; rfl
  exact k s8 (I8.sub ⟨rfl, rfl, rfl, rfl, rfl, rfl, rfl, rfl, rfl, rfl, trivial⟩)
end
end Mine

/-! ### Fn21 -/
namespace Mine
open PySem PySem.W PySem.Calls PyProof.Rows PySem.SeqAt

def Pr.pr : Pr → PyData × PyData
  | .t x y => (.list (txs x), .list (txs y))
  | .r x y => (.list (rws x), .list (rws y))
  | .n x y => (.list (nats x), .list (nats y))
def Pr.dat (p : Pr) : PyData := .tuple [p.pr.1, p.pr.2]
def bls (l : List Bool) : List PyData := l.map PyData.bool
theorem dec_any {p : Prop} (i1 i2 : Decidable p) : @decide p i1 = @decide p i2 := by cases i1 <;> cases i2 <;> first | rfl | contradiction
theorem frontsOf_len (wd : List Nat) : (frontsOf wd).length = wd.length + 1 := by unfold frontsOf; simp
theorem meetO_len (wd : List Nat) : (meetO wd).length = wd.length := by unfold meetO; rw [List.length_map, List.length_range, ordO_len]; rfl

section
variable {prog : Program} {w : World} {A : Around} {F : List Addr} {B : Heap} {S₁ : List Addr} {h h₀ : Heap} {env : Env} {ad : Nat → Addr} {own : List (Addr × Ow)} {ρ : List (Str × Pd)} {s₀ s : Shared} {D : Addr} {ds : List PyData}

theorem z_cattxs {x y : List (List Nat)} {a b : Value} (pa : (plist (txs x)) a (fz S₁ h)) (pb : (plist (txs y)) b (fz S₁ h)) (hsz : x.length + y.length ≤ sizeLine) : Do prog w A F B S₁ h (binaryOp .Add a b) (plist (txs (x ++ y))).p := by
  have e : txs (x ++ y) = txs x ++ txs y := by unfold txs; rw [List.map_append]
  rw [e]
  exact z_addlist pa pb (by unfold txs; rw [List.length_map, List.length_map]; exact hsz)

theorem law_d (W : Wd B ad) {n : Nat} (rm : Rm A (n + 12)) {name qual : Str} {kV doc pm ct cd : Value} {an : Option Addr} {L a : Addr} {wd : List Nat} (hl8 : wd.length = 8)
    (hs : ∀ c ∈ wd, sgn c) (K : LawOk wd) {R : List (List Nat)} (hR : IsRising wd R)
    (henv : env = callEnvC (fdOf 34 name qual .none kV doc pm ct cd an) L a) {Q : Flow → Shared → Prop} {E : Value → Shared → Prop}
    (I : St A F B h₀ S₁ env own [("kinds", plist (rws ((wholesOf wd).map (Mine.en wd)))), ("tops", plist (txs ((wholesOf wd).map wayOf))), ("meets", plist (txs ((meetO wd).map wayOf))), ("rows", plist (rws (R.map (Mine.en wd)))), ("wholes", plist (txs (wholesOf wd))), ("ways", plist (txs ((kE wd).map wayOf))), ("ends", ptab prog w (tabOf id wd)), ("held", ptab prog w (tabOf wayOf wd)), ("fronts", plist (txs (frontsOf wd))), ("word", pstr (S wd))] s₀ s)
    (k : ∀ D s', (D == sysModules) = false → St A F B h₀ S₁ env ((D, owl ((pairs0 wd R).map Pr.dat)) :: own) [("due", plist (bls (dueB wd))), ("pairs", isv (.ref D)), ("ways", plist (txs ((kE wd).map wayOf))), ("held", ptab prog w (tabOf wayOf wd))] s₀ s' → wpAny (model prog w) A (execs ((fb 34).drop 22) env) Q E s') :
    wpAny (model prog w) A (execs ((fb 34).drop 18) env) Q E s := by
  have en := I.en
  have hsz : sizeLine = 16777216 := rfl
  have hu : A.units ≤ 5000 := by have := rm.un; omega
  have hu6 : A.units ≤ 6000 := by omega
  have hsm := K.small
  subst henv
  revert k
  conv in (fb 34).drop 18 => whnf
  conv in (fb 34).drop 22 => whnf
  intro k
  have klen : ∀ x ∈ kE wd, x.length ≤ 8 := fun x hx => by have := K.lens x hx; omega
  have kget : ∀ i, i < (kE wd).length → (kE wd)[i]?.getD [] ∈ kE wd := fun i hi => by rw [List.getElem?_eq_getElem hi]; exact List.getElem_mem _
  have wlen : (wholesOf wd).length < 64 := Nat.lt_of_le_of_lt (List.length_filter_le _ _) hsm
  have wget : ∀ i, i < (wholesOf wd).length → (wholesOf wd)[i]?.getD [] ∈ kE wd := fun i hi => by rw [List.getElem?_eq_getElem hi]; exact wholes_in (List.getElem_mem _)
  have wasc : ∀ x ∈ wholesOf wd, asc x := fun x hx => K.as hs (wholes_in hx)
  have hfl := frontsOf_len wd
  have hml := meetO_len wd
  -- pairs
  refine x_own (ow := owl ((pairs0 wd R).map Pr.dat)) I (nw_list W.lim (sp_E (d := .tuple [.list (txs (frontsOf wd ++ (meetO wd).map wayOf)), .list (txs ((wholesOf wd).map wayOf))]) ?p1 (sp_E (d := .tuple [.list (rws ((wholesOf wd).map (Mine.en wd))), .list (rws (R.map (Mine.en wd)))]) ?p2 (sp_E (d := .tuple [.list (txs (frontsOf wd)), .list (txs ((wholesOf wd).map wayOf))]) ?p3 (sp_E (d := .tuple [.list (txs (((kE wd).map wayOf).take (wholesOf wd).length)), .list (txs ((wholesOf wd).map wayOf))]) ?p4 sp_dats_nil)))) (by show 4 ≤ sizeLine; decide)) (.inl rfl) fun D s2 hm I2 => ?_
  case p1 =>
    exact ev_tuple (ds := [.list (txs (frontsOf wd ++ (meetO wd).map wayOf)), .list (txs ((wholesOf wd).map wayOf))]) (sp_E (ev_bin (P1 := plist (txs (frontsOf wd))) (P2 := plist (txs ((meetO wd).map wayOf))) (P := plist (txs (frontsOf wd ++ (meetO wd).map wayOf))) (ev_v I (x := "fronts") rfl) (ev_v I (x := "meets") rfl) fun a b h' l o q1 q2 => z_cattxs q1 q2 (by rw [List.length_map]; omega)) (sp_E (ev_v I (x := "tops") (P := plist (txs ((wholesOf wd).map wayOf))) rfl) sp_dats_nil)) (by show 2 ≤ sizeLine; decide)
  case p2 =>
    exact ev_tuple (ds := [.list (rws ((wholesOf wd).map (Mine.en wd))), .list (rws (R.map (Mine.en wd)))]) (sp_E (ev_v I (x := "kinds") (P := plist (rws ((wholesOf wd).map (Mine.en wd)))) rfl) (sp_E (ev_v I (x := "rows") (P := plist (rws (R.map (Mine.en wd)))) rfl) sp_dats_nil)) (by show 2 ≤ sizeLine; decide)
  case p3 =>
    exact ev_tuple (ds := [.list (txs (frontsOf wd)), .list (txs ((wholesOf wd).map wayOf))]) (sp_E (ev_v I (x := "fronts") (P := plist (txs (frontsOf wd))) rfl) (sp_E (ev_v I (x := "tops") (P := plist (txs ((wholesOf wd).map wayOf))) rfl) sp_dats_nil)) (by show 2 ≤ sizeLine; decide)
  case p4 =>
    refine ev_tuple (ds := [.list (txs (((kE wd).map wayOf).take (wholesOf wd).length)), .list (txs ((wholesOf wd).map wayOf))]) (sp_E (ev_sublist (ds := txs ((kE wd).map wayOf)) (P := plist (txs (((kE wd).map wayOf).take (wholesOf wd).length))) (ev_v I (x := "ways") rfl) (ev_slice part_none (part_some (i := (((wholesOf wd).length : Nat) : Int)) (ev_call1 (ev_g en W.b_len) kp_builtin (ev_v I (x := "tops") (P := plist (txs ((wholesOf wd).map wayOf))) rfl) fun u h' l o q => ?_)) part_none) fun a i h' l o q1 q2 => ?_) (sp_E (ev_v I (x := "tops") (P := plist (txs ((wholesOf wd).map wayOf))) rfl) sp_dats_nil)) (by show 2 ≤ sizeLine; decide)
    · have := z_len_list (prog := prog) (w := w) (A := A) (F := F) (B := B) q (by unfold txs; rw [List.length_map, List.length_map]; omega)
      unfold txs at this
      rw [List.length_map, List.length_map] at this; exact this
    · have := z_slice_list (prog := prog) (w := w) (A := A) (F := F) (B := B) (lo := none) (hi := some (wholesOf wd).length) q1 q2 (by unfold txs; rw [List.length_map, List.length_map]; omega)
      have e : sub none (some (wholesOf wd).length) (txs ((kE wd).map wayOf)) = txs (((kE wd).map wayOf).take (wholesOf wd).length) := by unfold sub txs; simp
      rw [e] at this; exact this
  -- fits
  refine x_assign (pbool (fitsB wd)) I2 (ev_cmp (P1 := plist (txs ((wholesOf wd).filter fun x => decide (wd.take x.length ≠ x)))) (P2 := plist (txs [])) (ev_listcomp (n := (wholesOf wd).length) (item := fun i => ione (.str (S ((wholesOf wd)[i]?.getD [])))) (fun i => vone "stretch" (.str (S ((wholesOf wd)[i]?.getD [])))) (fun i => decide (wd.take ((wholesOf wd)[i]?.getD []).length ≠ (wholesOf wd)[i]?.getD [])) (fun i => .str (S ((wholesOf wd)[i]?.getD []))) (itr_txs rm.hh (ev_v I2 (x := "wholes") rfl)) (fun i hi => asg_one (fun _ => rfl) (fun _ => rfl) (fun _ => rfl)) ?f1 (fun i S' h' C hi _ T => ev_n en.comp T.one) (fun i m g g' k q => vone_mono k q) ?f2 (by omega)) (ev_list sp_dats_nil (by simp)) fun x y h' l o q1 q2 => ?f3) (.inl rfl) fun s3 I3 => ?_
  case f1 =>
    intro i S' h' C hi T
    have hx := wget i hi
    have hxl := klen _ hx
    refine do_tests_one (tr_cmp (P1 := pstr (S (wd.take ((wholesOf wd)[i]?.getD []).length))) (P2 := pstr (S ((wholesOf wd)[i]?.getD []))) (ev_substr (l := wd) (ev_n en.comp (T.free (I2.var (x := "word") rfl))) (ev_slice part_none (part_some (ev_call1 (ev_g en.comp W.b_len) kp_builtin (ev_n en.comp T.one) fun u h' l o q => z_len_str q (by omega))) part_none) fun a i' h' l o q1 q2 => ?_) (ev_n en.comp T.one) fun a c h' l o q1 q2 => z_ne emb_str (by omega) hu6 (fun c hc => (hs c (List.mem_of_mem_take hc)).2.2) (K.as hs hx) q1 q2)
    have := z_slice_str (prog := prog) (w := w) (A := A) (F := F) (B := B) (lo := none) (hi := some ((wholesOf wd)[i]?.getD []).length) q1 q2 (by omega)
    have e : sub none (some ((wholesOf wd)[i]?.getD []).length) wd = wd.take ((wholesOf wd)[i]?.getD []).length := by unfold sub; simp
    rw [e] at this; exact this
  case f2 =>
    rw [outs_list (wholesOf wd) [] (fun x => decide (wd.take x.length ≠ x)) (fun x => .str (S x))]
  case f3 =>
    refine (z_eq (f := fun l : List (List Nat) => PyData.list (txs l)) (emb_str.list) (by omega) hu6 ?_ (fun z hz => by cases hz) q1 q2).mono fun v g q => ?_
    · exact fun z hz => wasc z (List.mem_filter.mp hz).1
    · unfold fitsB; rw [dec_any _ (inferInstance)] at q; rw [dec_any _ (inferInstance)]; exact q
  -- early
  refine x_assign (pbool (earlyB wd)) I3 (ev_cmp (P1 := plist (txs (((kE wd).take (wholesOf wd).length).filter fun x => decide (x ∉ wholesOf wd)))) (P2 := plist (txs [])) (ev_listcomp (n := ((kE wd).take (wholesOf wd).length).length) (item := fun i => ione (.str (S (((kE wd).take (wholesOf wd).length)[i]?.getD [])))) (fun i => vone "stretch" (.str (S (((kE wd).take (wholesOf wd).length)[i]?.getD [])))) (fun i => decide (((kE wd).take (wholesOf wd).length)[i]?.getD [] ∉ wholesOf wd)) (fun i => .str (S (((kE wd).take (wholesOf wd).length)[i]?.getD []))) (itr_txs rm.hh (ev_sublist (ds := txs (kE wd)) (ev_call1 (ev_g en W.t_list) kp_type (ev_v I3 (x := "ends") rfl) fun u h' l o q => z_list_dict rm.hh (by unfold kE keys at hsm; rw [List.length_map] at hsm; omega) q) (ev_slice part_none (part_some (i := (((wholesOf wd).length : Nat) : Int)) (ev_call1 (ev_g en W.b_len) kp_builtin (ev_v I3 (x := "tops") (P := plist (txs ((wholesOf wd).map wayOf))) rfl) fun u h' l o q => ?e0)) part_none) fun a i h' l o q1 q2 => ?e4)) (fun i hi => asg_one (fun _ => rfl) (fun _ => rfl) (fun _ => rfl)) ?e1 (fun i S' h' C hi _ T => ev_n en.comp T.one) (fun i m g g' k q => vone_mono k q) ?e2 (by rw [List.length_take]; omega)) (ev_list sp_dats_nil (by simp)) fun x y h' l o q1 q2 => ?e3) (.inl rfl) fun s4 I4 => ?_
  case e0 =>
    have := z_len_list (prog := prog) (w := w) (A := A) (F := F) (B := B) q (by unfold txs; rw [List.length_map, List.length_map]; omega)
    unfold txs at this
    rw [List.length_map, List.length_map] at this; exact this
  case e4 =>
    have := z_slice_list (prog := prog) (w := w) (A := A) (F := F) (B := B) (lo := none) (hi := some (wholesOf wd).length) q1 q2 (by unfold txs; rw [List.length_map]; omega)
    have e : sub none (some (wholesOf wd).length) (txs (kE wd)) = txs ((kE wd).take (wholesOf wd).length) := by unfold sub txs; simp
    rw [e] at this; exact this
  case e1 =>
    intro i S' h' C hi T
    have hx : ((kE wd).take (wholesOf wd).length)[i]?.getD [] ∈ kE wd := by rw [List.getElem?_eq_getElem hi]; exact List.mem_of_mem_take (List.getElem_mem _)
    exact do_tests_one (tr_cmp (P1 := pstr (S (((kE wd).take (wholesOf wd).length)[i]?.getD []))) (P2 := plist (txs (wholesOf wd))) (ev_n en.comp T.one) (ev_n en.comp (T.free (I3.var (x := "wholes") rfl))) fun a c h' l o q1 q2 => z_notinT hu6 (K.as hs hx) wasc q1 q2)
  case e2 =>
    rw [outs_list ((kE wd).take (wholesOf wd).length) [] (fun x => decide (x ∉ wholesOf wd)) (fun x => .str (S x))]
  case e3 =>
    refine (z_eq (f := fun l : List (List Nat) => PyData.list (txs l)) (emb_str.list) (by omega) hu6 ?_ (fun z hz => by cases hz) q1 q2).mono fun v g q => ?_
    · exact fun z hz => K.as hs (List.mem_of_mem_take (List.mem_filter.mp hz).1)
    · unfold earlyB; rw [dec_any _ (inferInstance)] at q; rw [dec_any _ (inferInstance)]; exact q
  -- due
  refine x_assign (plist (bls (dueB wd))) I4 (ev_bin (P1 := plist (bls [true, true, fitsB wd, earlyB wd])) (P2 := plist (bls ((kE wd).tail.map fun x => decide (x.tail ∉ wholesOf wd)))) (ev_list (ds := bls [true, true, fitsB wd, earlyB wd]) (sp_E (d := .bool true) (ev_true (k := 0) (pos := ⟨239, 11, 239, 15⟩)) (sp_E (d := .bool true) (ev_true (k := 0) (pos := ⟨239, 17, 239, 21⟩)) (sp_E (d := .bool (fitsB wd)) (ev_v I4 (x := "fits") rfl) (sp_E (d := .bool (earlyB wd)) (ev_v I4 (x := "early") rfl) sp_dats_nil)))) (by show 4 ≤ sizeLine; decide))
    (ev_listcomp (n := (kE wd).tail.length) (item := fun i => ione (.str (S ((kE wd).tail[i]?.getD [])))) (fun i => vone "stretch" (.str (S ((kE wd).tail[i]?.getD [])))) (fun _ => true) (fun i => .bool (decide (((kE wd).tail[i]?.getD []).tail ∉ wholesOf wd))) (itr_txs rm.hh (ev_sublist (ds := txs (kE wd)) (ev_call1 (ev_g en W.t_list) kp_type (ev_v I4 (x := "ends") rfl) fun u h' l o q => z_list_dict rm.hh (by unfold kE keys at hsm; rw [List.length_map] at hsm; omega) q) (ev_slice (part_some ev_int) part_none part_none) fun a i h' l o q1 q2 => ?d1)) (fun i hi => asg_one (fun _ => rfl) (fun _ => rfl) (fun _ => rfl)) (fun i S' h' C hi T => do_tests_nil) ?d2 (fun i m g g' k q => vone_mono k q) ?d3 (by rw [List.length_tail]; omega)) fun a b h' l o q1 q2 => ?d4) (.inl rfl) fun s5 I5 => ?_
  case d1 =>
    have := z_slice_list (prog := prog) (w := w) (A := A) (F := F) (B := B) (lo := some 1) (hi := none) q1 q2 (by unfold txs; rw [List.length_map]; omega)
    have e : sub (some 1) none (txs (kE wd)) = txs (kE wd).tail := by
      unfold sub txs
      simp only [Option.getD_none, Option.getD_some]
      rw [List.take_of_length_le (Nat.le_refl _), List.drop_one, List.map_tail]
    rw [e] at this; exact this
  case d2 =>
    intro i S' h' C hi _ T
    have hx : (kE wd).tail[i]?.getD [] ∈ kE wd := by rw [List.getElem?_eq_getElem hi]; exact List.mem_of_mem_tail (List.getElem_mem _)
    have hxl := klen _ hx
    refine ev_cmp (P1 := pstr (S ((kE wd).tail[i]?.getD []).tail)) (P2 := plist (txs (wholesOf wd))) (ev_substr (l := (kE wd).tail[i]?.getD []) (ev_n en.comp T.one) (ev_slice (part_some ev_int) part_none part_none) fun a i' h' l o q1 q2 => ?_) (ev_n en.comp (T.free (I4.var (x := "wholes") rfl))) fun a c h' l o q1 q2 => z_notinT hu6 (fun c hc => K.as hs hx c (List.mem_of_mem_tail hc)) wasc q1 q2
    have := z_slice_str (prog := prog) (w := w) (A := A) (F := F) (B := B) (lo := some 1) (hi := none) q1 q2 (by omega)
    have e : sub (some 1) none ((kE wd).tail[i]?.getD []) = ((kE wd).tail[i]?.getD []).tail := by unfold sub; simp
    rw [e] at this; exact this
  case d3 =>
    rw [keep_all, range_get (fun x : List Nat => PyData.bool (decide (x.tail ∉ wholesOf wd)))]; unfold bls; rw [List.map_map]; rfl
  case d4 =>
    have e : bls (dueB wd) = bls [true, true, fitsB wd, earlyB wd] ++ bls ((kE wd).tail.map fun x => decide (x.tail ∉ wholesOf wd)) := by unfold bls dueB; rw [List.map_append]
    rw [e]
    exact z_addlist q1 q2 (by unfold bls; rw [List.length_map, List.length_map, List.length_map, List.length_tail]; show 4 + _ ≤ _; omega)
  exact k D s5 hm (I5.sub ⟨rfl, rfl, rfl, rfl, trivial⟩)
end
end Mine

/-! ### Fn22 -/
namespace Mine
open PySem PySem.W PySem.Calls PyProof.Rows PySem.SeqAt

theorem asc_take {wd : List Nat} (hs : ∀ c ∈ wd, sgn c) (j : Nat) : ∀ c ∈ wd.take j, sgn c := fun c hc => hs c (List.mem_of_mem_take hc)
def Pr.ok : Pr → Prop
  | .t x y => (∀ a ∈ x, asc a) ∧ (∀ a ∈ y, asc a) ∧ x.length ≤ 100000 ∧ y.length ≤ 100000
  | .r x y => x.length ≤ 100000 ∧ y.length ≤ 100000
  | .n x y => x.length ≤ 100000 ∧ y.length ≤ 100000
theorem ok_turn {wd : List Nat} (K : LawOk wd) (k : Nat) (x : List Nat) : (turnP wd k x).ok := by
  have h1 := K.rowLen x
  have h2 := K.rowLen x.tail
  unfold turnP
  split
  · exact ⟨by omega, by omega⟩
  · exact ⟨by omega, by omega⟩
theorem turns_succ {wd : List Nat} {i : Nat} {x : List Nat} (hx : (kE wd).tail[i]? = some x) : turnsP wd (i + 1) = turnsP wd i ++ [turnP wd i x] := by
  unfold turnsP
  rw [List.range_succ, List.map_append, List.map_singleton, hx]; rfl
theorem lcs_sgn {x y : List Nat} (h : ∀ c ∈ x, sgn c) : ∀ c ∈ lcs x y, sgn c := fun c hc => h c ((lcs_suffix_left x y).subset hc)
theorem ok_pairs {wd : List Nat} (hl8 : wd.length = 8) (hs : ∀ c ∈ wd, sgn c) (K : LawOk wd) {R : List (List Nat)} (hR : IsRising wd R) : ∀ p ∈ pairsP wd R, p.ok := by
  have hsm := K.small
  have wlen : (wholesOf wd).length < 64 := Nat.lt_of_le_of_lt (List.length_filter_le _ _) hsm
  have rlen : R.length < 64 := by rw [hR.1.length_eq]; exact hsm
  have fa : ∀ a ∈ frontsOf wd, asc a := fun a ha => by
    obtain ⟨j, _, rfl⟩ := List.mem_map.mp ha
    exact asc_way (asc_take hs j)
  have ta : ∀ a ∈ (wholesOf wd).map wayOf, asc a := fun a ha => by
    obtain ⟨x, hx, rfl⟩ := List.mem_map.mp ha
    exact asc_way (K.sg hs (wholes_in hx))
  have ma : ∀ a ∈ (meetO wd).map wayOf, asc a := fun a ha => by
    obtain ⟨x, hx, rfl⟩ := List.mem_map.mp ha
    obtain ⟨k, hk, rfl⟩ := List.mem_map.mp hx
    rw [List.mem_range] at hk
    refine asc_way (lcs_sgn ?_)
    have hol := ordO_len wd
    have hm := List.getElem_mem (l := ordO wd) (n := k) (by omega)
    obtain ⟨j, e⟩ := ordO_in hm
    rw [List.getElem?_eq_getElem (by omega), Option.getD_some, e]
    exact asc_take hs j
  have hfl := frontsOf_len wd
  have hml := meetO_len wd
  intro p hp
  rcases List.mem_append.mp hp with hp | hp
  · simp only [pairs0, List.mem_cons, List.not_mem_nil, or_false] at hp
    rcases hp with rfl | rfl | rfl | rfl
    · refine ⟨fun a ha => ?_, ta, ?_, ?_⟩
      · rcases List.mem_append.mp ha with h | h
        · exact fa a h
        · exact ma a h
      · rw [List.length_append, List.length_map]; omega
      · rw [List.length_map]; omega
    · exact ⟨by rw [List.length_map]; omega, by rw [List.length_map]; omega⟩
    · exact ⟨fa, ta, by omega, by rw [List.length_map]; omega⟩
    · refine ⟨fun a ha => ?_, ta, ?_, ?_⟩
      · obtain ⟨x, hx, rfl⟩ := List.mem_map.mp (List.mem_of_mem_take ha)
        exact asc_way (K.sg hs hx)
      · rw [List.length_take]; omega
      · rw [List.length_map]; omega
  · obtain ⟨i, hi, rfl⟩ := List.mem_map.mp hp
    exact ok_turn K i _

section
variable {prog : Program} {w : World} {A : Around} {F : List Addr} {B : Heap} {S₁ : List Addr} {h h₀ : Heap} {env : Env} {ad : Nat → Addr} {own : List (Addr × Ow)} {ρ : List (Str × Pd)} {s₀ s : Shared} {D : Addr} {ds : List PyData}

theorem St.freezeD (I : St A F B h₀ S₁ env ((D, owl ds) :: own) ρ s₀ s) : St A F B h₀ S₁ env own ρ s₀ s ∧ (plist ds) (.ref D) (fz (SS env own S₁) s.heap) := by
  have hF : ∀ a ∈ F, a ∈ SS env own S₁ := fun a ha => by
    have hD : a ≠ D := fun q => I.nF D (List.mem_append_right _ (.head _)) (q ▸ ha)
    rcases List.mem_append.mp (I.ok.fs a ha) with m | m
    · refine List.mem_append_left _ ?_
      rcases List.mem_cons.mp m with rfl | m
      · exact .head _
      · rcases List.mem_append.mp m with m | m
        · exact .tail _ (List.mem_append_left _ m)
        · rcases List.mem_cons.mp m with q | m
          · exact absurd q hD
          · exact .tail _ (List.mem_append_right _ m)
    · exact List.mem_append_right _ m
  obtain ⟨J, o, e, ⟨vs, n, rfl, hall⟩, _⟩ := I.freeze hF
  exact ⟨J, plist_in e rfl rfl hall⟩
theorem ev_frozen {e : Expr} {v : Value} {P : Pd} (p : P v (fz S₁ h)) (x : Ev prog w A F B S₁ h env e (isv v)) (hF : ∀ a ∈ F, a ∈ S₁) : Ev prog w A F B S₁ h env e P := fun s Q E o l k =>
  x s Q E o l fun a s' g q => k a s' g (by
    obtain rfl : a = v := q
    exact P.mono (fz_le (l.trans g.le) hF fun _ m => .inl m) p)

theorem sp_cmpP (W : Wd B ad) {k : Nat} (rm : Rm A (k + 3)) {p : Pr} (hp : p.ok) {v u : Value} (p1 : (dat p.pr.1) v (fz S₁ h)) (p2 : (dat p.pr.2) u (fz S₁ h)) : Do prog w A F B S₁ h (call (.ref (ad 3)) [v, u] []) (pbool p.cmp).p := by
  cases p with
  | t x y => exact sp_cmp (f := fun l : List Nat => PyData.str (S l)) W rm emb_str (by omega) hp.1 hp.2.1 hp.2.2.1 hp.2.2.2 p1 p2
  | r x y => exact sp_cmp (f := fun l : List Nat => PyData.list (nats l)) W rm (emb_int.list) (by omega) (fun a ha d hd => trivial) (fun a ha d hd => trivial) hp.1 hp.2 p1 p2
  | n x y => exact sp_cmp (f := fun n : Nat => PyData.int (n : Int)) W rm emb_int (by omega) (fun a ha => trivial) (fun a ha => trivial) hp.1 hp.2 p1 p2

theorem law_e1 (W : Wd B ad) {n : Nat} (rm : Rm A (n + 12)) {name qual : Str} {kV doc pm ct cd : Value} {an : Option Addr} {L a : Addr} {wd : List Nat} (hl8 : wd.length = 8)
    (hs : ∀ c ∈ wd, sgn c) (K : LawOk wd) {R : List (List Nat)} (hR : IsRising wd R)
    (henv : env = callEnvC (fdOf 34 name qual .none kV doc pm ct cd an) L a) {Q : Flow → Shared → Prop} {E : Value → Shared → Prop}
    (I : St A F B h₀ S₁ env ((D, owl ((pairs0 wd R).map Pr.dat)) :: own) [("due", plist (bls (dueB wd))), ("pairs", isv (.ref D)), ("ways", plist (txs ((kE wd).map wayOf))), ("held", ptab prog w (tabOf wayOf wd))] s₀ s)
    (k : ∀ s', St A F B h₀ S₁ env ((D, owl ((pairsP wd R).map Pr.dat)) :: own) [("due", plist (bls (dueB wd))), ("pairs", isv (.ref D))] s₀ s' → wpAny (model prog w) A (execs ((fb 34).drop 23) env) Q E s') :
    wpAny (model prog w) A (execs ((fb 34).drop 22) env) Q E s := by
  have en := I.en
  have hsz : sizeLine = 16777216 := rfl
  have hu : A.units ≤ 5000 := by have := rm.un; omega
  have hu6 : A.units ≤ 6000 := by omega
  have hsm := K.small
  subst henv
  revert k
  conv in (fb 34).drop 22 => whnf
  conv in (fb 34).drop 23 => whnf
  intro k
  have klen : ∀ x ∈ kE wd, x.length ≤ 8 := fun x hx => by have := K.lens x hx; omega
  have ktl : (kE wd).tail.length < 64 := by rw [List.length_tail]; omega
  refine x_for I (itr_enumerate (ds := txs ((kE wd).tail.map wayOf)) rm.hh (ev_g en W.t_enumerate) (ev_sublist (ds := txs ((kE wd).map wayOf)) (ev_v I (x := "ways") rfl) (ev_slice (part_some ev_int) part_none part_none) fun a i h' l o q1 q2 => ?w1))
    (fun i => (D, owl ((pairs0 wd R ++ turnsP wd i).map Pr.dat)) :: own) (fun i => [("due", plist (bls (dueB wd))), ("pairs", isv (.ref D)), ("ways", plist (txs ((kE wd).map wayOf))), ("held", ptab prog w (tabOf wayOf wd))]) (fun i => [("way", dat ((txs ((kE wd).tail.map wayOf))[i]?.getD .none)), ("k", dat (.int (i : Int)))]) (fun _ => True)
    (fun i => rfl) (by unfold turnsP; simp) ⟨rfl, rfl, rfl, rfl, trivial⟩ trivial (fun i v s1 sb hb S₁ Q' E' hi J hv k => asgSt_two rm.hh (.inl rfl) (.inl rfl) J hv k) ?turn fun s5 I5 _ => ?after
  case w1 =>
    have := z_slice_list (prog := prog) (w := w) (A := A) (F := F) (B := B) (lo := some 1) (hi := none) q1 q2 (by unfold txs; rw [List.length_map, List.length_map]; omega)
    have e : sub (some 1) none (txs ((kE wd).map wayOf)) = txs ((kE wd).tail.map wayOf) := by
      unfold sub txs
      simp only [Option.getD_none, Option.getD_some]
      rw [List.take_of_length_le (Nat.le_refl _), List.drop_one, List.map_tail, List.map_tail]
    rw [e] at this; exact this
  case turn =>
    intro i s3 sb3 hb3 S₂ Q2 hi _ hS I3 next esc out
    have hi' : i < (kE wd).tail.length := by unfold txs at hi; rw [List.length_map, List.length_map] at hi; exact hi
    obtain ⟨x, hx⟩ : ∃ x, (kE wd).tail[i]? = some x := ⟨_, List.getElem?_eq_getElem hi'⟩
    have hxE : x ∈ kE wd := List.mem_of_mem_tail (List.mem_of_getElem? hx)
    have ed : (txs ((kE wd).tail.map wayOf))[i]?.getD .none = .str (S (wayOf x)) := by unfold txs; rw [List.getElem?_map, List.getElem?_map, hx]; rfl
    rw [ed] at I3
    refine x_assign (plist [.list (nats (Mine.en wd x)), .list (nats (Mine.en wd x.tail))]) I3 (ev_list (ds := [.list (nats (Mine.en wd x)), .list (nats (Mine.en wd x.tail))]) (sp_E (d := .list (nats (Mine.en wd x))) ?g1 (sp_E (d := .list (nats (Mine.en wd x.tail))) ?g2 sp_dats_nil)) (by show 2 ≤ sizeLine; decide)) (.inl rfl) fun s4 I4 => ?_
    case g1 =>
      rw [← K.heldGet _ hxE]
      exact ev_subdict (ev_v I3 (x := "held") rfl) (ev_v I3 (x := "way") rfl) fun a' i' h' l o q1 q2 => z_get_dict (K.inH hxE) q1 q2
    case g2 =>
      rw [← K.heldGet _ (K.tailIn x hxE)]
      exact ev_subdict (ev_v I3 (x := "held") rfl) (ev_call1 (ev_g en W.n25) (W.f 25).kp (ev_v I3 (x := "way") rfl) fun u h' l o q => sp_dirname W (rm.le (by omega) : Rm A (0 + 3)) (K.sg hs hxE) (by have := klen x hxE; omega) q) fun a' i' h' l o q1 q2 => z_get_dict (K.inH (K.tailIn x hxE)) q1 q2
    have hpl : ((pairs0 wd R ++ turnsP wd i).map Pr.dat).length ≤ sizeLine := by
      rw [List.length_map, List.length_append]
      have : (turnsP wd i).length = i := by unfold turnsP; simp
      have h4 : (pairs0 wd R).length = 4 := rfl
      omega
    have hsucc : (pairs0 wd R ++ turnsP wd (i + 1)).map Pr.dat = (pairs0 wd R ++ turnsP wd i).map Pr.dat ++ [(turnP wd i x).dat] := by
      rw [turns_succ hx, ← List.append_assoc, List.map_append, List.map_singleton]
    have kmod : ∀ (j : Nat) {p1 p2 p3 : Pos} {kk : Nat}, i % 2 = j → Ev prog w A F B (SS (callEnvC (fdOf 34 name qual .none kV doc pm ct cd an) L a) ((D, owl ((pairs0 wd R ++ turnsP wd i).map Pr.dat)) :: own) S₂) s4.heap (callEnvC (fdOf 34 name qual .none kV doc pm ct cd an) L a) (.BinOp (.Name "k" p1) .Mod (.Constant (.int 2) kk p2) p3) (pint (j : Int)) := fun j p1 p2 p3 kk hj => by
      refine ev_bin (P1 := pint (i : Int)) (P2 := pint 2) (ev_v I4 (x := "k") rfl) ev_int fun a b h' l o q1 q2 => ?_
      have e : (j : Int) = (i : Int).fmod 2 := by
        rw [Int.fmod_eq_emod_of_nonneg _ (by omega)]; omega
      rw [e]
      exact z_mod q1 q2 (by decide)
    have fin3 : ∀ s6 ρ6, Sub ρ6 [("due", plist (bls (dueB wd))), ("pairs", isv (.ref D)), ("ways", plist (txs ((kE wd).map wayOf))), ("held", ptab prog w (tabOf wayOf wd))] → St A F B hb3 S₂ (callEnvC (fdOf 34 name qual .none kV doc pm ct cd an) L a) ((D, owl ((pairs0 wd R ++ turnsP wd i).map Pr.dat ++ [(turnP wd i x).dat])) :: own) ρ6 sb3 s6 → Q2 .next s6 := fun s6 ρ6 hρ6 I6 => by
      rw [← hsucc] at I6
      exact (next s6 (I6.sub hρ6) trivial).1
    rcases Nat.mod_two_eq_zero_or_one i with hm | hm
    · have hd : (turnP wd i x).dat = .tuple [.list (nats (Mine.en wd x)), .list (nats (Mine.en wd x.tail))] := by unfold turnP; rw [if_pos hm]; rfl
      refine x_append (d := (turnP wd i x).dat) I4 rfl ?_ hpl fun s6 I6 => x_nil (fin3 s6 _ ⟨rfl, rfl, rfl, rfl, trivial⟩ I6)
      rw [hd]
      exact ev_tuple (ds := [.list (nats (Mine.en wd x)), .list (nats (Mine.en wd x.tail))]) (sp_E (d := .list (nats (Mine.en wd x))) (ev_sublist (ds := [.list (nats (Mine.en wd x)), .list (nats (Mine.en wd x.tail))]) (P2 := pint ((0 : Nat) : Int)) (ev_v I4 (x := "pair") rfl) (kmod 0 hm) fun a' i' h' l o q1 q2 => z_get_list q1 q2 rfl (by show 2 ≤ sizeLine; decide)) (sp_E (d := .list (nats (Mine.en wd x.tail))) (ev_sublist (ds := [.list (nats (Mine.en wd x)), .list (nats (Mine.en wd x.tail))]) (P2 := pint ((1 : Nat) : Int)) (ev_v I4 (x := "pair") rfl) (ev_bin (P1 := pint 1) (P2 := pint ((0 : Nat) : Int)) ev_int (kmod 0 hm) fun a b h' l o q1 q2 => z_sub q1 q2) fun a' i' h' l o q1 q2 => z_get_list q1 q2 rfl (by show 2 ≤ sizeLine; decide)) sp_dats_nil)) (by show 2 ≤ sizeLine; decide)
    · have hd : (turnP wd i x).dat = .tuple [.list (nats (Mine.en wd x.tail)), .list (nats (Mine.en wd x))] := by unfold turnP; rw [if_neg (by omega)]; rfl
      refine x_append (d := (turnP wd i x).dat) I4 rfl ?_ hpl fun s6 I6 => x_nil (fin3 s6 _ ⟨rfl, rfl, rfl, rfl, trivial⟩ I6)
      rw [hd]
      exact ev_tuple (ds := [.list (nats (Mine.en wd x.tail)), .list (nats (Mine.en wd x))]) (sp_E (d := .list (nats (Mine.en wd x.tail))) (ev_sublist (ds := [.list (nats (Mine.en wd x)), .list (nats (Mine.en wd x.tail))]) (P2 := pint ((1 : Nat) : Int)) (ev_v I4 (x := "pair") rfl) (kmod 1 hm) fun a' i' h' l o q1 q2 => z_get_list q1 q2 rfl (by show 2 ≤ sizeLine; decide)) (sp_E (d := .list (nats (Mine.en wd x))) (ev_sublist (ds := [.list (nats (Mine.en wd x)), .list (nats (Mine.en wd x.tail))]) (P2 := pint ((0 : Nat) : Int)) (ev_v I4 (x := "pair") rfl) (ev_bin (P1 := pint 1) (P2 := pint ((1 : Nat) : Int)) ev_int (kmod 1 hm) fun a b h' l o q1 q2 => z_sub q1 q2) fun a' i' h' l o q1 q2 => z_get_list q1 q2 rfl (by show 2 ≤ sizeLine; decide)) sp_dats_nil)) (by show 2 ≤ sizeLine; decide)
  case after =>
    have hlen : (txs ((kE wd).tail.map wayOf)).length = (kE wd).tail.length := by unfold txs; rw [List.length_map, List.length_map]
    rw [hlen] at I5
    exact k s5 (I5.sub ⟨rfl, rfl, trivial⟩)
end
end Mine

/-! ### Fn23 -/
namespace Mine
open PySem PySem.W PySem.Calls PyProof.Rows PySem.SeqAt

section
variable {prog : Program} {w : World} {A : Around} {F : List Addr} {B : Heap} {S₁ : List Addr} {h h₀ : Heap} {env : Env} {ad : Nat → Addr} {own : List (Addr × Ow)} {ρ : List (Str × Pd)} {s₀ s : Shared} {D : Addr} {ds : List PyData}

theorem range_getP (l : List Pr) : ((List.range l.length).map fun i => PyData.bool ((l[i]?.getD (.n [] [])).cmp)) = bls (l.map Pr.cmp) := by
  have : ((List.range l.length).map fun i => PyData.bool ((l[i]?.getD (.n [] [])).cmp)) = l.map fun p => PyData.bool p.cmp := by
    apply List.ext_getElem?
    intro i
    rw [List.getElem?_map, List.getElem?_map]
    by_cases h : i < l.length
    · rw [List.getElem?_range h, List.getElem?_eq_getElem h]
      show some (PyData.bool ((l[i]?.getD (.n [] [])).cmp)) = _
      rw [List.getElem?_eq_getElem h]; rfl
    · rw [List.getElem?_eq_none (by simpa using h), List.getElem?_eq_none (by simpa using h)]; rfl
  rw [this]
  unfold bls; rw [List.map_map]; rfl

theorem law_e2 (W : Wd B ad) {n : Nat} (rm : Rm A (n + 12)) {name qual : Str} {kV doc pm ct cd : Value} {an : Option Addr} {L a : Addr} {due : PyData} {ps : List Pr} (hp : ∀ p ∈ ps, p.ok) (hpl : ps.length ≤ 1000)
    (henv : env = callEnvC (fdOf 34 name qual .none kV doc pm ct cd an) L a) {Q : Flow → Shared → Prop} {E : Value → Shared → Prop}
    (I : St A F B h₀ S₁ env ((D, owl (ps.map Pr.dat)) :: own) [("due", dat due), ("pairs", isv (.ref D))] s₀ s)
    (k : ∀ s', St A F B h₀ S₁ env own [("says", plist (bls (ps.map Pr.cmp))), ("due", dat due)] s₀ s' → wpAny (model prog w) A (execs ((fb 34).drop 24) env) Q E s') :
    wpAny (model prog w) A (execs ((fb 34).drop 23) env) Q E s := by
  have en := I.en
  have hsz : sizeLine = 16777216 := rfl
  subst henv
  revert k
  conv in (fb 34).drop 23 => whnf
  conv in (fb 34).drop 24 => whnf
  intro k
  obtain ⟨I6, fz6⟩ := I.freezeD
  have hdat : ps.map Pr.dat = (ps.map Pr.pr).map fun p => PyData.tuple [p.1, p.2] := by rw [List.map_map]; rfl
  rw [hdat] at fz6
  have hlp : (ps.map Pr.pr).length = ps.length := List.length_map ..
  have get : ∀ i, i < (ps.map Pr.pr).length → ∃ p, p.ok ∧ (ps.map Pr.pr)[i]?.getD (.none, .none) = p.pr ∧ ps[i]?.getD (.n [] []) = p := fun i hi => by
    have hi' : i < ps.length := by rw [← hlp]; exact hi
    refine ⟨ps[i], hp _ (List.getElem_mem hi'), ?_, ?_⟩
    · rw [List.getElem?_map, List.getElem?_eq_getElem hi']; rfl
    · rw [List.getElem?_eq_getElem hi']; rfl
  have hout : outs (fun _ => true) (fun i => PyData.bool ((ps[i]?.getD (.n [] [])).cmp)) (ps.map Pr.pr).length = bls (ps.map Pr.cmp) := by
    rw [keep_all, hlp, range_getP]
  refine x_asg_comp (n := (ps.map Pr.pr).length) (item := fun i v g h'' => g.StaysIn h'' → itwo ((ps.map Pr.pr)[i]?.getD (.none, .none)).1 ((ps.map Pr.pr)[i]?.getD (.none, .none)).2 v g h'') I6
    (fun i => vtwo "one" "two" ((ps.map Pr.pr)[i]?.getD (.none, .none)).1 ((ps.map Pr.pr)[i]?.getD (.none, .none)).2) (fun _ => true) (fun i => .bool ((ps[i]?.getD (.n [] [])).cmp)) (l := bls (ps.map Pr.cmp))
    ?itr ?asg (fun i S' h' C hi T => do_tests_nil) ?elt (fun i m g g' k q => vtwo_mono k q) hout (by rw [hlp]; omega) (.inl rfl) fun s7 I7 => ?_
  case itr =>
    exact itr_pairs rm.hh (ev_frozen fz6 (ev_v I6 (x := "pairs") rfl) I6.ok.fs)
  case asg =>
    intro i hi C v g s m Q E hv hg hC hn kk
    refine asg_two (x := "one") (y := "two") (cenv := fun C => compEnvC _ _ C (callEnvC (fdOf 34 name qual .none kV doc pm ct cd an) L a)) rm.hh (fun _ => rfl) (fun _ => rfl) (fun _ => rfl) (fun _ => rfl) (by decide) C v g s m Q E (hv hg) hg hC hn kk
  case elt =>
    intro i S' h' C hi _ T
    obtain ⟨p, hok, e1, e2⟩ := get i hi
    rw [e1] at T
    rw [e2]
    refine ev_call2 (P1 := dat p.pr.1) (P2 := dat p.pr.2) (ev_g en.comp W.n3) (W.f 3).kp (ev_n en.comp ?v1) (ev_n en.comp ?v2) fun u u' h' l o q q' => sp_cmpP W (rm.le (by omega) : Rm A (0 + 3)) hok q q'
    case v1 => exact T.fst (x := "one") (y := "two")
    case v2 => exact T.snd (x := "one") (y := "two")
  exact k s7 (I7.sub ⟨rfl, rfl, trivial⟩)
end
end Mine

/-! ### Fn24 -/
namespace Mine
open PySem PySem.W PySem.Calls PyProof.Rows PySem.SeqAt

section
variable {prog : Program} {w : World} {A : Around} {F : List Addr} {B : Heap} {S₁ : List Addr} {h h₀ : Heap} {env : Env} {ad : Nat → Addr} {own : List (Addr × Ow)} {ρ : List (Str × Pd)} {s₀ s : Shared} {D : Addr} {ds : List PyData}

theorem law_e3 (W : Wd B ad) {n : Nat} (rm : Rm A (n + 12)) {name qual : Str} {kV doc pm ct cd : Value} {an : Option Addr} {L a : Addr} {bs : List Bool} (hbl : bs.length ≤ 1000)
    (henv : env = callEnvC (fdOf 34 name qual .none kV doc pm ct cd an) L a) {Q : Flow → Shared → Prop} {E : Value → Shared → Prop}
    (I : St A F B h₀ S₁ env own [("says", plist (bls bs)), ("due", plist (bls bs))] s₀ s)
    (k : ∀ s' ρ', St A F B h₀ S₁ env own ρ' s₀ s' → Q (.ret (.bool true)) s') :
    wpAny (model prog w) A (execs ((fb 34).drop 24) env) Q E s := by
  have en := I.en
  have hsz : sizeLine = 16777216 := rfl
  have hu6 : A.units ≤ 6000 := by have := rm.un; omega
  subst henv
  revert k
  conv in (fb 34).drop 24 => whnf
  intro k
  have hln : (bls bs).length = bs.length := by unfold bls; rw [List.length_map]
  have get : ∀ i, i < (bls bs).length → ∃ b, (bls bs)[i]?.getD .none = .bool b ∧ bs[i]?.getD false = b := fun i hi => by
    have hi' : i < bs.length := by rw [← hln]; exact hi
    refine ⟨bs[i], ?_, ?_⟩
    · unfold bls; rw [List.getElem?_map, List.getElem?_eq_getElem hi']; rfl
    · rw [List.getElem?_eq_getElem hi']; rfl
  have hout : outs (fun _ => true) (fun i => PyData.tuple [.bool (bs[i]?.getD false), .bool (!(bs[i]?.getD false))]) (bls bs).length = bs.map fun b => PyData.tuple [.bool b, .bool (!b)] := by
    rw [keep_all, hln, range_get (fun b : Bool => PyData.tuple [.bool b, .bool (!b)])]
  refine x_return (pbool true) I (ev_cmp (P1 := plist (bs.map fun b => PyData.tuple [.bool b, .bool (!b)])) (P2 := plist (bs.map fun b => PyData.tuple [.bool b, .bool (!b)])) ?l1 ?l2 fun x y h' l o q1 q2 => ?a5) fun v s' I' q => ?a6
  case l1 =>
    refine ev_listcomp (n := (bls bs).length) (item := fun i => ione ((bls bs)[i]?.getD .none)) (fun i => vone "say" ((bls bs)[i]?.getD .none)) (fun _ => true) (fun i => .tuple [.bool (bs[i]?.getD false), .bool (!(bs[i]?.getD false))]) ?itr ?asg (fun i S' h' C hi T => do_tests_nil) ?elt (fun i m g g' k q => vone_mono k q) hout (by rw [hln]; omega)
    case itr => exact itr_list (ds := bls bs) rm.hh (ev_v I (x := "says") rfl)
    case asg => exact fun i hi => asg_one (fun _ => rfl) (fun _ => rfl) (fun _ => rfl)
    case elt =>
      intro i S' h' C hi _ T
      obtain ⟨b, e1, e2⟩ := get i hi
      rw [e1] at T
      rw [e2]
      refine ev_tuple (ds := [.bool b, .bool (!b)]) (sp_E (d := .bool b) ?v1 (sp_E (d := .bool (!b)) ?v2 sp_dats_nil)) (by show 2 ≤ sizeLine; decide)
      case v1 =>
        refine ev_cmp (P1 := pbool b) (P2 := pbool true) (ev_n (x := "say") en.comp T.one) ev_true fun a c h' l o q1 q2 => ?_
        refine (z_is_bool q1 q2).mono fun v g q => ?_
        have e : (b == true) = b := by cases b <;> rfl
        rw [e] at q; exact q
      case v2 =>
        refine ev_cmp (P1 := pbool b) (P2 := pbool false) (ev_n (x := "say") en.comp T.one) ev_true fun a c h' l o q1 q2 => ?_
        refine (z_is_bool q1 q2).mono fun v g q => ?_
        have e : (b == false) = !b := by cases b <;> rfl
        rw [e] at q; exact q
  case l2 =>
    refine ev_listcomp (n := (bls bs).length) (item := fun i => ione ((bls bs)[i]?.getD .none)) (fun i => vone "so" ((bls bs)[i]?.getD .none)) (fun _ => true) (fun i => .tuple [.bool (bs[i]?.getD false), .bool (!(bs[i]?.getD false))]) ?itr ?asg (fun i S' h' C hi T => do_tests_nil) ?elt (fun i m g g' k q => vone_mono k q) hout (by rw [hln]; omega)
    case itr => exact itr_list (ds := bls bs) rm.hh (ev_v I (x := "due") rfl)
    case asg => exact fun i hi => asg_one (fun _ => rfl) (fun _ => rfl) (fun _ => rfl)
    case elt =>
      intro i S' h' C hi _ T
      obtain ⟨b, e1, e2⟩ := get i hi
      rw [e1] at T
      rw [e2]
      refine ev_tuple (ds := [.bool b, .bool (!b)]) (sp_E (d := .bool b) ?v1 (sp_E (d := .bool (!b)) ?v2 sp_dats_nil)) (by show 2 ≤ sizeLine; decide)
      case v1 => exact ev_n (x := "so") en.comp T.one
      case v2 => exact ev_not (P1 := pbool b) (ev_n (x := "so") en.comp T.one) fun a h' l o q => z_not (t_bool q)
  case a5 =>
    have e : (bs.map fun b => PyData.tuple [.bool b, .bool (!b)]) = (bs.map fun b => (b, !b)).map fun p : Bool × Bool => PyData.tuple [.bool p.1, .bool p.2] := by rw [List.map_map]; rfl
    rw [e] at q1 q2
    refine (z_eq (f := fun l : List (Bool × Bool) => PyData.list (l.map fun p : Bool × Bool => PyData.tuple [.bool p.1, .bool p.2])) ((emb_bool.pair emb_bool).list) (by omega) hu6 (fun z hz => ⟨trivial, trivial⟩) (fun z hz => ⟨trivial, trivial⟩) q1 q2).mono fun v g q => ?_
    rw [decide_eq_true rfl] at q; exact q
  case a6 =>
    obtain rfl := dat_bool q
    exact k s' _ I'

/-- the law's body -/
theorem law_walk (W : Wd B ad) {c P : Addr} (N : Nest B c P) {n : Nat} (rm : Rm A (n + 12)) {name qual : Str} {kV doc pm ct : Value} {an : Option Addr} {L a : Addr} {ns : List Int} (hln : ns.length ≤ 1000) {wd : List Nat} (hwd : wd = (sixes ns).map sign64)
    (hs : ∀ c ∈ wd, sgn c) (hsix : ∀ i ∈ sixes ns, i < 64) (K : LawOk wd)
    (henv : env = callEnvC (fdOf 34 name qual .none kV doc pm ct (.ref c) an) L a) {Q : Flow → Shared → Prop} {E : Value → Shared → Prop}
    (I : St A F B h₀ S₁ env [(P, owt0)] [("script", plist (intsD ns))] s₀ s)
    (k : ∀ s' ρ', St A F B h₀ S₁ env [(P, owt)] ρ' s₀ s' → Q (.ret (.bool true)) s') :
    wpAny (model prog w) A (execs (fb 34) env) Q E s := by
  have hl8 : wd.length = 8 := by rw [hwd, List.length_map, sixes_len]
  refine law_a W rm hln hwd hs hsix henv I fun s2 I2 => ?_
  refine law_b W N rm hl8 hs K henv I2 fun R s3 hR I3 => ?_
  refine law_c W rm hl8 hs K hR henv I3 fun s4 I4 => ?_
  refine law_d W rm hl8 hs K hR henv I4 fun D s5 hm I5 => ?_
  refine law_e1 W rm hl8 hs K hR henv I5 fun s6 I6 => ?_
  have hpl : (pairsP wd R).length ≤ 1000 := by
    unfold pairsP
    rw [List.length_append]
    have : (turnsP wd (kE wd).tail.length).length = (kE wd).tail.length := by unfold turnsP; simp
    have h4 : (pairs0 wd R).length = 4 := rfl
    have := K.small
    rw [List.length_tail] at *
    omega
  refine law_e2 W rm (ok_pairs hl8 hs K hR) hpl henv I6 fun s7 I7 => ?_
  rw [K.says R hR] at I7
  exact law_e3 W rm (by rw [← K.says R hR, List.length_map]; exact hpl) henv I7 k
end
end Mine

/-! ### Fn25 -/
namespace Mine
open PySem PySem.W PySem.Calls PyProof.Rows PySem.SeqAt

theorem ints_read {g : Heap} : ∀ {vs : List Value} {ns : List Int}, IntsAre vs ns → ∃ as, ReadsAll g vs (ns.map PyData.int) as
  | _, _, .nil => ⟨_, .nil⟩
  | _, _, .cons n t r => let ⟨_, q⟩ := ints_read r; ⟨_, .cons (.int n t) q⟩

theorem law_cells {name qual : Str} {kV doc pm ct cd : Value} {an : Option Addr} {L a : Addr} : (callEnvC (fdOf 34 name qual .none kV doc pm ct cd an) L a).cells.map (·.2) = [L + 1 + 1 + 1 + 1 + 1 + 1 + 1, L + 1 + 1 + 1 + 1 + 1 + 1, L + 1 + 1 + 1 + 1 + 1, L + 1 + 1 + 1 + 1, L + 1 + 1 + 1, L + 1 + 1, L + 1] := rfl

theorem apart_nat {L P : Nat} (h : P < L) : [L, L + 1 + 1 + 1 + 1 + 1 + 1 + 1, L + 1 + 1 + 1 + 1 + 1 + 1, L + 1 + 1 + 1 + 1 + 1, L + 1 + 1 + 1 + 1, L + 1 + 1 + 1, L + 1 + 1, L + 1, P].Nodup := by
  simp only [List.nodup_cons, List.mem_cons, List.not_mem_nil, or_false, not_or, List.nodup_nil, and_true, not_false_eq_true]
  omega
theorem law_joined {prog : Program} {w : World} {G h₁ : Heap} {L fa c P : Addr} {s₁ : Shared} {tk : Nat} {ad : Nat → Addr} (W : Wd G ad) (N : Nest G c P) {m : Str → Option Value} (F : Fr G L h₁ m)
    {o1 o2 o3 o4 o5 o6 o7 : Obj} (Nw : News G L h₁ [(L + 1 + 1 + 1 + 1 + 1 + 1 + 1, o7), (L + 1 + 1 + 1 + 1 + 1 + 1, o6), (L + 1 + 1 + 1 + 1 + 1, o5), (L + 1 + 1 + 1 + 1, o4), (L + 1 + 1 + 1, o3), (L + 1 + 1, o2), (L + 1, o1), (P, tabObj #[])])
    (d1 : ∃ v, o1.data = .cell v) (d2 : ∃ v, o2.data = .cell v) (d3 : ∃ v, o3.data = .cell v) (d4 : ∃ v, o4.data = .cell v) (d5 : ∃ v, o5.data = .cell v) (d6 : ∃ v, o6.data = .cell v) (d7 : ∃ v, o7.data = .cell v) (hPL : P < L)
    {ns : List Int} (hln : ns.length ≤ 1000) {wd : List Nat} (hwd : wd = (sixes ns).map sign64) (hs : ∀ c ∈ wd, sgn c) (hsix : ∀ i ∈ sixes ns, i < 64) (K : LawOk wd) {l : Addr} {vs : List Value} (hm : m "script" = some (.ref l)) (hl : G.IsList l vs.toArray) (hi : IntsAre vs ns)
    {Q : Flow → Shared → Prop} {E : Value → Shared → Prop} (k : ∀ h' tk', (∀ b o, G.get? b = some o → h'.get? b = some o) → (∃ ps, h'.get? P = some (tabObj ps)) → Q (.ret (.bool true)) { s₁ with heap := h', toks := tk' }) :
    wpAny (model prog w) (callerA.deeper (envOfC "law" (fsc 34) L fa (.ref c))) (execs (fb 34) (envOfC "law" (fsc 34) L fa (.ref c))) Q E { s₁ with heap := h₁, toks := tk } := by
  generalize henv0 : envOfC "law" (fsc 34) L fa (.ref c) = env
  have henv : env = callEnvC (fdOf 34 "law" "law" .none .none .none .none .none (.ref c) none) L fa := henv0.symm
  clear henv0
  have hcel : env.cells.map (·.2) = [L + 1 + 1 + 1 + 1 + 1 + 1 + 1, L + 1 + 1 + 1 + 1 + 1 + 1, L + 1 + 1 + 1 + 1 + 1, L + 1 + 1 + 1 + 1, L + 1 + 1 + 1, L + 1 + 1, L + 1] := by rw [henv]; exact law_cells
  have hL : env.locals = L := by rw [henv]; rfl
  have hGL : G.get? L = none := by
    cases e : G.get? L with
    | none => rfl
    | some o => exact absurd (Heap.lt_size e) (Nat.not_lt.mpr F.above)
  have had : addrs env [(P, owt0)] = [L, L + 1 + 1 + 1 + 1 + 1 + 1 + 1, L + 1 + 1 + 1 + 1 + 1 + 1, L + 1 + 1 + 1 + 1 + 1, L + 1 + 1 + 1 + 1, L + 1 + 1 + 1, L + 1 + 1, L + 1, P] := by
    show env.locals :: (env.cells.map (·.2) ++ [P]) = _
    rw [hcel, hL]; rfl
  have hk : env.scope.kind = .function := by rw [henv]; rfl
  have cellAt : ∀ b ∈ env.cells.map (·.2), ∃ o v, h₁.get? b = some o ∧ o.data = .cell v ∧ G.get? b = none := fun b hb => by
    rw [hcel] at hb
    simp only [List.mem_cons, List.not_mem_nil, or_false] at hb
    have g : ∀ (x : Addr) (o : Obj), (h₁.get? x = some o ∧ x ≠ L ∧ G.get? x = none) → (∃ v, o.data = Data.cell v) → ∃ o v, h₁.get? x = some o ∧ o.data = Data.cell v ∧ G.get? x = none := fun x o hm ⟨v, hv⟩ => ⟨o, v, hm.1, hv, hm.2.2⟩
    rcases hb with rfl | rfl | rfl | rfl | rfl | rfl | rfl
    · exact g _ o7 (Nw (_, o7) (by simp)) d7
    · exact g _ o6 (Nw (_, o6) (by simp)) d6
    · exact g _ o5 (Nw (_, o5) (by simp)) d5
    · exact g _ o4 (Nw (_, o4) (by simp)) d4
    · exact g _ o3 (Nw (_, o3) (by simp)) d3
    · exact g _ o2 (Nw (_, o2) (by simp)) d2
    · exact g _ o1 (Nw (_, o1) (by simp)) d1
  have hP := Nw (P, tabObj #[]) (by simp)
  obtain ⟨oL, es, ep, eL, dL, nsr⟩ := F.ns
  have fresh : ∀ b ∈ addrs env [(P, owt0)], G.get? b = none := fun b hb => by
    rcases List.mem_cons.mp hb with rfl | hb
    · rw [hL]; exact hGL
    · rcases List.mem_append.mp hb with hb | hb
      · obtain ⟨o, v, _, _, e⟩ := cellAt b hb; exact e
      · rcases List.mem_cons.mp hb with rfl | hb
        · exact hP.2.2
        · cases hb
  have alive : ∀ b ∈ addrs env [(P, owt0)], ∃ o, h₁.get? b = some o := fun b hb => by
    rcases List.mem_cons.mp hb with rfl | hb
    · rw [hL]; exact ⟨_, eL⟩
    · rcases List.mem_append.mp hb with hb | hb
      · obtain ⟨o, v, e, _⟩ := cellAt b hb; exact ⟨o, e⟩
      · rcases List.mem_cons.mp hb with rfl | hb
        · exact ⟨_, hP.1⟩
        · cases hb
  have up : G.StaysIn (fz (SS env [(P, owt0)] []) h₁) := fun b o e => fz_get (F.keep b o e) fun hb => by
    have hb' : b ∈ addrs env [(P, owt0)] := by simpa [SS] using hb
    rw [fresh b hb'] at e; cases e
  have I : St (callerA.deeper env) [L] G G [] env [(P, owt0)] [("script", plist (intsD ns))] { s₁ with heap := h₁, toks := tk } { s₁ with heap := h₁, toks := tk } := by
    refine ⟨⟨F.keep, ⟨[env], Around.frames_deeper rfl, ?_, ?_⟩, ?_, ?_⟩, fun _ _ e => e, .of_keeps F.keep, fresh, ?_, ?_, ?_, ?_, ?_, ?_, ⟨_, _, rfl⟩, ⟨hk, by rw [henv]; rfl, by rw [henv]; rfl⟩, fun _ _ h => nomatch h⟩
    · rw [henv]; rfl
    · exact ⟨by rw [hk]; decide, ⟨L, oL, by rw [henv]; rfl, hGL, eL, fun vs q => by rw [dL] at q; cases q⟩, trivial⟩
    · intro a ha
      rw [List.mem_singleton.mp ha]
      exact List.mem_append_left _ (by rw [had]; exact .head _)
    · intro a ha
      exact alive a (by simpa using ha)
    · rw [had]
      exact apart_nat hPL
    · intro a ha q
      have e := List.mem_singleton.mp q
      subst e
      rw [hcel] at ha
      exact (List.nodup_cons.mp (apart_nat hPL)).1 ha
    · exact ⟨m, hL ▸ F.ns⟩
    · intro p hp
      obtain ⟨o, v, e, d, _⟩ := cellAt p.2 (List.mem_map_of_mem hp)
      exact ⟨v, o, e, d⟩
    · intro x R e
      have hx : x = "script" ∧ R = plist (intsD ns) := by
        rw [List.lookup_cons] at e
        cases hq : (x == (Str.ofString "script")) with
        | true => rw [hq] at e; exact ⟨eq_of_beq hq, (Option.some.inj e).symm⟩
        | false => rw [hq] at e; cases e
      obtain ⟨rfl, rfl⟩ := hx
      refine ⟨.ref l, .inl ⟨by rw [henv]; rfl, m, hL ▸ F.ns, hm⟩, (plist (intsD ns)).mono up ?_⟩
      obtain ⟨as, ra⟩ := ints_read (g := G) hi
      obtain ⟨o, e1, e2, n, e3⟩ := hl
      exact ⟨_, .list e1 e2 e3 (by unfold intsD; simpa using ra)⟩
    · intro q hq
      rw [List.mem_singleton.mp hq]
      exact ⟨_, hP.1, rfl⟩
  refine law_walk (n := 100) W N ⟨?_, ?_, ?_⟩ hln hwd hs hsix K henv I fun s' ρ' I' => ?_
  · rfl
  · rw [PyProof.Rows.depth_deeper]; decide
  · rw [Around.deeper_units]; decide
  · obtain ⟨h', tk', rfl⟩ := I'.same
    refine k h' tk' (fun b o e => I'.old.keep b o e fun hb => ?_) ?_
    · rw [List.mem_singleton.mp hb, hGL] at e; cases e
    · obtain ⟨o, e, ps, q⟩ := I'.owns (P, owt) (.head _)
      exact ⟨ps, q ▸ e⟩
end Mine

/-! ### Pl1 -/
namespace Mine
section
variable {α β : Type} [DecidableEq α] [DecidableEq β]
theorem mem_dstep {acc : List α} {x y : α} : y ∈ dstep acc x ↔ y ∈ acc ∨ y = x := by
  unfold dstep
  split
  · rename_i h
    exact ⟨.inl, fun q => q.elim id fun e => e ▸ h⟩
  · rw [List.mem_append, List.mem_singleton]
theorem mem_dfold {xs : List α} : ∀ {acc : List α} {y : α}, y ∈ xs.foldl dstep acc ↔ y ∈ acc ∨ y ∈ xs := by
  induction xs with
  | nil => intro acc y; simp
  | cons a r ih =>
    intro acc y
    rw [List.foldl_cons, ih, mem_dstep, List.mem_cons, or_assoc]
theorem mem_dedup {xs : List α} {y : α} : y ∈ dedup xs ↔ y ∈ xs := by
  unfold dedup; rw [mem_dfold]; simp
theorem nodup_dstep {acc : List α} {x : α} (h : acc.Nodup) : (dstep acc x).Nodup := by
  unfold dstep
  split
  · exact h
  · rename_i hx
    rw [List.nodup_append]
    exact ⟨h, by simp, fun a ha b hb e => hx (by rw [← List.mem_singleton.mp hb, ← e]; exact ha)⟩
theorem nodup_dfold {xs : List α} : ∀ {acc : List α}, acc.Nodup → (xs.foldl dstep acc).Nodup := by
  induction xs with
  | nil => intro acc h; exact h
  | cons a r ih => intro acc h; exact ih (nodup_dstep h)
theorem nodup_dedup {xs : List α} : (dedup xs).Nodup := nodup_dfold .nil

theorem rems_nil {r : List α} : ∀ {t : List α}, t.Nodup → r.Nodup → (rems t r = some [] ↔ ∀ a, a ∈ t ↔ a ∈ r) := by
  induction r with
  | nil =>
    intro t ht _
    show some t = some [] ↔ _
    constructor
    · intro e; rw [Option.some.inj e]; exact fun _ => Iff.rfl
    · intro h
      have : t = [] := List.eq_nil_iff_forall_not_mem.mpr fun a m => nomatch (h a).mp m
      rw [this]
  | cons a r ih =>
    intro t ht hr
    rw [List.nodup_cons] at hr
    show (if a ∈ t then rems (t.erase a) r else none) = some [] ↔ _
    by_cases ha : a ∈ t
    · rw [if_pos ha, ih (ht.erase a) hr.2]
      constructor
      · intro h b
        rw [List.mem_cons, ← h b, ht.mem_erase_iff]
        constructor
        · intro hb
          by_cases e : b = a
          · exact .inl e
          · exact .inr ⟨e, hb⟩
        · rintro (rfl | ⟨_, hb⟩)
          · exact ha
          · exact hb
      · intro h b
        rw [ht.mem_erase_iff, h b, List.mem_cons]
        constructor
        · rintro ⟨h1, h2 | h2⟩
          · exact absurd h2 h1
          · exact h2
        · intro hb
          exact ⟨fun e => hr.1 (e ▸ hb), .inr hb⟩
    · rw [if_neg ha]
      refine ⟨fun e => (nomatch e), fun h => absurd ((h a).mpr (.head _)) ha⟩
theorem cmp_iff {xs ys : List α} : cmp xs ys = true ↔ ∀ a, a ∈ xs ↔ a ∈ ys := by
  unfold cmp
  rw [beq_iff_eq, rems_nil nodup_dedup nodup_dedup]
  constructor
  · intro h a; rw [← mem_dedup (xs := xs), ← mem_dedup (xs := ys), h a]
  · intro h a; rw [mem_dedup, mem_dedup, h a]
theorem cmp_dec {xs ys : List α} {p : Prop} [Decidable p] (h : (∀ a, a ∈ xs ↔ a ∈ ys) ↔ p) : cmp xs ys = decide p := by
  by_cases hp : p
  · rw [decide_eq_true hp, cmp_iff, h]; exact hp
  · rw [decide_eq_false hp, ← Bool.not_eq_true, cmp_iff, h]; exact hp

/-- a row without repeats is what first shows itself -/
theorem dfold_filter {f : β → α} {p : β → Bool} : ∀ {L : List β} {acc : List α} {pre : List β}, (∀ a, a ∈ acc ↔ a ∈ pre.map f) → (∀ a x b, L = a ++ x :: b → (p x = true ↔ f x ∉ (pre ++ a).map f)) → (L.map f).foldl dstep acc = acc ++ (L.filter p).map f := by
  intro L
  induction L with
  | nil => intro acc pre _ _; simp
  | cons x r ih =>
    intro acc pre hacc hp
    have h0 := hp [] x r rfl
    rw [List.append_nil] at h0
    rw [List.map_cons, List.foldl_cons]
    have hacc' : ∀ a, a ∈ dstep acc (f x) ↔ a ∈ (pre ++ [x]).map f := fun a => by
      rw [mem_dstep, hacc a, List.map_append, List.mem_append]; simp
    rw [ih hacc' fun a y b e => by
      have := hp (x :: a) y b (by rw [e]; rfl)
      rw [this, List.append_assoc]; rfl]
    by_cases hx : f x ∈ pre.map f
    · have hpx : p x = false := by
        rw [← Bool.not_eq_true, h0]; exact fun q => q hx
      have : dstep acc (f x) = acc := by unfold dstep; rw [if_pos ((hacc _).mpr hx)]
      rw [this, List.filter_cons_of_neg (by rw [hpx]; simp)]
    · have : dstep acc (f x) = acc ++ [f x] := by unfold dstep; rw [if_neg fun q => hx ((hacc _).mp q)]
      rw [this, List.filter_cons_of_pos (h0.mpr hx), List.append_assoc]; rfl
theorem dedup_filter {f : β → α} {p : β → Bool} {L : List β} (hp : ∀ a x b, L = a ++ x :: b → (p x = true ↔ f x ∉ a.map f)) : dedup (L.map f) = (L.filter p).map f := by
  have := dfold_filter (L := L) (f := f) (p := p) (acc := []) (pre := []) (by simp) hp
  rw [List.nil_append] at this; exact this

/-- a row without repeats, no longer than what it lies in -/
theorem nodup_full {l m : List α} (hl : l.Nodup) (hs : ∀ a ∈ l, a ∈ m) (hn : m.length ≤ l.length) : ∀ a ∈ m, a ∈ l := by
  induction l generalizing m with
  | nil =>
    intro a ha
    rw [List.length_nil] at hn
    rw [List.length_eq_zero_iff.mp (Nat.le_zero.mp hn)] at ha; exact ha
  | cons x r ih =>
    rw [List.nodup_cons] at hl
    intro a ha
    by_cases e : a = x
    · exact e ▸ .head _
    · refine .tail _ (ih (m := m.erase x) hl.2 (fun b hb => ?_) ?_ a ?_)
      · exact (List.mem_erase_of_ne (fun q : b = x => hl.1 (q ▸ hb))).mpr (hs b (.tail _ hb))
      · rw [List.length_erase_of_mem (hs x (.head _))]
        rw [List.length_cons] at hn; omega
      · exact (List.mem_erase_of_ne e).mpr ha

/-! ## lcp, lcs -/
theorem lcp_cases : ∀ (x y : List α), lcp x y = x ∨ lcp x y = y ∨ ∃ c d u v, c ≠ d ∧ x = lcp x y ++ c :: u ∧ y = lcp x y ++ d :: v
  | [], _ => .inl (by unfold lcp; rfl)
  | _ :: _, [] => .inr (.inl (by unfold lcp; rfl))
  | a :: x, b :: y => by
    by_cases h : a = b
    · subst h
      have e : lcp (a :: x) (a :: y) = a :: lcp x y := by
        rw [lcp]; exact if_pos rfl
      rw [e]
      rcases lcp_cases x y with h | h | ⟨c, d, u, v, h1, h2, h3⟩
      · exact .inl (by rw [h])
      · exact .inr (.inl (by rw [h]))
      · exact .inr (.inr ⟨c, d, u, v, h1, congrArg (a :: ·) h2, congrArg (a :: ·) h3⟩)
    · have e : lcp (a :: x) (b :: y) = [] := by
        rw [lcp]; exact if_neg h
      rw [e]
      exact .inr (.inr ⟨a, b, x, y, h, rfl, rfl⟩)
theorem lcp_split {c d : α} (h : c ≠ d) (u v : List α) : ∀ l : List α, lcp (l ++ c :: u) (l ++ d :: v) = l
  | [] => by show lcp (c :: u) (d :: v) = []; rw [lcp]; exact if_neg h
  | a :: l => by
    show lcp (a :: (l ++ c :: u)) (a :: (l ++ d :: v)) = _
    rw [lcp, if_pos rfl, lcp_split h u v l]
theorem lcs_split {c d : α} (h : c ≠ d) (u v l : List α) : lcs (u ++ c :: l) (v ++ d :: l) = l := by
  unfold lcs
  have e : ∀ (c : α) (u : List α), (u ++ c :: l).reverse = l.reverse ++ c :: u.reverse := fun c u => by simp
  rw [e, e, lcp_split h, List.reverse_reverse]
theorem lcs_cases (x y : List α) : lcs x y = x ∨ lcs x y = y ∨ ∃ c d u v, c ≠ d ∧ x = u ++ c :: lcs x y ∧ y = v ++ d :: lcs x y := by
  unfold lcs
  rcases lcp_cases x.reverse y.reverse with h | h | ⟨c, d, u, v, h1, h2, h3⟩
  · exact .inl (by rw [h, List.reverse_reverse])
  · exact .inr (.inl (by rw [h, List.reverse_reverse]))
  · refine .inr (.inr ⟨c, d, u.reverse, v.reverse, h1, ?_, ?_⟩)
    · have := congrArg List.reverse h2; rw [List.reverse_reverse] at this; exact this.trans (by simp)
    · have := congrArg List.reverse h3; rw [List.reverse_reverse] at this; exact this.trans (by simp)

/-- where a row turns, two neighbours are unlike -/
theorem turn_at {f : Nat → α} : ∀ {m k : Nat}, f k ≠ f (k + m) → ∃ i, k ≤ i ∧ i < k + m ∧ f i ≠ f (i + 1)
  | 0, k, h => absurd rfl h
  | m + 1, k, h => by
    by_cases e : f k = f (k + 1)
    · have h' : f (k + 1) ≠ f (k + 1 + m) := by rw [← e, show k + 1 + m = k + (m + 1) from by omega]; exact h
      obtain ⟨i, h1, h2, h3⟩ := turn_at h'
      exact ⟨i, by omega, by omega, h3⟩
    · exact ⟨k, by omega, by omega, e⟩
end

/-! ## order and beginnings -/
theorem prefix_between : ∀ {p a b c : List Nat}, p <+: a → p <+: c → a ≤ b → b ≤ c → p <+: b
  | [], _, b, _, _, _, _, _ => List.nil_prefix
  | k :: p, a, b, c, ha, hc, h1, h2 => by
    obtain ⟨u, rfl⟩ := ha
    obtain ⟨v, rfl⟩ := hc
    cases b with
    | nil => exact absurd h1 (by simp)
    | cons j b =>
      rw [List.cons_append, List.cons_le_cons_iff] at h1 h2
      have hk : k = j := by
        rcases h1 with h1 | ⟨h1, _⟩
        · rcases h2 with h2 | ⟨h2, _⟩
          · omega
          · omega
        · exact h1
      subst hk
      rcases h1 with h1 | ⟨_, h1⟩
      · omega
      · rcases h2 with h2 | ⟨_, h2⟩
        · omega
        · exact List.cons_prefix_cons.mpr ⟨rfl, prefix_between ⟨u, rfl⟩ ⟨v, rfl⟩ h1 h2⟩
end Mine

/-! ### Pl2 -/
namespace Mine
theorem bits_inj : ∀ {x y : List Nat}, x.flatMap bit = y.flatMap bit → x = y
  | [], [], _ => rfl
  | [], c :: y, h => by rw [List.flatMap_cons] at h; cases h
  | c :: x, [], h => by rw [List.flatMap_cons] at h; cases h
  | c :: x, d :: y, h => by
    rw [List.flatMap_cons, List.flatMap_cons] at h
    injection h with _ h
    injection h with _ h
    injection h with h1 h
    rw [h1, bits_inj (x := x) (y := y) h]
theorem way_rev : ∀ {x : List Nat}, x ≠ [] → wayOf x = x.reverse.flatMap bit
  | [], h => absurd rfl h
  | c :: x, _ => rfl
theorem bits_ne {x : List Nat} (h : x.flatMap bit = [47]) : False := by
  cases x with
  | nil => cases h
  | cons c x => rw [List.flatMap_cons] at h; cases h
theorem way_inj {x y : List Nat} (h : wayOf x = wayOf y) : x = y := by
  by_cases hx : x = []
  · subst hx
    by_cases hy : y = []
    · exact hy.symm
    · rw [way_rev hy] at h; exact (bits_ne h.symm).elim
  · by_cases hy : y = []
    · subst hy; rw [way_rev hx] at h; exact (bits_ne h).elim
    · rw [way_rev hx, way_rev hy] at h
      have := bits_inj h
      rw [← List.reverse_reverse x, this, List.reverse_reverse]

/-! ## tables -/
theorem keys_tput (t : Tab) (k v : List Nat) : keys (tput t k v) = dstep (keys t) k := by
  unfold tput dstep keys
  have e : (t.any fun p => decide (p.1 = k)) = true ↔ k ∈ t.map (·.1) := by
    rw [List.any_eq_true, List.mem_map]
    constructor
    · rintro ⟨p, h1, h2⟩; exact ⟨p, h1, of_decide_eq_true h2⟩
    · rintro ⟨p, h1, h2⟩; exact ⟨p, h1, decide_eq_true h2⟩
  by_cases h : k ∈ t.map (·.1)
  · rw [if_pos (e.mpr h), if_pos h, List.map_map]
    refine List.map_congr_left fun p _ => ?_
    show (if p.1 = k then (p.1, v) else p).1 = p.1
    split <;> rfl
  · rw [if_neg (fun q => h (e.mp q)), if_neg h, List.map_append]; rfl
theorem lookup_repl (k v x : List Nat) : ∀ t : Tab, (t.map fun p => if p.1 = k then (p.1, v) else p).lookup x = if x = k then (if k ∈ t.map (·.1) then some v else none) else t.lookup x
  | [] => by simp
  | p :: t => by
    rw [List.map_cons, List.lookup_cons, List.lookup_cons, lookup_repl k v x t]
    have h1 : (if p.1 = k then (p.1, v) else p).1 = p.1 := by split <;> rfl
    rw [h1]
    by_cases hx : x = p.1
    · subst hx
      rw [beq_self_eq_true]
      by_cases hk : p.1 = k
      · simp [hk]
      · simp [hk]
    · rw [beq_false_of_ne hx]
      by_cases hk : x = k
      · subst hk
        rw [if_pos rfl, if_pos rfl, List.map_cons]
        have : (x ∈ p.1 :: t.map (·.1)) ↔ x ∈ t.map (·.1) := by rw [List.mem_cons]; exact ⟨fun q => q.resolve_left hx, .inr⟩
        simp only [this]
      · rw [if_neg hk, if_neg hk]
theorem lookup_app (k v x : List Nat) : ∀ t : Tab, (t ++ [(k, v)]).lookup x = match t.lookup x with | some y => some y | none => if x = k then some v else none
  | [] => by
    show List.lookup x [(k, v)] = _
    rw [List.lookup_cons]
    by_cases h : x = k
    · subst h; rw [beq_self_eq_true]; simp
    · rw [beq_false_of_ne h]; simp [h]
  | p :: t => by
    rw [List.cons_append, List.lookup_cons, List.lookup_cons, lookup_app k v x t]
    cases (x == p.1) <;> rfl
theorem lookup_none {x : List Nat} : ∀ {t : Tab}, x ∉ t.map (·.1) → t.lookup x = none
  | [], _ => rfl
  | p :: t, h => by
    rw [List.map_cons, List.mem_cons, not_or] at h
    rw [List.lookup_cons, beq_false_of_ne h.1]
    exact lookup_none h.2
theorem tget_tput (t : Tab) (k v x : List Nat) : tget (tput t k v) x = if x = k then v else tget t x := by
  unfold tget tput
  have e : (t.any fun p => decide (p.1 = k)) = true ↔ k ∈ t.map (·.1) := by
    rw [List.any_eq_true, List.mem_map]
    constructor
    · rintro ⟨p, h1, h2⟩; exact ⟨p, h1, of_decide_eq_true h2⟩
    · rintro ⟨p, h1, h2⟩; exact ⟨p, h1, decide_eq_true h2⟩
  by_cases h : k ∈ t.map (·.1)
  · rw [if_pos (e.mpr h), lookup_repl]
    by_cases hx : x = k
    · rw [if_pos hx, if_pos hx, if_pos h]; rfl
    · rw [if_neg hx, if_neg hx]
  · rw [if_neg (fun q => h (e.mp q)), lookup_app]
    by_cases hx : x = k
    · subst hx
      rw [lookup_none h]; simp
    · rw [if_neg hx]
      cases t.lookup x <;> simp [hx]
def build (l : List (List Nat × Nat)) (t : Tab) : Tab := l.foldl (fun t p => tadd t p.1 p.2) t
def evs (key : List Nat → List Nat) (wd : List Nat) (m : Nat) : List (List Nat × Nat) := (List.range m).flatMap fun j => (List.range (j + 1)).map fun i => (key (sub (some i) (some j) wd), j)
theorem build_app (l m : List (List Nat × Nat)) (t : Tab) : build (l ++ m) t = build m (build l t) := by unfold build; rw [List.foldl_append]
theorem outer_build (key : List Nat → List Nat) (wd : List Nat) : ∀ m, outer key wd m = build (evs key wd m) []
  | 0 => rfl
  | m + 1 => by
    rw [outer_succ, outer_build key wd m]
    unfold evs
    rw [List.range_succ, List.flatMap_append, build_app, List.flatMap_cons, List.flatMap_nil, List.append_nil]
    unfold inner
    show _ = List.foldl _ _ _
    rw [List.foldl_map]
theorem keys_build : ∀ (l : List (List Nat × Nat)) (t : Tab), keys (build l t) = (l.map (·.1)).foldl dstep (keys t)
  | [], _ => rfl
  | p :: l, t => by
    show keys (build l (tadd t p.1 p.2)) = _
    rw [keys_build l]
    unfold tadd
    rw [keys_tput]; rfl
theorem tget_build (x : List Nat) : ∀ (l : List (List Nat × Nat)) (t : Tab), tget (build l t) x = tget t x ++ (l.filter fun p => decide (p.1 = x)).map (·.2)
  | [], t => by simp [build]
  | p :: l, t => by
    show tget (build l (tadd t p.1 p.2)) x = _
    rw [tget_build x l]
    unfold tadd
    rw [tget_tput]
    by_cases h : x = p.1
    · subst h
      rw [if_pos rfl, List.filter_cons_of_pos (by simp), List.append_assoc]; rfl
    · rw [if_neg h, List.filter_cons_of_neg (by simpa using Ne.symm h)]
/-- the same table under ways -/
def onWay (p : List Nat × List Nat) : List Nat × List Nat := (wayOf p.1, p.2)
theorem lookup_way (x : List Nat) : ∀ t : Tab, (t.map onWay).lookup (wayOf x) = t.lookup x
  | [] => rfl
  | p :: t => by
    rw [List.map_cons, List.lookup_cons, List.lookup_cons, lookup_way x t]
    show (match wayOf x == wayOf p.1 with | true => some p.2 | false => _) = _
    by_cases h : x = p.1
    · rw [h, beq_self_eq_true, beq_self_eq_true]
    · rw [beq_false_of_ne h, beq_false_of_ne fun q => h (way_inj q)]
theorem tget_way (x : List Nat) (t : Tab) : tget (t.map onWay) (wayOf x) = tget t x := by unfold tget; rw [lookup_way]
theorem tput_way (t : Tab) (k v : List Nat) : tput (t.map onWay) (wayOf k) v = (tput t k v).map onWay := by
  unfold tput
  have hw : ∀ p : List Nat × List Nat, ((onWay p).1 = wayOf k) = (p.1 = k) := fun p => propext ⟨fun q => way_inj q, fun q => by show wayOf p.1 = _; rw [q]⟩
  have e : ((t.map onWay).any fun p => decide (p.1 = wayOf k)) = t.any fun p => decide (p.1 = k) := by
    rw [List.any_map]
    congr 1
    funext p
    simp only [Function.comp, hw p]
  rw [e]
  split
  · rw [List.map_map, List.map_map]
    refine List.map_congr_left fun p _ => ?_
    simp only [Function.comp, hw p]
    split <;> rfl
  · rw [List.map_append]; rfl
theorem build_way : ∀ (l : List (List Nat × Nat)) (t : Tab), build (l.map fun p => (wayOf p.1, p.2)) (t.map onWay) = (build l t).map onWay
  | [], _ => rfl
  | p :: l, t => by
    show build (l.map _) (tadd (t.map onWay) (wayOf p.1) p.2) = (build l (tadd t p.1 p.2)).map onWay
    rw [← build_way l]
    unfold tadd
    rw [tget_way, tput_way]
theorem evs_way (wd : List Nat) (m : Nat) : evs wayOf wd m = (evs id wd m).map fun p => (wayOf p.1, p.2) := by
  unfold evs
  rw [List.map_flatMap]
  congr 1
  funext j
  rw [List.map_map]; rfl
theorem tab_way (wd : List Nat) : tabOf wayOf wd = (tabOf id wd).map onWay := by
  unfold tabOf
  rw [outer_build, outer_build, evs_way, ← build_way]; rfl
end Mine

/-! ### Pl3 -/
namespace Mine
theorem suf_take {wd x : List Nat} {j : Nat} (hj : j ≤ wd.length) : x <:+ wd.take j ↔ ∃ i, i ≤ j ∧ (wd.take j).drop i = x := by
  constructor
  · intro h
    refine ⟨(wd.take j).length - x.length, ?_, (List.suffix_iff_eq_drop.mp h).symm⟩
    rw [List.length_take]; omega
  · rintro ⟨i, _, rfl⟩; exact List.drop_suffix _ _
theorem in_evs {wd x : List Nat} {j m : Nat} : (x, j) ∈ evs id wd m ↔ j < m ∧ ∃ i, i ≤ j ∧ (wd.take j).drop i = x := by
  unfold evs
  rw [List.mem_flatMap]
  constructor
  · rintro ⟨j', h1, h2⟩
    obtain ⟨i, h3, h4⟩ := List.mem_map.mp h2
    rw [Prod.mk.injEq] at h4
    obtain ⟨h4, rfl⟩ := h4
    exact ⟨List.mem_range.mp h1, i, by have := List.mem_range.mp h3; omega, h4⟩
  · rintro ⟨h1, i, h2, h3⟩
    exact ⟨j, List.mem_range.mpr h1, List.mem_map.mpr ⟨i, List.mem_range.mpr (by omega), by rw [← h3]; rfl⟩⟩
theorem en_eq (wd x : List Nat) : en wd x = ((evs id wd (wd.length + 1)).filter fun p => decide (p.1 = x)).map (·.2) := by
  unfold en tabOf
  rw [outer_build, tget_build]; rfl
theorem mem_en {wd x : List Nat} {j : Nat} : j ∈ en wd x ↔ j ≤ wd.length ∧ x <:+ wd.take j := by
  rw [en_eq, List.mem_map]
  constructor
  · rintro ⟨p, h1, rfl⟩
    obtain ⟨h1, h2⟩ := List.mem_filter.mp h1
    have hx : p.1 = x := of_decide_eq_true h2
    have h3 := in_evs.mp (show (x, p.2) ∈ _ by rw [← hx]; exact h1)
    have hj : p.2 ≤ wd.length := by omega
    exact ⟨hj, (suf_take hj).mpr h3.2⟩
  · rintro ⟨h1, h2⟩
    exact ⟨(x, j), List.mem_filter.mpr ⟨in_evs.mpr ⟨by omega, (suf_take h1).mp h2⟩, decide_eq_true rfl⟩, rfl⟩
theorem en_sorted (wd x : List Nat) : (en wd x).Pairwise (· < ·) := by
  rw [en_eq]
  unfold evs
  rw [List.filter_flatMap, List.map_flatMap, List.pairwise_flatMap]
  have inn : ∀ j (k : Nat), k ∈ (((List.range (j + 1)).map fun i => (id (sub (some i) (some j) wd), j)).filter fun p => decide (p.1 = x)).map (·.2) → k = j := by
    intro j k hk
    obtain ⟨p, h1, rfl⟩ := List.mem_map.mp hk
    obtain ⟨i, _, h2⟩ := List.mem_map.mp (List.mem_filter.mp h1).1
    rw [← h2]
  constructor
  · intro j hj
    have hj' := List.mem_range.mp hj
    rw [List.filter_map, List.map_map]
    refine List.pairwise_map.mpr ?_
    have : (List.range (j + 1)).Pairwise (· < ·) := List.pairwise_lt_range
    refine (this.filter _).imp_of_mem ?_
    intro a b ha hb hab
    obtain ⟨ha1, ha2⟩ := List.mem_filter.mp ha
    obtain ⟨hb1, hb2⟩ := List.mem_filter.mp hb
    have e1 : (wd.take j).drop a = x := of_decide_eq_true ha2
    have e2 : (wd.take j).drop b = x := of_decide_eq_true hb2
    have l1 := congrArg List.length e1
    have l2 := congrArg List.length e2
    rw [List.length_drop, List.length_take] at l1 l2
    have := List.mem_range.mp hb1
    omega
  · have : (List.range (wd.length + 1)).Pairwise (· < ·) := List.pairwise_lt_range
    refine this.imp ?_
    intro a b hab u hu v hv
    rw [inn a u hu, inn b v hv]; exact hab
theorem sorted_ext : ∀ {l m : List Nat}, l.Pairwise (· < ·) → m.Pairwise (· < ·) → (∀ a, a ∈ l ↔ a ∈ m) → l = m := by
  intro l m h1 h2 h
  have n1 : l.Nodup := h1.imp fun h => Nat.ne_of_lt h
  have n2 : m.Nodup := h2.imp fun h => Nat.ne_of_lt h
  have hp : l.Perm m := by
    rw [List.perm_iff_count]
    intro a
    rw [n1.count, n2.count]
    simp only [h a]
  exact hp.eq_of_pairwise (fun a b _ _ h1 h2 => absurd h1 (Nat.lt_asymm h2)) h1 h2
theorem en_ext {wd x y : List Nat} (h : ∀ j, j ∈ en wd x ↔ j ∈ en wd y) : en wd x = en wd y := sorted_ext (en_sorted _ _) (en_sorted _ _) h
theorem infix_take {wd x : List Nat} : x <:+: wd ↔ ∃ j, j ≤ wd.length ∧ x <:+ wd.take j := by
  constructor
  · rintro ⟨s, t, rfl⟩
    refine ⟨s.length + x.length, by simp, s, ?_⟩
    rw [List.take_left' (by simp)]
  · rintro ⟨j, _, h⟩
    exact h.isInfix.trans (List.take_prefix _ _).isInfix
theorem mem_kE {wd x : List Nat} : x ∈ kE wd ↔ x <:+: wd := by
  unfold kE tabOf
  rw [outer_build, keys_build, mem_dfold, infix_take]
  constructor
  · rintro (h | h)
    · cases h
    · obtain ⟨p, h1, rfl⟩ := List.mem_map.mp h
      have := in_evs.mp (show (p.1, p.2) ∈ _ from h1)
      exact ⟨p.2, by omega, (suf_take (by omega)).mpr this.2⟩
  · rintro ⟨j, h1, h2⟩
    exact .inr (List.mem_map.mpr ⟨(x, j), in_evs.mpr ⟨by omega, (suf_take h1).mp h2⟩, rfl⟩)
theorem kE_nodup (wd : List Nat) : (kE wd).Nodup := by
  unfold kE tabOf
  rw [outer_build, keys_build]
  exact nodup_dfold .nil
theorem dfold_pre {α : Type} [DecidableEq α] : ∀ (xs acc : List α), ∃ r, xs.foldl dstep acc = acc ++ r
  | [], acc => ⟨[], by simp⟩
  | a :: xs, acc => by
    obtain ⟨r, h⟩ := dfold_pre xs (dstep acc a)
    rw [List.foldl_cons, h]
    unfold dstep
    split
    · exact ⟨r, rfl⟩
    · exact ⟨a :: r, by simp⟩
theorem kE_head (wd : List Nat) : ∃ r, kE wd = [] :: r := by
  unfold kE tabOf
  rw [outer_build, keys_build]
  have : evs id wd (wd.length + 1) = ([], 0) :: (evs id wd (wd.length + 1)).tail := by
    unfold evs
    rw [List.range_succ_eq_map]
    rfl
  rw [this, List.map_cons, List.foldl_cons]
  obtain ⟨r, h⟩ := dfold_pre (((evs id wd (wd.length + 1)).tail).map (·.1)) (dstep (keys []) [])
  exact ⟨r, h⟩
theorem nodup_le {α : Type} [DecidableEq α] : ∀ {l m : List α}, l.Nodup → (∀ a ∈ l, a ∈ m) → l.length ≤ m.length
  | [], _, _, _ => Nat.zero_le _
  | x :: r, m, hl, hs => by
    rw [List.nodup_cons] at hl
    have := nodup_le (l := r) (m := m.erase x) hl.2 fun b hb => (List.mem_erase_of_ne (fun q : b = x => hl.1 (q ▸ hb))).mpr (hs b (.tail _ hb))
    rw [List.length_erase_of_mem (hs x (.head _))] at this
    have hp : 0 < m.length := List.length_pos_of_mem (hs x (.head _))
    rw [List.length_cons]; omega
theorem kE_small {wd : List Nat} (h8 : wd.length = 8) : (kE wd).length < 64 := by
  have := nodup_le (kE_nodup wd) (m := [] :: (List.range 9).flatMap fun j => (List.range j).map fun i => (wd.take j).drop i) fun x hx => by
    obtain ⟨j, hj, hs⟩ := infix_take.mp (mem_kE.mp hx)
    obtain ⟨i, hi, rfl⟩ := (suf_take hj).mp hs
    by_cases e : i = j
    · subst e
      rw [List.drop_of_length_le (by rw [List.length_take]; omega)]; exact .head _
    · exact .tail _ (List.mem_flatMap.mpr ⟨j, List.mem_range.mpr (by omega), List.mem_map.mpr ⟨i, List.mem_range.mpr (by omega), rfl⟩⟩)
  have e : ([] :: (List.range 9).flatMap fun j => (List.range j).map fun i => (wd.take j).drop i).length = 37 := by
    rw [List.length_cons, List.length_flatMap]
    simp only [List.length_map, List.length_range]
    rfl
  omega
theorem en_len {wd x : List Nat} : (en wd x).length ≤ wd.length + 1 := by
  have := nodup_le (l := en wd x) (m := List.range (wd.length + 1)) ((en_sorted wd x).imp fun h => Nat.ne_of_lt h) fun j hj => List.mem_range.mpr (by have := (mem_en.mp hj).1; omega)
  rw [List.length_range] at this; exact this
end Mine

/-! ### Pl4 -/
namespace Mine
def Whole (wd x : List Nat) : Prop := x <+: wd ∨ ∃ c d, c ≠ d ∧ (c :: x) <:+: wd ∧ (d :: x) <:+: wd
theorem suf_step {x y : List Nat} (h : y <:+ x) (hn : y ≠ x) : ∃ c, (c :: y) <:+ x := by
  obtain ⟨s, rfl⟩ := h
  rcases List.eq_nil_or_concat s with rfl | ⟨s', c, rfl⟩
  · exact absurd rfl hn
  · exact ⟨c, s', by simp⟩
theorem letter_at {wd s x : List Nat} {j a : Nat} (hj : j ≤ wd.length) (h : wd.take j = s ++ a :: x) : x.length < j ∧ wd[j - x.length - 1]? = some a := by
  have hl := congrArg List.length h
  rw [List.length_take, List.length_append, List.length_cons] at hl
  have e : j - x.length - 1 = s.length := by omega
  refine ⟨by omega, ?_⟩
  have h1 : (wd.take j)[s.length]? = some a := by rw [h]; simp
  rw [List.getElem?_take_of_lt (by omega)] at h1
  rw [e]; exact h1
theorem mem_ahead {wd x : List Nat} {a : Nat} : a ∈ ahead wd x (en wd x) ↔ (a :: x) <:+: wd := by
  unfold ahead
  rw [List.mem_map]
  constructor
  · rintro ⟨j, h1, rfl⟩
    obtain ⟨h1, h2⟩ := List.mem_filter.mp h1
    obtain ⟨hj, hs⟩ := mem_en.mp h1
    have h2' : x.length < j := of_decide_eq_true h2
    obtain ⟨c, s, hc⟩ := suf_step hs fun e => by
      have := congrArg List.length e
      rw [List.length_take] at this; omega
    rw [(letter_at hj hc.symm).2]
    exact infix_take.mpr ⟨j, hj, s, hc⟩
  · intro h
    obtain ⟨j, hj, s, hs⟩ := infix_take.mp h
    obtain ⟨h1, h2⟩ := letter_at hj hs.symm
    exact ⟨j, List.mem_filter.mpr ⟨mem_en.mpr ⟨hj, s ++ [a], by rw [← hs]; simp⟩, decide_eq_true h1⟩, by rw [h2]; rfl⟩
theorem whl_iff {wd x : List Nat} : whl wd x = true ↔ Whole wd x := by
  unfold whl wholeB Whole
  rw [Bool.or_eq_true, decide_eq_true_iff, decide_eq_true_iff]
  have e1 : wd.take x.length = x ↔ x <+: wd := by rw [List.prefix_iff_eq_take]; exact ⟨Eq.symm, Eq.symm⟩
  rw [e1]
  refine or_congr Iff.rfl ?_
  constructor
  · intro h
    obtain ⟨c, hc⟩ := List.exists_mem_of_ne_nil _ h
    obtain ⟨hc1, hc2⟩ := List.mem_filter.mp hc
    have hc2' : c ≠ (ahead wd x (en wd x))[0]?.getD 0 := of_decide_eq_true hc2
    have hne : 0 < (ahead wd x (en wd x)).length := List.length_pos_of_mem hc1
    rw [List.getElem?_eq_getElem hne] at hc2'
    exact ⟨c, _, hc2', mem_ahead.mp hc1, mem_ahead.mp (List.getElem_mem hne)⟩
  · rintro ⟨c, d, hcd, hc, hd⟩ h
    have k : ∀ a, (a :: x) <:+: wd → a = (ahead wd x (en wd x))[0]?.getD 0 := fun a ha => by
      by_cases e : a = (ahead wd x (en wd x))[0]?.getD 0
      · exact e
      · have : a ∈ (ahead wd x (en wd x)).filter fun c => decide (c ≠ (ahead wd x (en wd x))[0]?.getD 0) := List.mem_filter.mpr ⟨mem_ahead.mpr ha, decide_eq_true e⟩
        rw [h] at this; cases this
    exact hcd ((k c hc).trans (k d hd).symm)
theorem mem_wholes {wd x : List Nat} : x ∈ wholesOf wd ↔ x <:+: wd ∧ Whole wd x := by
  unfold wholesOf
  rw [List.mem_filter, mem_kE, whl_iff]
theorem en_mono {wd x y : List Nat} (h : y <:+ x) : ∀ j, j ∈ en wd x → j ∈ en wd y := fun j hj => by
  obtain ⟨h1, h2⟩ := mem_en.mp hj
  exact mem_en.mpr ⟨h1, h.trans h2⟩
theorem en_some {wd x : List Nat} (h : x <:+: wd) : ∃ j, j ∈ en wd x := by
  obtain ⟨j, h1, h2⟩ := infix_take.mp h
  exact ⟨j, mem_en.mpr ⟨h1, h2⟩⟩
/-- a stretch that is not whole: what stands before it is always the same sign -/
theorem grow {wd x : List Nat} (hx : x <:+: wd) (hw : ¬ Whole wd x) : ∃ c, (c :: x) <:+: wd ∧ en wd (c :: x) = en wd x := by
  have step : ∀ j, j ∈ en wd x → ∃ c, (c :: x) <:+ wd.take j := fun j hj => by
    obtain ⟨h1, h2⟩ := mem_en.mp hj
    exact suf_step h2 fun e => hw (.inl (by rw [e]; exact List.take_prefix _ _))
  obtain ⟨j0, hj0⟩ := en_some hx
  obtain ⟨c, hc⟩ := step j0 hj0
  have hci : (c :: x) <:+: wd := infix_take.mpr ⟨j0, (mem_en.mp hj0).1, hc⟩
  refine ⟨c, hci, en_ext fun j => ⟨en_mono (List.suffix_cons _ _) j, fun hj => ?_⟩⟩
  obtain ⟨d, hd⟩ := step j hj
  have hdi : (d :: x) <:+: wd := infix_take.mpr ⟨j, (mem_en.mp hj).1, hd⟩
  by_cases e : c = d
  · rw [e]; exact mem_en.mpr ⟨(mem_en.mp hj).1, hd⟩
  · exact absurd (.inr ⟨c, d, e, hci, hdi⟩) hw
theorem split_at {wd x : List Nat} {c : Nat} (hw : Whole wd x) (he : en wd (c :: x) = en wd x) : False := by
  rcases hw with h | ⟨c1, c2, h, h1, h2⟩
  · have hl := h.length_le
    have : x.length ∈ en wd x := mem_en.mpr ⟨hl, by rw [← List.prefix_iff_eq_take.mp h]; exact List.suffix_rfl⟩
    rw [← he] at this
    have hs := (mem_en.mp this).2.length_le
    rw [List.length_take, List.length_cons] at hs
    omega
  · have k : ∀ a, (a :: x) <:+: wd → c = a := fun a ha => by
      obtain ⟨j, hj⟩ := en_some ha
      have h3 := en_mono (List.suffix_cons a x) j hj
      rw [← he] at h3
      have h4 := List.suffix_of_suffix_length_le (mem_en.mp h3).2 (mem_en.mp hj).2 (Nat.le_refl _)
      have := h4.eq_of_length rfl
      injection this
    exact h ((k c1 h1).symm.trans (k c2 h2))
theorem en_tail {wd x : List Nat} {c : Nat} (hx : (c :: x) <:+: wd) : en wd (c :: x) = en wd x ↔ x ∉ wholesOf wd := by
  have hxi : x <:+: wd := (List.suffix_cons c x).isInfix.trans hx
  constructor
  · intro he hm
    exact split_at (mem_wholes.mp hm).2 he
  · intro hm
    have hw : ¬ Whole wd x := fun q => hm (mem_wholes.mpr ⟨hxi, q⟩)
    obtain ⟨d, hd, he⟩ := grow hxi hw
    by_cases e : c = d
    · rw [e]; exact he
    · exact absurd (.inr ⟨c, d, e, hx, hd⟩) hw
theorem nil_whole (wd : List Nat) : [] ∈ wholesOf wd := mem_wholes.mpr ⟨List.nil_infix, .inl List.nil_prefix⟩
/-- what two stretches of one row have to do with each other -/
theorem same_row {wd x z : List Nat} (hx : x <:+: wd) (he : en wd z = en wd x) (hl : z.length ≤ x.length) : z <:+ x := by
  obtain ⟨j, hj⟩ := en_some hx
  have hz := hj
  rw [← he] at hz
  exact List.suffix_of_suffix_length_le (mem_en.mp hz).2 (mem_en.mp hj).2 hl
theorem between {wd x y z : List Nat} (h1 : z <:+ y) (h2 : y <:+ x) (he : en wd z = en wd x) : en wd y = en wd x :=
  en_ext fun j => ⟨fun h => he ▸ en_mono h1 j h, en_mono h2 j⟩

theorem law_d1 {wd : List Nat} (R : List (List Nat)) (hR : IsRising wd R) : dedup (R.map (en wd)) = (R.filter fun x => decide (x.tail ∈ wholesOf wd)).map (en wd) := by
  refine dedup_filter fun pre x post e => ?_
  obtain ⟨hp, hs⟩ := hR
  have hnd : R.Nodup := hp.nodup_iff.mpr (kE_nodup wd)
  have inR : ∀ {y}, y ∈ R ↔ y <:+: wd := fun {y} => by rw [hp.mem_iff, mem_kE]
  have hx : x <:+: wd := inR.mp (by rw [e]; simp)
  rw [e] at hs hnd
  obtain ⟨s1, s2, s3⟩ := List.pairwise_append.mp hs
  rw [decide_eq_true_iff]
  constructor
  · intro hw hm
    obtain ⟨z, hz, hez⟩ := List.mem_map.mp hm
    have hlen := s3 z hz x (.head _)
    have hne : z ≠ x := fun q => by
      rw [List.nodup_append] at hnd
      exact hnd.2.2 z hz x (.head _) q
    have hsuf := same_row hx hez hlen
    cases x with
    | nil => exact hne (List.suffix_nil.mp hsuf)
    | cons c y =>
      have hzy : z <:+ y := (List.suffix_cons_iff.mp hsuf).resolve_left hne
      have hy := between hzy (List.suffix_cons c y) hez
      exact (en_tail hx).mp hy.symm hw
  · intro hm
    by_cases hw : x.tail ∈ wholesOf wd
    · exact hw
    · exfalso
      cases x with
      | nil => exact hw (nil_whole wd)
      | cons c y =>
        have he := (en_tail hx).mpr hw
        have hy : y ∈ R := inR.mpr ((List.suffix_cons c y).isInfix.trans hx)
        rw [e] at hy
        rcases List.mem_append.mp hy with hy | hy
        · exact hm (List.mem_map.mpr ⟨y, hy, he.symm⟩)
        · rcases List.mem_cons.mp hy with hy | hy
          · have := congrArg List.length hy
            rw [List.length_cons] at this; omega
          · have := (List.pairwise_cons.mp s2).1 y hy
            rw [List.length_cons] at this; omega
theorem law_d2 {wd : List Nat} (R : List (List Nat)) (hR : IsRising wd R) : dedup (R.map (en wd)).reverse = (R.reverse.filter fun x => decide (x ∈ wholesOf wd)).map (en wd) := by
  rw [← List.map_reverse]
  refine dedup_filter fun pre x post e => ?_
  obtain ⟨hp, hs⟩ := hR
  have hnd : R.reverse.Nodup := (List.reverse_perm R).nodup_iff.mpr (hp.nodup_iff.mpr (kE_nodup wd))
  have inR : ∀ {y}, y ∈ R.reverse ↔ y <:+: wd := fun {y} => by rw [List.mem_reverse, hp.mem_iff, mem_kE]
  have hx : x <:+: wd := inR.mp (by rw [e]; simp)
  have hs' : R.reverse.Pairwise fun x y => y.length ≤ x.length := List.pairwise_reverse.mpr hs
  rw [e] at hs' hnd
  obtain ⟨s1, s2, s3⟩ := List.pairwise_append.mp hs'
  rw [decide_eq_true_iff]
  constructor
  · intro hw hm
    obtain ⟨z, hz, hez⟩ := List.mem_map.mp hm
    have hzi : z <:+: wd := inR.mp (by rw [e]; exact List.mem_append_left _ hz)
    have hlen := s3 z hz x (.head _)
    have hne : x ≠ z := fun q => by
      rw [List.nodup_append] at hnd
      exact hnd.2.2 z hz x (.head _) q.symm
    have hsuf := same_row hzi hez.symm hlen
    obtain ⟨c, hc⟩ := suf_step hsuf hne
    have h1 := between (List.suffix_cons c x) hc hez.symm
    exact split_at (mem_wholes.mp hw).2 (h1.trans hez)
  · intro hm
    by_cases hw : x ∈ wholesOf wd
    · exact hw
    · exfalso
      obtain ⟨c, hc, he⟩ := grow hx fun q => hw (mem_wholes.mpr ⟨hx, q⟩)
      have hy : c :: x ∈ R.reverse := inR.mpr hc
      rw [e] at hy
      rcases List.mem_append.mp hy with hy | hy
      · exact hm (List.mem_map.mpr ⟨_, hy, he⟩)
      · rcases List.mem_cons.mp hy with hy | hy
        · have := congrArg List.length hy
          rw [List.length_cons] at this; omega
        · have := (List.pairwise_cons.mp s2).1 _ hy
          rw [List.length_cons] at this; omega
end Mine

/-! ### Pl5 -/
namespace Mine
theorem bits_prefix : ∀ {x y : List Nat}, x.flatMap bit <+: y.flatMap bit → x <+: y
  | [], y, _ => List.nil_prefix
  | c :: x, [], h => by
    rw [List.flatMap_nil, List.prefix_nil, List.flatMap_cons] at h; cases h
  | c :: x, d :: y, h => by
    rw [List.flatMap_cons, List.flatMap_cons] at h
    have h1 := (List.cons_prefix_cons.mp h).2
    have h2 := (List.cons_prefix_cons.mp h1).2
    obtain ⟨e, h3⟩ := List.cons_prefix_cons.mp h2
    exact List.cons_prefix_cons.mpr ⟨e, bits_prefix h3⟩
theorem way_prefix {x p : List Nat} (hx : x ≠ []) : wayOf x <+: wayOf p ↔ x <:+ p := by
  by_cases hp : p = []
  · subst hp
    rw [List.suffix_nil]
    refine ⟨fun h => ?_, fun h => absurd h hx⟩
    rw [way_rev hx] at h
    have hl := h.length_le
    have e : x.reverse ≠ [] := fun q => hx (List.reverse_eq_nil_iff.mp q)
    cases hr : x.reverse with
    | nil => exact absurd hr e
    | cons c r =>
      rw [hr, List.flatMap_cons, List.length_append] at hl
      have h3 : (bit c).length = 3 := rfl
      have h1 : (wayOf []).length = 1 := rfl
      omega
  · rw [way_rev hx, way_rev hp]
    constructor
    · intro h; exact List.reverse_prefix.mp (bits_prefix h)
    · intro h
      obtain ⟨t, ht⟩ := List.reverse_prefix.mpr h
      rw [← ht, List.flatMap_append]
      exact List.prefix_append _ _
theorem mem_prefs {wd x : List Nat} : x ∈ prefs wd ↔ x <+: wd := by
  unfold prefs
  rw [List.mem_map]
  constructor
  · rintro ⟨j, _, rfl⟩; exact List.take_prefix _ _
  · intro h
    exact ⟨x.length, List.mem_range.mpr (by have := h.length_le; omega), (List.prefix_iff_eq_take.mp h).symm⟩
theorem prefs_nodup (wd : List Nat) : (prefs wd).Nodup := by
  unfold prefs
  refine List.pairwise_map.mpr ?_
  have : (List.range (wd.length + 1)).Pairwise (· < ·) := List.pairwise_lt_range
  refine this.imp_of_mem fun {a b} ha hb hab e => ?_
  have := congrArg List.length e
  rw [List.length_take, List.length_take] at this
  have h1 := List.mem_range.mp ha
  have h2 := List.mem_range.mp hb
  omega
theorem ord_perm (wd : List Nat) : (ordO wd).Perm (prefs wd) := List.mergeSort_perm _ _
theorem ord_mem {wd x : List Nat} : x ∈ ordO wd ↔ x <+: wd := by rw [(ord_perm wd).mem_iff, mem_prefs]
theorem ord_nodup (wd : List Nat) : (ordO wd).Nodup := (ord_perm wd).nodup_iff.mpr (prefs_nodup wd)
theorem ord_sorted (wd : List Nat) : (ordO wd).Pairwise fun a b => leN (wayOf a) (wayOf b) = true :=
  List.pairwise_mergeSort (le := fun a b => leN (wayOf a) (wayOf b)) (fun a b c => leN_trans (wayOf a) (wayOf b) (wayOf c)) (fun a b => leN_total (wayOf a) (wayOf b)) _
theorem leN_le {a b : List Nat} (h : leN a b = true) : a ≤ b := by
  simp only [leN, Bool.not_eq_true', decide_eq_false_iff_not] at h
  exact List.not_lt.mp h
theorem mem_meetO {wd x : List Nat} : x ∈ meetO wd ↔ ∃ k p q, (ordO wd)[k]? = some p ∧ (ordO wd)[k + 1]? = some q ∧ lcs p q = x := by
  unfold meetO
  rw [List.mem_map]
  constructor
  · rintro ⟨k, hk, rfl⟩
    have hk' := List.mem_range.mp hk
    refine ⟨k, (ordO wd)[k], (ordO wd)[k + 1], List.getElem?_eq_getElem (by omega), List.getElem?_eq_getElem (by omega), ?_⟩
    rw [List.getElem?_eq_getElem (show k < (ordO wd).length from by omega), List.getElem?_eq_getElem (show k + 1 < (ordO wd).length from by omega)]; rfl
  · rintro ⟨k, p, q, h1, h2, rfl⟩
    have hk : k + 1 < (ordO wd).length := (List.getElem?_eq_some_iff.mp h2).1
    exact ⟨k, List.mem_range.mpr (by omega), by rw [h1, h2]; rfl⟩
theorem meet_whole {wd x : List Nat} (h : x ∈ meetO wd) : x ∈ wholesOf wd := by
  obtain ⟨k, p, q, h1, h2, rfl⟩ := mem_meetO.mp h
  have hp : p <+: wd := ord_mem.mp (List.mem_of_getElem? h1)
  have hq : q <+: wd := ord_mem.mp (List.mem_of_getElem? h2)
  rcases lcs_cases p q with e | e | ⟨c, d, u, v, hcd, e1, e2⟩
  · rw [e]; exact mem_wholes.mpr ⟨hp.isInfix, .inl hp⟩
  · rw [e]; exact mem_wholes.mpr ⟨hq.isInfix, .inl hq⟩
  · have i1 : (c :: lcs p q) <:+: wd := (show (c :: lcs p q) <:+ p from ⟨u, e1.symm⟩).isInfix.trans hp.isInfix
    have i2 : (d :: lcs p q) <:+: wd := (show (d :: lcs p q) <:+ q from ⟨v, e2.symm⟩).isInfix.trans hq.isInfix
    exact mem_wholes.mpr ⟨(List.suffix_cons _ _).isInfix.trans i1, .inr ⟨c, d, hcd, i1, i2⟩⟩
theorem ord_between {wd x : List Nat} {a b i : Nat} (hb : b < (ordO wd).length) (hai : a ≤ i) (hib : i ≤ b) (ha : x <:+ (ordO wd)[a]?.getD []) (hc : x <:+ (ordO wd)[b]?.getD []) : x <:+ (ordO wd)[i]?.getD [] := by
  by_cases hx : x = []
  · subst hx; exact List.nil_suffix
  have le : ∀ {k l : Nat}, k ≤ l → l < (ordO wd).length → wayOf ((ordO wd)[k]?.getD []) ≤ wayOf ((ordO wd)[l]?.getD []) := fun {k l} hkl hl => by
    by_cases e : k = l
    · subst e; exact List.le_refl _
    · rw [List.getElem?_eq_getElem hl, List.getElem?_eq_getElem (show k < (ordO wd).length from by omega)]
      exact leN_le (List.pairwise_iff_getElem.mp (ord_sorted wd) k l (by omega) hl (by omega))
  exact (way_prefix hx).mp (prefix_between ((way_prefix hx).mpr ha) ((way_prefix hx).mpr hc) (le hai (by omega)) (le hib hb))
theorem turn_meet {wd x : List Nat} {a b c d : Nat} (hx : ¬ x <+: wd) (hab : a ≤ b) (hb : b < (ordO wd).length) (hcd : c ≠ d) (ha : (c :: x) <:+ (ordO wd)[a]?.getD []) (hd : (d :: x) <:+ (ordO wd)[b]?.getD []) : x ∈ meetO wd := by
  let O : Nat → List Nat := fun k => (ordO wd)[k]?.getD []
  let f : Nat → Option Nat := fun k => (O k)[(O k).length - x.length - 1]?
  have fl : ∀ {k e : Nat} {s : List Nat}, O k = s ++ e :: x → f k = some e := fun {k e s} h => by
    show (O k)[(O k).length - x.length - 1]? = _
    rw [h, List.length_append, List.length_cons, show s.length + (x.length + 1) - x.length - 1 = s.length from by omega]
    simp
  obtain ⟨s1, h1⟩ := ha
  obtain ⟨s2, h2⟩ := hd
  have f1 : f a = some c := fl (k := a) h1.symm
  have f2 : f b = some d := fl (k := b) h2.symm
  obtain ⟨i, i1, i2, i3⟩ := turn_at (f := f) (k := a) (m := b - a) (by rw [show a + (b - a) = b from by omega, f1, f2]; exact fun e => hcd (Option.some.inj e))
  have hxa : x <:+ O a := (List.suffix_cons c x).trans ⟨s1, h1⟩
  have hxb : x <:+ O b := (List.suffix_cons d x).trans ⟨s2, h2⟩
  have at' : ∀ k, a ≤ k → k ≤ b → ∃ e s, O k = s ++ e :: x := fun k k1 k2 => by
    have hs := ord_between hb k1 k2 hxa hxb
    obtain ⟨e, s, he⟩ := suf_step hs fun q => hx (by
      rw [q, List.getElem?_eq_getElem (show k < (ordO wd).length from by omega)]
      exact ord_mem.mp (List.getElem_mem _))
    exact ⟨e, s, he.symm⟩
  obtain ⟨e1, t1, g1⟩ := at' i i1 (by omega)
  obtain ⟨e2, t2, g2⟩ := at' (i + 1) (by omega) (by omega)
  have hne : e1 ≠ e2 := fun q => i3 (by rw [fl g1, fl g2, q])
  refine mem_meetO.mpr ⟨i, O i, O (i + 1), ?_, ?_, ?_⟩
  · show _ = some ((ordO wd)[i]?.getD [])
    rw [List.getElem?_eq_getElem (show i < (ordO wd).length from by omega)]; rfl
  · show _ = some ((ordO wd)[i + 1]?.getD [])
    rw [List.getElem?_eq_getElem (show i + 1 < (ordO wd).length from by omega)]; rfl
  · rw [g1, g2]; exact lcs_split hne _ _ _
theorem whole_meet {wd x : List Nat} (h : x ∈ wholesOf wd) : x <+: wd ∨ x ∈ meetO wd := by
  by_cases hx : x <+: wd
  · exact .inl hx
  · right
    rcases (mem_wholes.mp h).2 with h | ⟨c, d, hcd, hc, hd⟩
    · exact absurd h hx
    · have pos : ∀ e, (e :: x) <:+: wd → ∃ k, k < (ordO wd).length ∧ (e :: x) <:+ (ordO wd)[k]?.getD [] := fun e he => by
        obtain ⟨j, hj, hs⟩ := infix_take.mp he
        obtain ⟨k, hk, e2⟩ := List.getElem_of_mem (ord_mem.mpr (List.take_prefix j wd))
        refine ⟨k, hk, ?_⟩
        rw [List.getElem?_eq_getElem hk]
        show _ <:+ (ordO wd)[k]
        rw [e2]; exact hs
      obtain ⟨a, ha, sa⟩ := pos c hc
      obtain ⟨b, hb, sb⟩ := pos d hd
      rcases Nat.le_total a b with q | q
      · exact turn_meet hx q hb hcd sa sb
      · exact turn_meet hx q ha (Ne.symm hcd) sb sa
theorem grown {wd : List Nat} : ∀ (k : Nat) (x : List Nat), x <:+: wd → wd.length - x.length ≤ k → ∃ y, y ∈ wholesOf wd ∧ en wd y = en wd x := by
  intro k
  induction k with
  | zero =>
    intro x hx hk
    by_cases hw : Whole wd x
    · exact ⟨x, mem_wholes.mpr ⟨hx, hw⟩, rfl⟩
    · obtain ⟨c, hc, _⟩ := grow hx hw
      have := hc.length_le
      rw [List.length_cons] at this; omega
  | succ k ih =>
    intro x hx hk
    by_cases hw : Whole wd x
    · exact ⟨x, mem_wholes.mpr ⟨hx, hw⟩, rfl⟩
    · obtain ⟨c, hc, he⟩ := grow hx hw
      have := hc.length_le
      rw [List.length_cons] at this
      obtain ⟨y, h1, h2⟩ := ih (c :: x) hc (by rw [List.length_cons]; omega)
      exact ⟨y, h1, h2.trans he⟩
theorem fronts_prefs (wd : List Nat) : frontsOf wd = (prefs wd).map wayOf := by
  unfold frontsOf prefs
  rw [List.map_map]; rfl
theorem prefix_whole {wd x : List Nat} (h : x <+: wd) : x ∈ wholesOf wd := mem_wholes.mpr ⟨h.isInfix, .inl h⟩
theorem says_a (wd : List Nat) : cmp (frontsOf wd ++ (meetO wd).map wayOf) ((wholesOf wd).map wayOf) = true := by
  rw [fronts_prefs, ← List.map_append, cmp_iff]
  intro a
  rw [List.mem_map, List.mem_map]
  have h : ∀ x, x ∈ prefs wd ++ meetO wd ↔ x ∈ wholesOf wd := fun x => by
    rw [List.mem_append, mem_prefs]
    exact ⟨fun q => q.elim prefix_whole meet_whole, whole_meet⟩
  simp only [h]
theorem says_b {wd : List Nat} {R : List (List Nat)} (hR : IsRising wd R) : cmp ((wholesOf wd).map (en wd)) (R.map (en wd)) = true := by
  rw [cmp_iff]
  intro a
  rw [List.mem_map, List.mem_map]
  constructor
  · rintro ⟨x, hx, e⟩
    exact ⟨x, hR.1.mem_iff.mpr (mem_kE.mpr (mem_wholes.mp hx).1), e⟩
  · rintro ⟨x, hx, rfl⟩
    obtain ⟨y, h1, h2⟩ := grown wd.length x (mem_kE.mp (hR.1.mem_iff.mp hx)) (by omega)
    exact ⟨y, h1, h2⟩
theorem says_c (wd : List Nat) : cmp (frontsOf wd) ((wholesOf wd).map wayOf) = fitsB wd := by
  unfold fitsB
  refine cmp_dec ?_
  rw [fronts_prefs, List.filter_eq_nil_iff]
  have key : ∀ x, (¬ decide (wd.take x.length ≠ x) = true) ↔ x ∈ prefs wd := fun x => by
    rw [mem_prefs, List.prefix_iff_eq_take, decide_eq_true_iff, Decidable.not_not]
    exact ⟨Eq.symm, Eq.symm⟩
  constructor
  · intro h x hx
    rw [key]
    obtain ⟨y, h1, h2⟩ := List.mem_map.mp ((h (wayOf x)).mpr (List.mem_map_of_mem hx))
    rw [← way_inj h2]; exact h1
  · intro h a
    rw [List.mem_map, List.mem_map]
    constructor
    · rintro ⟨x, hx, e⟩; exact ⟨x, prefix_whole (mem_prefs.mp hx), e⟩
    · rintro ⟨x, hx, e⟩; exact ⟨x, (key x).mp (h x hx), e⟩
theorem says_d (wd : List Nat) : cmp (((kE wd).map wayOf).take (wholesOf wd).length) ((wholesOf wd).map wayOf) = earlyB wd := by
  unfold earlyB
  refine cmp_dec ?_
  rw [← List.map_take, List.filter_eq_nil_iff]
  have key : ∀ x, (¬ decide (x ∉ wholesOf wd) = true) ↔ x ∈ wholesOf wd := fun x => by
    rw [decide_eq_true_iff, Decidable.not_not]
  constructor
  · intro h x hx
    rw [key]
    obtain ⟨y, h1, h2⟩ := List.mem_map.mp ((h (wayOf x)).mp (List.mem_map_of_mem hx))
    rw [← way_inj h2]; exact h1
  · intro h a
    rw [List.mem_map, List.mem_map]
    have h1 : ∀ x ∈ (kE wd).take (wholesOf wd).length, x ∈ wholesOf wd := fun x hx => (key x).mp (h x hx)
    have hle : (wholesOf wd).length ≤ (kE wd).length := List.length_filter_le _ _
    have h2 := nodup_full ((kE_nodup wd).sublist (List.take_sublist _ _)) h1 (by rw [List.length_take]; omega)
    constructor
    · rintro ⟨x, hx, e⟩; exact ⟨x, h1 x hx, e⟩
    · rintro ⟨x, hx, e⟩; exact ⟨x, h2 x hx, e⟩
theorem cmp_en {wd x y : List Nat} : cmp (en wd x) (en wd y) = true ↔ en wd x = en wd y := by
  rw [cmp_iff]
  exact ⟨en_ext, fun e a => by rw [e]⟩
theorem says_turn {wd x : List Nat} (k : Nat) (hx : x ∈ (kE wd).tail) : (turnP wd k x).cmp = decide (x.tail ∉ wholesOf wd) := by
  obtain ⟨r, hr⟩ := kE_head wd
  have hnd := kE_nodup wd
  rw [hr, List.nodup_cons] at hnd
  have hm : x ∈ kE wd := List.mem_of_mem_tail hx
  rw [hr, List.tail_cons] at hx
  cases x with
  | nil => exact absurd hx hnd.1
  | cons c y =>
    have h := en_tail (mem_kE.mp hm)
    rw [List.tail_cons]
    by_cases hw : y ∈ wholesOf wd
    · rw [decide_eq_false (fun q => q hw)]
      have hne : en wd (c :: y) ≠ en wd y := fun e => h.mp e hw
      unfold turnP
      split
      · show cmp _ _ = false
        rw [← Bool.not_eq_true, List.tail_cons, cmp_en]; exact hne
      · show cmp _ _ = false
        rw [← Bool.not_eq_true, List.tail_cons, cmp_en]; exact hne.symm
    · rw [decide_eq_true hw]
      have he := h.mpr hw
      unfold turnP
      split
      · show cmp _ _ = true
        rw [List.tail_cons, cmp_en]; exact he
      · show cmp _ _ = true
        rw [List.tail_cons, cmp_en]; exact he.symm
theorem law_says {wd : List Nat} (R : List (List Nat)) (hR : IsRising wd R) : (pairsP wd R).map Pr.cmp = dueB wd := by
  unfold pairsP dueB
  rw [List.map_append]
  congr 1
  · show [_, _, _, _] = _
    rw [show Pr.cmp (.t (frontsOf wd ++ (meetO wd).map wayOf) ((wholesOf wd).map wayOf)) = true from says_a wd, show Pr.cmp (.r ((wholesOf wd).map (en wd)) (R.map (en wd))) = true from says_b hR,
      show Pr.cmp (.t (frontsOf wd) ((wholesOf wd).map wayOf)) = fitsB wd from says_c wd, show Pr.cmp (.t (((kE wd).map wayOf).take (wholesOf wd).length) ((wholesOf wd).map wayOf)) = earlyB wd from says_d wd]
  · unfold turnsP
    rw [List.map_map]
    refine List.ext_getElem (by simp) fun i h1 h2 => ?_
    have hi : i < (kE wd).tail.length := by simpa using h2
    rw [List.getElem_map, List.getElem_map, List.getElem_range]
    show (turnP wd i ((kE wd).tail[i]?.getD [])).cmp = _
    rw [List.getElem?_eq_getElem hi]
    exact says_turn i (List.getElem_mem hi)
theorem law_ok {wd : List Nat} (h8 : wd.length = 8) : LawOk wd where
  held := tab_way wd
  heldGet := fun x _ => by rw [tab_way, tget_way]; rfl
  nodup := kE_nodup wd
  small := kE_small h8
  tailIn := fun x hx => mem_kE.mpr ((List.tail_suffix x).isInfix.trans (mem_kE.mp hx))
  letters := fun x hx c hc => (mem_kE.mp hx).subset hc
  lens := fun x hx => (mem_kE.mp hx).length_le
  rowIn := fun x j hj => (mem_en.mp hj).1
  rowLen := fun x => by have := en_len (wd := wd) (x := x); omega
  d1 := law_d1
  d2 := law_d2
  says := law_says
end Mine

/-! ### Pl6 -/
namespace Mine
theorem six_lt (y x : Nat) : sixOf y x < 64 := by
  unfold sixOf
  have h : x % 3 = 0 ∨ x % 3 = 1 ∨ x % 3 = 2 := by omega
  rcases h with h | h | h
  · rw [h]; show y % 64 < 64; omega
  · rw [h]; show miY y % 64 < 64; omega
  · rw [h]; show hiY y % 64 < 64; omega
theorem sixes_lt (ns : List Int) : ∀ i ∈ sixes ns, i < 64 := fun i hi => by
  unfold sixes at hi
  obtain ⟨x, _, rfl⟩ := List.mem_map.mp hi
  exact six_lt _ _
theorem sign_ok : ∀ i < 64, sign64 i ≠ 47 ∧ sign64 i ≠ 46 ∧ sign64 i < 128 := by decide +kernel
theorem word_ok (ns : List Int) : ∀ c ∈ (sixes ns).map sign64, sgn c := fun c hc => by
  obtain ⟨i, hi, rfl⟩ := List.mem_map.mp hc
  exact sign_ok i (sixes_lt ns i hi)
theorem law_true (ns : List Int) : LawOk ((sixes ns).map sign64) := law_ok (by rw [List.length_map, sixes_len])
end Mine

/-! ### HeadA -/
open PySem PySem.W PyProof.Rows
namespace Mine
set_option maxRecDepth 100000 in
set_option maxHeartbeats 8000000 in
theorem saidA : OpenLaw.wellSaid PySem.Challenge.rw_rt0032_01 = true := by
  unfold OpenLaw.wellSaid
  repeat' (first | with_reducible refine look_both ?_ ?_ | unfold OpenRow.wellSaid | unfold OpenRow.partSaid | unfold looksOpen)
  all_goals decide +kernel
end Mine

/-! ### HeadF -/
namespace Mine
open PySem PySem.W PySem.Calls PyProof.Rows
def viewP : Program := { PySem.Challenge.pw_rt0032_01 with main := { PySem.Challenge.pw_rt0032_01.main with body := [0, 2, 3, 5, 6, 7, 12, 14, 16, 17, 19, 21, 23, 24, 25, 26, 28, 29, 30, 31, 32, 33, 34].filterMap fun i => PySem.Challenge.pw_rt0032_01.main.body[i]? } }
def looseP : List Str := [Str.ofString "b2a_base64", Str.ofString "b64encode"]
def fragP (P : Params) : Frag :=
  (nat_lit 3, PySem.Obj.mk (PySem.Value.type "dict") Option.none (PySem.Data.dict #[PySem.DictEntry.mk (PySem.PyData.keyHash P (PySem.Str.ofString "__name__")) (PySem.Value.str (PySem.Str.ofString "__name__") 165) (PySem.Value.str (PySem.Str.ofString "law_rt0032_01") 410), PySem.DictEntry.mk (PySem.PyData.keyHash P (PySem.Str.ofString "__doc__")) (PySem.Value.str (PySem.Str.ofString "__doc__") 166) PySem.Value.none, PySem.DictEntry.mk (PySem.PyData.keyHash P (PySem.Str.ofString "__package__")) (PySem.Value.str (PySem.Str.ofString "__package__") 167) PySem.Value.none, PySem.DictEntry.mk (PySem.PyData.keyHash P (PySem.Str.ofString "__loader__")) (PySem.Value.str (PySem.Str.ofString "__loader__") 168) (PySem.Value.builtin "__main__.__loader__#opaque"), PySem.DictEntry.mk (PySem.PyData.keyHash P (PySem.Str.ofString "__spec__")) (PySem.Value.str (PySem.Str.ofString "__spec__") 169) PySem.Value.none, PySem.DictEntry.mk (PySem.PyData.keyHash P (PySem.Str.ofString "__annotations__")) (PySem.Value.str (PySem.Str.ofString "__annotations__") 170) (PySem.Value.ref 6), PySem.DictEntry.mk (PySem.PyData.keyHash P (PySem.Str.ofString "__builtins__")) (PySem.Value.str (PySem.Str.ofString "__builtins__") 171) (PySem.Value.ref 4), PySem.DictEntry.mk (PySem.PyData.keyHash P (PySem.Str.ofString "__file__")) (PySem.Value.str (PySem.Str.ofString "__file__") 173) (PySem.Value.str (PySem.Str.ofString "/claim/cut.py") 172), PySem.DictEntry.mk (PySem.PyData.keyHash P (PySem.Str.ofString "__cached__")) (PySem.Value.str (PySem.Str.ofString "__cached__") 174) PySem.Value.none, PySem.DictEntry.mk (PySem.PyData.keyHash P (PySem.Str.ofString "_wall")) (PySem.Value.str (PySem.Str.ofString "_wall") 193) (PySem.Value.ref 21), PySem.DictEntry.mk (PySem.PyData.keyHash P (PySem.Str.ofString "_deduplicate_unhashable")) (PySem.Value.str (PySem.Str.ofString "_deduplicate_unhashable") 204) (PySem.Value.ref 28), PySem.DictEntry.mk (PySem.PyData.keyHash P (PySem.Str.ofString "_compare_args_orderless")) (PySem.Value.str (PySem.Str.ofString "_compare_args_orderless") 216) (PySem.Value.ref 35), PySem.DictEntry.mk (PySem.PyData.keyHash P (PySem.Str.ofString "_buffer")) (PySem.Value.str (PySem.Str.ofString "_buffer") 226) (PySem.Value.ref 42), PySem.DictEntry.mk (PySem.PyData.keyHash P (PySem.Str.ofString "_truth")) (PySem.Value.str (PySem.Str.ofString "_truth") 234) (PySem.Value.ref 49), PySem.DictEntry.mk (PySem.PyData.keyHash P (PySem.Str.ofString "_B64")) (PySem.Value.str (PySem.Str.ofString "_B64") 236) (PySem.Value.bytes #[65, 66, 67, 68, 69, 70, 71, 72, 73, 74, 75, 76, 77, 78, 79, 80, 81, 82, 83, 84, 85, 86, 87, 88, 89, 90, 97, 98, 99, 100, 101, 102, 103, 104, 105, 106, 107, 108, 109, 110, 111, 112, 113, 114, 115, 116, 117, 118, 119, 120, 121, 122, 48, 49, 50, 51, 52, 53, 54, 55, 56, 57, 43, 47] 235), PySem.DictEntry.mk (PySem.PyData.keyHash P (PySem.Str.ofString "b2a_base64")) (PySem.Value.str (PySem.Str.ofString "b2a_base64") 250) (PySem.Value.ref 57), PySem.DictEntry.mk (PySem.PyData.keyHash P (PySem.Str.ofString "b64encode")) (PySem.Value.str (PySem.Str.ofString "b64encode") 261) (PySem.Value.ref 65), PySem.DictEntry.mk (PySem.PyData.keyHash P (PySem.Str.ofString "_plain_name")) (PySem.Value.str (PySem.Str.ofString "_plain_name") 272) (PySem.Value.ref 72), PySem.DictEntry.mk (PySem.PyData.keyHash P (PySem.Str.ofString "ABCMeta")) (PySem.Value.str (PySem.Str.ofString "ABCMeta") 298) (PySem.Value.ref 89), PySem.DictEntry.mk (PySem.PyData.keyHash P (PySem.Str.ofString "_ABCLike")) (PySem.Value.str (PySem.Str.ofString "_ABCLike") 341) (PySem.Value.ref 122), PySem.DictEntry.mk (PySem.PyData.keyHash P (PySem.Str.ofString "_abc_plain_meta")) (PySem.Value.str (PySem.Str.ofString "_abc_plain_meta") 348) (PySem.Value.ref 131), PySem.DictEntry.mk (PySem.PyData.keyHash P (PySem.Str.ofString "fspath")) (PySem.Value.str (PySem.Str.ofString "fspath") 360) (PySem.Value.ref 138), PySem.DictEntry.mk (PySem.PyData.keyHash P (PySem.Str.ofString "_check_arg_types")) (PySem.Value.str (PySem.Str.ofString "_check_arg_types") 373) (PySem.Value.ref 145), PySem.DictEntry.mk (PySem.PyData.keyHash P (PySem.Str.ofString "_get_sep")) (PySem.Value.str (PySem.Str.ofString "_get_sep") 382) (PySem.Value.ref 152), PySem.DictEntry.mk (PySem.PyData.keyHash P (PySem.Str.ofString "join")) (PySem.Value.str (PySem.Str.ofString "join") 393) (PySem.Value.ref 159), PySem.DictEntry.mk (PySem.PyData.keyHash P (PySem.Str.ofString "dirname")) (PySem.Value.str (PySem.Str.ofString "dirname") 403) (PySem.Value.ref 166), PySem.DictEntry.mk (PySem.PyData.keyHash P (PySem.Str.ofString "commonpath")) (PySem.Value.str (PySem.Str.ofString "commonpath") 409) (PySem.Value.ref 171), PySem.DictEntry.mk (PySem.PyData.keyHash P (PySem.Str.ofString "_law_sixes")) (PySem.Value.str (PySem.Str.ofString "_law_sixes") 417) (PySem.Value.ref 176), PySem.DictEntry.mk (PySem.PyData.keyHash P (PySem.Str.ofString "_law_text")) (PySem.Value.str (PySem.Str.ofString "_law_text") 423) (PySem.Value.ref 181), PySem.DictEntry.mk (PySem.PyData.keyHash P (PySem.Str.ofString "_law_held")) (PySem.Value.str (PySem.Str.ofString "_law_held") 435) (PySem.Value.ref 188), PySem.DictEntry.mk (PySem.PyData.keyHash P (PySem.Str.ofString "_law_ends")) (PySem.Value.str (PySem.Str.ofString "_law_ends") 445) (PySem.Value.ref 195), PySem.DictEntry.mk (PySem.PyData.keyHash P (PySem.Str.ofString "_law_whole")) (PySem.Value.str (PySem.Str.ofString "_law_whole") 451) (PySem.Value.ref 200), PySem.DictEntry.mk (PySem.PyData.keyHash P (PySem.Str.ofString "_law_way")) (PySem.Value.str (PySem.Str.ofString "_law_way") 457) (PySem.Value.ref 205), PySem.DictEntry.mk (PySem.PyData.keyHash P (PySem.Str.ofString "law")) (PySem.Value.str (PySem.Str.ofString "law") 463) (PySem.Value.ref 210)] 34) #[]) ::
  (nat_lit 27, PySem.Obj.mk (PySem.Value.type "code") Option.none (PySem.Data.fields #[PySem.Value.str (PySem.Str.ofString "_deduplicate_unhashable") 196, PySem.Value.str (PySem.Str.ofString "_deduplicate_unhashable") 197, PySem.Value.str (PySem.Str.ofString "/claim/cut.py") 198, PySem.Value.int 5 0, PySem.Value.int 1 0, PySem.Value.int 0 0, PySem.Value.int 0 0, PySem.Value.int 3 0, PySem.Value.ref 22, PySem.Value.bool Bool.true, PySem.Value.int 181 0, PySem.Value.ref 23, PySem.Value.none, PySem.Value.ref 24, PySem.Value.ref 25, PySem.Value.ref 26, PySem.Value.int 202 0, PySem.Value.int 5 0, PySem.Value.str (PySem.Str.ofString "/claim/cut.py") 203]) #[]) ::
  (nat_lit 28, PySem.Obj.mk (PySem.Value.type "function") Option.none (PySem.Data.func (fdOf 2 (PySem.Str.ofString "_deduplicate_unhashable") (PySem.Str.ofString "_deduplicate_unhashable") (PySem.Value.none) (PySem.Value.none) (PySem.Value.none) (PySem.Value.str (PySem.Str.ofString "cpy313.typing") 194) (PySem.Value.none) (PySem.Value.ref 27) Option.none)) #[]) ::
  (nat_lit 34, PySem.Obj.mk (PySem.Value.type "code") Option.none (PySem.Data.fields #[PySem.Value.str (PySem.Str.ofString "_compare_args_orderless") 205, PySem.Value.str (PySem.Str.ofString "_compare_args_orderless") 206, PySem.Value.str (PySem.Str.ofString "/claim/cut.py") 207, PySem.Value.int 11 0, PySem.Value.int 2 0, PySem.Value.int 0 0, PySem.Value.int 0 0, PySem.Value.int 3 0, PySem.Value.ref 29, PySem.Value.bool Bool.true, PySem.Value.int 181 0, PySem.Value.ref 30, PySem.Value.none, PySem.Value.ref 31, PySem.Value.ref 32, PySem.Value.ref 33, PySem.Value.int 214 0, PySem.Value.int 11 0, PySem.Value.str (PySem.Str.ofString "/claim/cut.py") 215]) #[]) ::
  (nat_lit 35, PySem.Obj.mk (PySem.Value.type "function") Option.none (PySem.Data.func (fdOf 3 (PySem.Str.ofString "_compare_args_orderless") (PySem.Str.ofString "_compare_args_orderless") (PySem.Value.none) (PySem.Value.none) (PySem.Value.none) (PySem.Value.str (PySem.Str.ofString "cpy313.typing") 194) (PySem.Value.none) (PySem.Value.ref 34) Option.none)) #[]) ::
  (nat_lit 41, PySem.Obj.mk (PySem.Value.type "code") Option.none (PySem.Data.fields #[PySem.Value.str (PySem.Str.ofString "_buffer") 219, PySem.Value.str (PySem.Str.ofString "_buffer") 220, PySem.Value.str (PySem.Str.ofString "/claim/cut.py") 221, PySem.Value.int 22 0, PySem.Value.int 1 0, PySem.Value.int 0 0, PySem.Value.int 0 0, PySem.Value.int 3 0, PySem.Value.ref 36, PySem.Value.bool Bool.true, PySem.Value.int 181 0, PySem.Value.ref 37, PySem.Value.none, PySem.Value.ref 38, PySem.Value.ref 39, PySem.Value.ref 40, PySem.Value.int 224 0, PySem.Value.int 22 0, PySem.Value.str (PySem.Str.ofString "/claim/cut.py") 225]) #[]) ::
  (nat_lit 42, PySem.Obj.mk (PySem.Value.type "function") Option.none (PySem.Data.func (fdOf 5 (PySem.Str.ofString "_buffer") (PySem.Str.ofString "_buffer") (PySem.Value.none) (PySem.Value.none) (PySem.Value.none) (PySem.Value.str (PySem.Str.ofString "binascii") 217) (PySem.Value.none) (PySem.Value.ref 41) Option.none)) #[]) ::
  (nat_lit 48, PySem.Obj.mk (PySem.Value.type "code") Option.none (PySem.Data.fields #[PySem.Value.str (PySem.Str.ofString "_truth") 227, PySem.Value.str (PySem.Str.ofString "_truth") 228, PySem.Value.str (PySem.Str.ofString "/claim/cut.py") 229, PySem.Value.int 29 0, PySem.Value.int 1 0, PySem.Value.int 0 0, PySem.Value.int 0 0, PySem.Value.int 3 0, PySem.Value.ref 43, PySem.Value.bool Bool.true, PySem.Value.int 181 0, PySem.Value.ref 44, PySem.Value.none, PySem.Value.ref 45, PySem.Value.ref 46, PySem.Value.ref 47, PySem.Value.int 232 0, PySem.Value.int 29 0, PySem.Value.str (PySem.Str.ofString "/claim/cut.py") 233]) #[]) ::
  (nat_lit 49, PySem.Obj.mk (PySem.Value.type "function") Option.none (PySem.Data.func (fdOf 6 (PySem.Str.ofString "_truth") (PySem.Str.ofString "_truth") (PySem.Value.none) (PySem.Value.none) (PySem.Value.none) (PySem.Value.str (PySem.Str.ofString "binascii") 217) (PySem.Value.none) (PySem.Value.ref 48) Option.none)) #[]) ::
  (nat_lit 56, PySem.Obj.mk (PySem.Value.type "code") Option.none (PySem.Data.fields #[PySem.Value.str (PySem.Str.ofString "b2a_base64") 238, PySem.Value.str (PySem.Str.ofString "b2a_base64") 239, PySem.Value.str (PySem.Str.ofString "/claim/cut.py") 240, PySem.Value.int 35 0, PySem.Value.int 1 0, PySem.Value.int 1 0, PySem.Value.int 1 0, PySem.Value.int 3 0, PySem.Value.ref 51, PySem.Value.bool Bool.true, PySem.Value.int 181 0, PySem.Value.ref 52, PySem.Value.none, PySem.Value.ref 53, PySem.Value.ref 54, PySem.Value.ref 55, PySem.Value.int 248 0, PySem.Value.int 35 0, PySem.Value.str (PySem.Str.ofString "/claim/cut.py") 249]) #[]) ::
  (nat_lit 57, PySem.Obj.mk (PySem.Value.type "function") Option.none (PySem.Data.func (fdOf 8 (PySem.Str.ofString "b2a_base64") (PySem.Str.ofString "b2a_base64") (PySem.Value.none) (PySem.Value.ref 50) (PySem.Value.none) (PySem.Value.str (PySem.Str.ofString "binascii") 217) (PySem.Value.none) (PySem.Value.ref 56) Option.none)) #[]) ::
  (nat_lit 58, PySem.Obj.mk (PySem.Value.type "tuple") Option.none (PySem.Data.seq #[PySem.Value.none]) #[]) ::
  (nat_lit 64, PySem.Obj.mk (PySem.Value.type "code") Option.none (PySem.Data.fields #[PySem.Value.str (PySem.Str.ofString "b64encode") 253, PySem.Value.str (PySem.Str.ofString "b64encode") 254, PySem.Value.str (PySem.Str.ofString "/claim/cut.py") 255, PySem.Value.int 58 0, PySem.Value.int 2 0, PySem.Value.int 0 0, PySem.Value.int 0 0, PySem.Value.int 3 0, PySem.Value.ref 59, PySem.Value.bool Bool.true, PySem.Value.int 181 0, PySem.Value.ref 60, PySem.Value.none, PySem.Value.ref 61, PySem.Value.ref 62, PySem.Value.ref 63, PySem.Value.int 259 0, PySem.Value.int 58 0, PySem.Value.str (PySem.Str.ofString "/claim/cut.py") 260]) #[]) ::
  (nat_lit 65, PySem.Obj.mk (PySem.Value.type "function") Option.none (PySem.Data.func (fdOf 10 (PySem.Str.ofString "b64encode") (PySem.Str.ofString "b64encode") (PySem.Value.ref 58) (PySem.Value.none) (PySem.Value.none) (PySem.Value.str (PySem.Str.ofString "cpy313.base64") 251) (PySem.Value.none) (PySem.Value.ref 64) Option.none)) #[]) ::
  (nat_lit 137, PySem.Obj.mk (PySem.Value.type "code") Option.none (PySem.Data.fields #[PySem.Value.str (PySem.Str.ofString "fspath") 351, PySem.Value.str (PySem.Str.ofString "fspath") 352, PySem.Value.str (PySem.Str.ofString "/claim/cut.py") 353, PySem.Value.int 95 0, PySem.Value.int 1 0, PySem.Value.int 0 0, PySem.Value.int 0 0, PySem.Value.int 3 0, PySem.Value.ref 132, PySem.Value.bool Bool.true, PySem.Value.int 181 0, PySem.Value.ref 133, PySem.Value.none, PySem.Value.ref 134, PySem.Value.ref 135, PySem.Value.ref 136, PySem.Value.int 358 0, PySem.Value.int 95 0, PySem.Value.str (PySem.Str.ofString "/claim/cut.py") 359]) #[]) ::
  (nat_lit 138, PySem.Obj.mk (PySem.Value.type "function") Option.none (PySem.Data.func (fdOf 19 (PySem.Str.ofString "fspath") (PySem.Str.ofString "fspath") (PySem.Value.none) (PySem.Value.none) (PySem.Value.none) (PySem.Value.str (PySem.Str.ofString "os") 349) (PySem.Value.none) (PySem.Value.ref 137) Option.none)) #[]) ::
  (nat_lit 151, PySem.Obj.mk (PySem.Value.type "code") Option.none (PySem.Data.fields #[PySem.Value.str (PySem.Str.ofString "_get_sep") 376, PySem.Value.str (PySem.Str.ofString "_get_sep") 377, PySem.Value.str (PySem.Str.ofString "/claim/cut.py") 378, PySem.Value.int 124 0, PySem.Value.int 1 0, PySem.Value.int 0 0, PySem.Value.int 0 0, PySem.Value.int 3 0, PySem.Value.ref 146, PySem.Value.bool Bool.true, PySem.Value.int 181 0, PySem.Value.ref 147, PySem.Value.none, PySem.Value.ref 148, PySem.Value.ref 149, PySem.Value.ref 150, PySem.Value.int 380 0, PySem.Value.int 124 0, PySem.Value.str (PySem.Str.ofString "/claim/cut.py") 381]) #[]) ::
  (nat_lit 152, PySem.Obj.mk (PySem.Value.type "function") Option.none (PySem.Data.func (fdOf 23 (PySem.Str.ofString "_get_sep") (PySem.Str.ofString "_get_sep") (PySem.Value.none) (PySem.Value.none) (PySem.Value.none) (PySem.Value.str (PySem.Str.ofString "cpy313.posixpath") 374) (PySem.Value.none) (PySem.Value.ref 151) Option.none)) #[]) ::
  (nat_lit 158, PySem.Obj.mk (PySem.Value.type "code") Option.none (PySem.Data.fields #[PySem.Value.str (PySem.Str.ofString "join") 383, PySem.Value.str (PySem.Str.ofString "join") 384, PySem.Value.str (PySem.Str.ofString "/claim/cut.py") 385, PySem.Value.int 129 0, PySem.Value.int 1 0, PySem.Value.int 0 0, PySem.Value.int 0 0, PySem.Value.int 7 0, PySem.Value.ref 153, PySem.Value.bool Bool.true, PySem.Value.int 181 0, PySem.Value.ref 154, PySem.Value.none, PySem.Value.ref 155, PySem.Value.ref 156, PySem.Value.ref 157, PySem.Value.int 391 0, PySem.Value.int 129 0, PySem.Value.str (PySem.Str.ofString "/claim/cut.py") 392]) #[]) ::
  (nat_lit 159, PySem.Obj.mk (PySem.Value.type "function") Option.none (PySem.Data.func (fdOf 24 (PySem.Str.ofString "join") (PySem.Str.ofString "join") (PySem.Value.none) (PySem.Value.none) (PySem.Value.none) (PySem.Value.str (PySem.Str.ofString "cpy313.posixpath") 374) (PySem.Value.none) (PySem.Value.ref 158) Option.none)) #[]) ::
  (nat_lit 165, PySem.Obj.mk (PySem.Value.type "code") Option.none (PySem.Data.fields #[PySem.Value.str (PySem.Str.ofString "dirname") 394, PySem.Value.str (PySem.Str.ofString "dirname") 395, PySem.Value.str (PySem.Str.ofString "/claim/cut.py") 396, PySem.Value.int 146 0, PySem.Value.int 1 0, PySem.Value.int 0 0, PySem.Value.int 0 0, PySem.Value.int 3 0, PySem.Value.ref 160, PySem.Value.bool Bool.true, PySem.Value.int 181 0, PySem.Value.ref 161, PySem.Value.none, PySem.Value.ref 162, PySem.Value.ref 163, PySem.Value.ref 164, PySem.Value.int 401 0, PySem.Value.int 146 0, PySem.Value.str (PySem.Str.ofString "/claim/cut.py") 402]) #[]) ::
  (nat_lit 166, PySem.Obj.mk (PySem.Value.type "function") Option.none (PySem.Data.func (fdOf 25 (PySem.Str.ofString "dirname") (PySem.Str.ofString "dirname") (PySem.Value.none) (PySem.Value.none) (PySem.Value.none) (PySem.Value.str (PySem.Str.ofString "cpy313.posixpath") 374) (PySem.Value.none) (PySem.Value.ref 165) Option.none)) #[]) ::
  (nat_lit 170, PySem.Obj.mk (PySem.Value.type "code") Option.none (PySem.Data.fields #[PySem.Value.str (PySem.Str.ofString "commonpath") 404, PySem.Value.str (PySem.Str.ofString "commonpath") 405, PySem.Value.str (PySem.Str.ofString "/claim/cut.py") 406, PySem.Value.int 154 0, PySem.Value.int 1 0, PySem.Value.int 0 0, PySem.Value.int 0 0, PySem.Value.int 3 0, PySem.Value.ref 167, PySem.Value.bool Bool.true, PySem.Value.int 181 0, PySem.Value.ref 168, PySem.Value.none, PySem.Value.none, PySem.Value.none, PySem.Value.ref 169, PySem.Value.int 407 0, PySem.Value.int 154 0, PySem.Value.str (PySem.Str.ofString "/claim/cut.py") 408]) #[]) ::
  (nat_lit 171, PySem.Obj.mk (PySem.Value.type "function") Option.none (PySem.Data.func (fdOf 26 (PySem.Str.ofString "commonpath") (PySem.Str.ofString "commonpath") (PySem.Value.none) (PySem.Value.none) (PySem.Value.none) (PySem.Value.str (PySem.Str.ofString "cpy313.posixpath") 374) (PySem.Value.none) (PySem.Value.ref 170) Option.none)) #[]) ::
  (nat_lit 175, PySem.Obj.mk (PySem.Value.type "code") Option.none (PySem.Data.fields #[PySem.Value.str (PySem.Str.ofString "_law_sixes") 412, PySem.Value.str (PySem.Str.ofString "_law_sixes") 413, PySem.Value.str (PySem.Str.ofString "/claim/cut.py") 414, PySem.Value.int 184 0, PySem.Value.int 1 0, PySem.Value.int 0 0, PySem.Value.int 0 0, PySem.Value.int 3 0, PySem.Value.ref 172, PySem.Value.bool Bool.true, PySem.Value.int 181 0, PySem.Value.ref 173, PySem.Value.none, PySem.Value.none, PySem.Value.none, PySem.Value.ref 174, PySem.Value.int 415 0, PySem.Value.int 184 0, PySem.Value.str (PySem.Str.ofString "/claim/cut.py") 416]) #[]) ::
  (nat_lit 176, PySem.Obj.mk (PySem.Value.type "function") Option.none (PySem.Data.func (fdOf 28 (PySem.Str.ofString "_law_sixes") (PySem.Str.ofString "_law_sixes") (PySem.Value.none) (PySem.Value.none) (PySem.Value.none) (PySem.Value.str (PySem.Str.ofString "law_rt0032_01") 410) (PySem.Value.none) (PySem.Value.ref 175) Option.none)) #[]) ::
  (nat_lit 180, PySem.Obj.mk (PySem.Value.type "code") Option.none (PySem.Data.fields #[PySem.Value.str (PySem.Str.ofString "_law_text") 418, PySem.Value.str (PySem.Str.ofString "_law_text") 419, PySem.Value.str (PySem.Str.ofString "/claim/cut.py") 420, PySem.Value.int 191 0, PySem.Value.int 1 0, PySem.Value.int 0 0, PySem.Value.int 0 0, PySem.Value.int 3 0, PySem.Value.ref 177, PySem.Value.bool Bool.true, PySem.Value.int 181 0, PySem.Value.ref 178, PySem.Value.none, PySem.Value.none, PySem.Value.none, PySem.Value.ref 179, PySem.Value.int 421 0, PySem.Value.int 191 0, PySem.Value.str (PySem.Str.ofString "/claim/cut.py") 422]) #[]) ::
  (nat_lit 181, PySem.Obj.mk (PySem.Value.type "function") Option.none (PySem.Data.func (fdOf 29 (PySem.Str.ofString "_law_text") (PySem.Str.ofString "_law_text") (PySem.Value.none) (PySem.Value.none) (PySem.Value.none) (PySem.Value.str (PySem.Str.ofString "law_rt0032_01") 410) (PySem.Value.none) (PySem.Value.ref 180) Option.none)) #[]) ::
  (nat_lit 187, PySem.Obj.mk (PySem.Value.type "code") Option.none (PySem.Data.fields #[PySem.Value.str (PySem.Str.ofString "_law_held") 424, PySem.Value.str (PySem.Str.ofString "_law_held") 425, PySem.Value.str (PySem.Str.ofString "/claim/cut.py") 426, PySem.Value.int 195 0, PySem.Value.int 1 0, PySem.Value.int 0 0, PySem.Value.int 0 0, PySem.Value.int 3 0, PySem.Value.ref 182, PySem.Value.bool Bool.true, PySem.Value.int 181 0, PySem.Value.ref 183, PySem.Value.none, PySem.Value.ref 184, PySem.Value.ref 185, PySem.Value.ref 186, PySem.Value.int 433 0, PySem.Value.int 195 0, PySem.Value.str (PySem.Str.ofString "/claim/cut.py") 434]) #[]) ::
  (nat_lit 188, PySem.Obj.mk (PySem.Value.type "function") Option.none (PySem.Data.func (fdOf 30 (PySem.Str.ofString "_law_held") (PySem.Str.ofString "_law_held") (PySem.Value.none) (PySem.Value.none) (PySem.Value.none) (PySem.Value.str (PySem.Str.ofString "law_rt0032_01") 410) (PySem.Value.none) (PySem.Value.ref 187) Option.none)) #[]) ::
  (nat_lit 194, PySem.Obj.mk (PySem.Value.type "code") Option.none (PySem.Data.fields #[PySem.Value.str (PySem.Str.ofString "_law_ends") 436, PySem.Value.str (PySem.Str.ofString "_law_ends") 437, PySem.Value.str (PySem.Str.ofString "/claim/cut.py") 438, PySem.Value.int 203 0, PySem.Value.int 1 0, PySem.Value.int 0 0, PySem.Value.int 0 0, PySem.Value.int 3 0, PySem.Value.ref 189, PySem.Value.bool Bool.true, PySem.Value.int 181 0, PySem.Value.ref 190, PySem.Value.none, PySem.Value.ref 191, PySem.Value.ref 192, PySem.Value.ref 193, PySem.Value.int 443 0, PySem.Value.int 203 0, PySem.Value.str (PySem.Str.ofString "/claim/cut.py") 444]) #[]) ::
  (nat_lit 195, PySem.Obj.mk (PySem.Value.type "function") Option.none (PySem.Data.func (fdOf 31 (PySem.Str.ofString "_law_ends") (PySem.Str.ofString "_law_ends") (PySem.Value.none) (PySem.Value.none) (PySem.Value.none) (PySem.Value.str (PySem.Str.ofString "law_rt0032_01") 410) (PySem.Value.none) (PySem.Value.ref 194) Option.none)) #[]) ::
  (nat_lit 199, PySem.Obj.mk (PySem.Value.type "code") Option.none (PySem.Data.fields #[PySem.Value.str (PySem.Str.ofString "_law_whole") 446, PySem.Value.str (PySem.Str.ofString "_law_whole") 447, PySem.Value.str (PySem.Str.ofString "/claim/cut.py") 448, PySem.Value.int 209 0, PySem.Value.int 3 0, PySem.Value.int 0 0, PySem.Value.int 0 0, PySem.Value.int 3 0, PySem.Value.ref 196, PySem.Value.bool Bool.true, PySem.Value.int 181 0, PySem.Value.ref 197, PySem.Value.none, PySem.Value.none, PySem.Value.none, PySem.Value.ref 198, PySem.Value.int 449 0, PySem.Value.int 209 0, PySem.Value.str (PySem.Str.ofString "/claim/cut.py") 450]) #[]) ::
  (nat_lit 200, PySem.Obj.mk (PySem.Value.type "function") Option.none (PySem.Data.func (fdOf 32 (PySem.Str.ofString "_law_whole") (PySem.Str.ofString "_law_whole") (PySem.Value.none) (PySem.Value.none) (PySem.Value.none) (PySem.Value.str (PySem.Str.ofString "law_rt0032_01") 410) (PySem.Value.none) (PySem.Value.ref 199) Option.none)) #[]) ::
  (nat_lit 204, PySem.Obj.mk (PySem.Value.type "code") Option.none (PySem.Data.fields #[PySem.Value.str (PySem.Str.ofString "_law_way") 452, PySem.Value.str (PySem.Str.ofString "_law_way") 453, PySem.Value.str (PySem.Str.ofString "/claim/cut.py") 454, PySem.Value.int 212 0, PySem.Value.int 1 0, PySem.Value.int 0 0, PySem.Value.int 0 0, PySem.Value.int 3 0, PySem.Value.ref 201, PySem.Value.bool Bool.true, PySem.Value.int 181 0, PySem.Value.ref 202, PySem.Value.none, PySem.Value.none, PySem.Value.none, PySem.Value.ref 203, PySem.Value.int 455 0, PySem.Value.int 212 0, PySem.Value.str (PySem.Str.ofString "/claim/cut.py") 456]) #[]) ::
  (nat_lit 205, PySem.Obj.mk (PySem.Value.type "function") Option.none (PySem.Data.func (fdOf 33 (PySem.Str.ofString "_law_way") (PySem.Str.ofString "_law_way") (PySem.Value.none) (PySem.Value.none) (PySem.Value.none) (PySem.Value.str (PySem.Str.ofString "law_rt0032_01") 410) (PySem.Value.none) (PySem.Value.ref 204) Option.none)) #[]) ::
  (nat_lit 209, PySem.Obj.mk (PySem.Value.type "code") Option.none (PySem.Data.fields #[PySem.Value.str (PySem.Str.ofString "law") 458, PySem.Value.str (PySem.Str.ofString "law") 459, PySem.Value.str (PySem.Str.ofString "/claim/cut.py") 460, PySem.Value.int 214 0, PySem.Value.int 1 0, PySem.Value.int 0 0, PySem.Value.int 0 0, PySem.Value.int 3 0, PySem.Value.ref 206, PySem.Value.bool Bool.true, PySem.Value.int 181 0, PySem.Value.ref 207, PySem.Value.none, PySem.Value.none, PySem.Value.none, PySem.Value.ref 208, PySem.Value.int 461 0, PySem.Value.int 214 0, PySem.Value.str (PySem.Str.ofString "/claim/cut.py") 462]) #[]) ::
  (nat_lit 210, PySem.Obj.mk (PySem.Value.type "function") Option.none (PySem.Data.func (fdOf 34 (PySem.Str.ofString "law") (PySem.Str.ofString "law") (PySem.Value.none) (PySem.Value.none) (PySem.Value.none) (PySem.Value.str (PySem.Str.ofString "law_rt0032_01") 410) (PySem.Value.none) (PySem.Value.ref 209) Option.none)) #[]) :: []
def addrsP : List Addr := [3, 27, 28, 34, 35, 41, 42, 48, 49, 56, 57, 58, 64, 65, 137, 138, 151, 152, 158, 159, 165, 166, 170, 171, 175, 176, 180, 181, 187, 188, 194, 195, 199, 200, 204, 205, 209, 210]
theorem addrs_ok (P : Params) : addrsP = (fragP P).map (·.1) := rfl
set_option maxHeartbeats 0 in
theorem leftP : LeftO PySem.Challenge.pw_rt0032_01 viewP looseP (fun s => xlAt viewP [] s && recOk [] s) (Hook.obs (kmHook fragP addrsP addrs_ok [207])) (Hook.val (kmHook fragP addrsP addrs_ok [207])) 2694 := by
  intro w
  kernel_rfl
end Mine

/-! ### HeadX -/
namespace Mine
open PySem PySem.W PySem.Calls PyProof.Rows PySem.SeqAt

def adR (i : Nat) : Addr := ([(2, 28), (3, 35), (5, 42), (6, 49), (8, 57), (10, 65), (19, 138), (23, 152), (24, 159), (25, 166), (26, 171), (28, 176), (29, 181), (30, 188), (31, 195), (32, 200), (33, 205)].lookup i).getD 0
def dataAt (K : Frag) (a : Addr) : Data := match K.lookup a with | some o => o.data | none => .plain
def IsFn (K : Frag) (a i : Nat) (dV : Value) : Prop := ∃ n q kV doc pm ct cd an, dataAt K a = .func (fdOf i n q dV kV doc pm ct cd an) ∧ codeIn K cd q = true
section
variable {K : Frag} {G : Heap} {mg mb : Str → Option Value} {loose : List Str} {prog : Program}
theorem fn_of (X : K.In G) {a i : Nat} {dV : Value} (x : IsFn K a i dV) : Fn G a i dV := by
  obtain ⟨n, q, kV, doc, pm, ct, cd, an, h1, h2⟩ := x
  unfold dataAt at h1
  split at h1
  · rename_i o e
    exact ⟨o, n, q, kV, doc, pm, ct, cd, an, X _ _ e, h1, codeRec_of X h2⟩
  · cases h1
theorem gn_of (X : K.In G) (T : TopRead prog loose mg mb G) {x : Str} {v : Value} (e : nsIn K mainGlobals x = some (some v)) : GN G x v := ⟨mg, mb, T.g, T.b, .inl (mg_of X T.g e)⟩
theorem gb_of (X : K.In G) (T : TopRead prog loose mg mb G) {x : Str} {v : Value} (e : nsIn K mainGlobals x = some none) (hn : x ≠ "__name__") (hb : bootBuiltins x = some v) : GN G x v := ⟨mg, mb, T.g, T.b, .inr ⟨mg_none_of X T.g e, (T.builtins x hn).trans hb⟩⟩
end

theorem hf2 (P : Params) : IsFn (fragP P) 28 2 .none := ⟨_, _, _, _, _, _, _, _, rfl, rfl⟩
theorem hf3 (P : Params) : IsFn (fragP P) 35 3 .none := ⟨_, _, _, _, _, _, _, _, rfl, rfl⟩
theorem hf5 (P : Params) : IsFn (fragP P) 42 5 .none := ⟨_, _, _, _, _, _, _, _, rfl, rfl⟩
theorem hf6 (P : Params) : IsFn (fragP P) 49 6 .none := ⟨_, _, _, _, _, _, _, _, rfl, rfl⟩
theorem hf8 (P : Params) : IsFn (fragP P) 57 8 .none := ⟨_, _, _, _, _, _, _, _, rfl, rfl⟩
theorem hf19 (P : Params) : IsFn (fragP P) 138 19 .none := ⟨_, _, _, _, _, _, _, _, rfl, rfl⟩
theorem hf23 (P : Params) : IsFn (fragP P) 152 23 .none := ⟨_, _, _, _, _, _, _, _, rfl, rfl⟩
theorem hf24 (P : Params) : IsFn (fragP P) 159 24 .none := ⟨_, _, _, _, _, _, _, _, rfl, rfl⟩
theorem hf25 (P : Params) : IsFn (fragP P) 166 25 .none := ⟨_, _, _, _, _, _, _, _, rfl, rfl⟩
theorem hf26 (P : Params) : IsFn (fragP P) 171 26 .none := ⟨_, _, _, _, _, _, _, _, rfl, rfl⟩
theorem hf28 (P : Params) : IsFn (fragP P) 176 28 .none := ⟨_, _, _, _, _, _, _, _, rfl, rfl⟩
theorem hf29 (P : Params) : IsFn (fragP P) 181 29 .none := ⟨_, _, _, _, _, _, _, _, rfl, rfl⟩
theorem hf30 (P : Params) : IsFn (fragP P) 188 30 .none := ⟨_, _, _, _, _, _, _, _, rfl, rfl⟩
theorem hf31 (P : Params) : IsFn (fragP P) 195 31 .none := ⟨_, _, _, _, _, _, _, _, rfl, rfl⟩
theorem hf32 (P : Params) : IsFn (fragP P) 200 32 .none := ⟨_, _, _, _, _, _, _, _, rfl, rfl⟩
theorem hf33 (P : Params) : IsFn (fragP P) 205 33 .none := ⟨_, _, _, _, _, _, _, _, rfl, rfl⟩
theorem hf10 (P : Params) : ∃ T o n, IsFn (fragP P) 65 10 (.ref T) ∧ (fragP P).lookup T = some o ∧ o.data = .seq #[.none] n := ⟨_, _, _, ⟨_, _, _, _, _, _, _, _, rfl, rfl⟩, rfl, rfl⟩
theorem wd_head {P : Params} {G : Heap} {mg mb : Str → Option Value} {loose : List Str} {prog : Program} (X : (fragP P).In G) (T : TopRead prog loose mg mb G) : Wd G adR where
  lim := T.nolimit
  fn := fun i hi => by
    simp only [List.mem_cons, List.not_mem_nil, or_false] at hi
    rcases hi with rfl | rfl | rfl | rfl | rfl | rfl | rfl | rfl | rfl | rfl | rfl | rfl | rfl | rfl | rfl | rfl
    · exact fn_of X (hf2 P)
    · exact fn_of X (hf3 P)
    · exact fn_of X (hf5 P)
    · exact fn_of X (hf6 P)
    · exact fn_of X (hf8 P)
    · exact fn_of X (hf19 P)
    · exact fn_of X (hf23 P)
    · exact fn_of X (hf24 P)
    · exact fn_of X (hf25 P)
    · exact fn_of X (hf26 P)
    · exact fn_of X (hf28 P)
    · exact fn_of X (hf29 P)
    · exact fn_of X (hf30 P)
    · exact fn_of X (hf31 P)
    · exact fn_of X (hf32 P)
    · exact fn_of X (hf33 P)
  n2 := gn_of X T rfl
  n3 := gn_of X T rfl
  n5 := gn_of X T rfl
  n6 := gn_of X T rfl
  n8 := gn_of X T rfl
  n10 := gn_of X T rfl
  n19 := gn_of X T rfl
  n23 := gn_of X T rfl
  n24 := gn_of X T rfl
  n25 := gn_of X T rfl
  n26 := gn_of X T rfl
  n28 := gn_of X T rfl
  n29 := gn_of X T rfl
  n30 := gn_of X T rfl
  n31 := gn_of X T rfl
  n32 := gn_of X T rfl
  n33 := gn_of X T rfl
  b64 := by
    obtain ⟨T', o, n, h1, h2, h3⟩ := hf10 P
    exact ⟨T', o, n, fn_of X h1, X _ _ h2, h3⟩
  tbl := ⟨_, gn_of X T rfl⟩
  t_type := gb_of X T rfl (by decide) rfl
  t_str := gb_of X T rfl (by decide) rfl
  t_bytes := gb_of X T rfl (by decide) rfl
  t_bool := gb_of X T rfl (by decide) rfl
  t_list := gb_of X T rfl (by decide) rfl
  t_tuple := gb_of X T rfl (by decide) rfl
  t_map := gb_of X T rfl (by decide) rfl
  t_range := gb_of X T rfl (by decide) rfl
  t_enumerate := gb_of X T rfl (by decide) rfl
  t_ValueError := gb_of X T rfl (by decide) rfl
  b_len := gb_of X T rfl (by decide) rfl
  b_abs := gb_of X T rfl (by decide) rfl
  b_sum := gb_of X T rfl (by decide) rfl
  b_min := gb_of X T rfl (by decide) rfl
  b_max := gb_of X T rfl (by decide) rfl
  b_chr := gb_of X T rfl (by decide) rfl
  b_sorted := gb_of X T rfl (by decide) rfl
  b_isinstance := gb_of X T rfl (by decide) rfl
  b_issubclass := gb_of X T rfl (by decide) rfl
end Mine

/-! ### HeadY -/
namespace Mine
open PySem PySem.W PySem.Calls PyProof.Rows PySem.SeqAt
theorem nest_of {p : Program} {loose : List Str} {mean : ExcName → Option Value} {mg mb : Str → Option Value} {G : Heap} {c P : Addr} (T : Top p loose mean mg mb G) (C : CodeHd G c P) (hP : G.get? P = none) : Nest G c P := by
  obtain ⟨bm, ob, b1, b2, b3, b4, b5, b6⟩ := T.bmain
  have g := T.g
  refine ⟨C, ⟨mg, T.g, bm, ob, b1, b2, ?_, ?_, b3, b4, b5, b6⟩, ?_⟩
  · intro q
    obtain ⟨o, es, ep, e, hd, _⟩ := g
    rw [q, e] at b3; cases b3; rw [hd] at b6; cases b6
  · intro q
    rw [q, hP] at b3; cases b3
  · intro q
    obtain ⟨o, es, ep, e, hd, _⟩ := g
    rw [q, hP] at e; cases e

set_option maxHeartbeats 8000000 in
theorem law_holds : PySem.Challenge.rw_rt0032_01.Holds := by
  w_on
  refine holds_law saidA fun said => ?_
  refine PySem.W.holds_open (q := viewP) (loose := looseP) (Xt := fun s => xlAt viewP [] s && recOk (RowW.records (OpenRow.toRowW PySem.Challenge.rw_rt0032_01.row)) s) (XP := XL viewP []) (Yf := Hook.obs (kmHook fragP addrsP addrs_ok [207])) (Ya := Hook.val (kmHook fragP addrsP addrs_ok [207])) (YP := Hook.says (kmHook fragP addrsP addrs_ok [207])) (N := 2694) leftP (Hook.of (kmHook fragP addrsP addrs_ok [207])) (Hook.keeps (kmHook fragP addrsP addrs_ok [207]))
    (fun s e => xl_of s (Bool.and_eq_true_iff.mp e).1) XL.keeps (by rfl) (by rfl) (by rfl) (fun s e => recFacts_of (Bool.and_eq_true_iff.mp e).2) (by rfl) said (by decide +kernel) ⟨rfl, rfl, rfl, rfl, rfl, by decide +kernel⟩ ?hw ?hc
  case hw => w_witness2
  w_strict (
    k_go0
    rename News _ _ _ _ => N'
    rename Frag.In _ _ => X'
    rename Top _ _ _ _ _ _ => T'
    rename Fr _ _ _ _ => F'
    rename IntsAre _ _ => hI
    rename _ < _ => hlt
    have W := wd_head X' (topRead_of T')
    have N := nest_of T' codeHd (N' (207, tabObj #[]) (by simp)).2.2
    refine law_joined W N F' N' ⟨_, by assumption⟩ ⟨_, by assumption⟩ ⟨_, by assumption⟩ ⟨_, by assumption⟩ ⟨_, by assumption⟩ ⟨_, by assumption⟩ ⟨_, by assumption⟩ hlt ?_ rfl (word_ok _) (sixes_lt _) (law_true _) ?_ lifted hI ?_
    · omega
    · rfl
    · intro h' tk' keep gr
      exact ⟨⟨.inl ⟨.bool true, .bool true, [], rfl, fun _ => rfl, .bool true, by wrow_post, fun _ => ⟨.nil, fun _ h => nomatch h⟩⟩, keep, rfl, by assumption⟩, gr, trivial⟩)
end Mine

theorem PySem.Challenge.cw_rt0032_01_holds : PySem.Challenge.rw_rt0032_01.Holds :=
  Mine.law_holds
