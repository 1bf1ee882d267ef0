import PyProof.Rows.All
import Wide.All
import OpenK.AllK
import Wide.FinOn
import KE.KItemsList
import KE.KDictOf
import KE.KLcPair
import KE.KTryOn
import PySem.Challenge.RW_pk0090_01
set_option Elab.async false
set_option maxRecDepth 100000
set_option linter.unusedVariables false
set_option maxHeartbeats 4000000
/-! Fw1 -/
namespace Mine
open PySem PySem.Spec PyProof.Rows

/-! ## views -/
abbrev View := Addr → Option Obj
def Le (V W : View) : Prop := ∀ b o, V b = some o → W b = some o
def cut (V : View) (X : List Addr) : View := fun b => if b ∈ X then none else V b
abbrev vw (s : Shared) : View := fun b => s.heap.get? b

theorem Le.refl (V : View) : Le V V := fun _ _ e => e
theorem Le.trans {U V W : View} (h : Le U V) (k : Le V W) : Le U W := fun b o e => k b o (h b o e)
theorem cut_of {V : View} {X : List Addr} {b : Addr} {o : Obj} (h : cut V X b = some o) : b ∉ X ∧ V b = some o := by
  unfold cut at h; split at h
  · cases h
  · exact ⟨by assumption, h⟩
theorem cut_mk {V : View} {X : List Addr} {b : Addr} {o : Obj} (hb : b ∉ X) (h : V b = some o) : cut V X b = some o := by
  unfold cut; rw [if_neg hb]; exact h
theorem cut_mono {V W : View} (X : List Addr) (h : Le V W) : Le (cut V X) (cut W X) := fun b o e => cut_mk (cut_of e).1 (h b o (cut_of e).2)
theorem cut_le (V : View) (X : List Addr) : Le (cut V X) V := fun _ _ e => (cut_of e).2
theorem cut_sub {V : View} {X Z : List Addr} (h : ∀ x ∈ X, x ∈ Z) : Le (cut V Z) (cut V X) := fun _ _ e => cut_mk (fun hx => (cut_of e).1 (h _ hx)) (cut_of e).2

/-! ## data in a view -/
mutual
inductive Rd (V : View) : Value → PyData → Prop
  | none : Rd V .none .none
  | bool (b) : Rd V (.bool b) (.bool b)
  | int (i t) : Rd V (.int i t) (.int i)
  | str (x t) : Rd V (.str x t) (.str x)
  | list {a vs n xs} : V a = some ⟨.type "list", Option.none, .seq vs n, #[]⟩ → RdAll V vs.toList xs → Rd V (.ref a) (.list xs)
  | tuple {a vs n xs} : V a = some ⟨.type "tuple", Option.none, .seq vs n, #[]⟩ → RdAll V vs.toList xs → Rd V (.ref a) (.tuple xs)
inductive RdAll (V : View) : List Value → List PyData → Prop
  | nil : RdAll V [] []
  | cons {v vs d ds} : Rd V v d → RdAll V vs ds → RdAll V (v :: vs) (d :: ds)
end

mutual
theorem Rd.mono {V W : View} (h : Le V W) : ∀ {v : Value} {d : PyData}, Rd V v d → Rd W v d
  | _, _, .none => .none
  | _, _, .bool b => .bool b
  | _, _, .int i t => .int i t
  | _, _, .str x t => .str x t
  | _, _, .list a d => .list (h _ _ a) (RdAll.mono h d)
  | _, _, .tuple a d => .tuple (h _ _ a) (RdAll.mono h d)
theorem RdAll.mono {V W : View} (h : Le V W) : ∀ {vs : List Value} {ds : List PyData}, RdAll V vs ds → RdAll W vs ds
  | _, _, .nil => .nil
  | _, _, .cons a b => .cons (Rd.mono h a) (RdAll.mono h b)
end

mutual
theorem Rd.reads {V : View} {h : Heap} (k : Le V fun b => h.get? b) : ∀ {v : Value} {d : PyData}, Rd V v d → ∃ as, Reads h v d as
  | _, _, .none => ⟨_, .none⟩
  | _, _, .bool b => ⟨_, .bool b⟩
  | _, _, .int i t => ⟨_, .int i t⟩
  | _, _, .str x t => ⟨_, .str x t⟩
  | _, _, .list a d => let ⟨_, r⟩ := RdAll.reads k d; ⟨_, .list (k _ _ a) rfl rfl r⟩
  | _, _, .tuple a d => let ⟨_, r⟩ := RdAll.reads k d; ⟨_, .tuple (k _ _ a) rfl rfl r⟩
theorem RdAll.reads {V : View} {h : Heap} (k : Le V fun b => h.get? b) : ∀ {vs : List Value} {ds : List PyData}, RdAll V vs ds → ∃ as, ReadsAll h vs ds as
  | _, _, .nil => ⟨_, .nil⟩
  | _, _, .cons a b => let ⟨_, r⟩ := Rd.reads k a; let ⟨_, q⟩ := RdAll.reads k b; ⟨_, .cons r q⟩
end

theorem RdAll.length {V : View} {vs : List Value} {ds : List PyData} (h : RdAll V vs ds) : vs.length = ds.length := by
  induction vs generalizing ds with
  | nil => cases h; rfl
  | cons v vs ih => cases h with | cons a b => simp [ih b]
theorem RdAll.get {V : View} {vs : List Value} {ds : List PyData} (h : RdAll V vs ds) : ∀ {i : Nat} {d : PyData}, ds[i]? = some d → ∃ v, vs[i]? = some v ∧ Rd V v d := by
  induction vs generalizing ds with
  | nil => cases h; intro i d e; simp at e
  | cons v vs ih =>
    cases h with
    | cons a b =>
      intro i d e
      cases i with
      | zero => simp at e; subst e; exact ⟨v, rfl, a⟩
      | succ i => simp at e; obtain ⟨u, e1, e2⟩ := ih b e; exact ⟨u, by simpa using e1, e2⟩
theorem RdAll.append {V : View} {vs us : List Value} {ds es : List PyData} (h : RdAll V vs ds) (k : RdAll V us es) : RdAll V (vs ++ us) (ds ++ es) := by
  induction vs generalizing ds with
  | nil => cases h; exact k
  | cons v vs ih => cases h with | cons a b => exact .cons a (ih b)
theorem RdAll.snoc {V : View} {vs : List Value} {v : Value} {ds : List PyData} {d : PyData} (h : RdAll V vs ds) (k : Rd V v d) : RdAll V (vs ++ [v]) (ds ++ [d]) := h.append (.cons k .nil)

theorem Rd.str_inv {V : View} {v : Value} {x : Str} (h : Rd V v (.str x)) : ∃ t, v = .str x t := by cases h; exact ⟨_, rfl⟩
theorem Rd.int_inv {V : View} {v : Value} {x : Int} (h : Rd V v (.int x)) : ∃ t, v = .int x t := by cases h; exact ⟨_, rfl⟩
theorem Rd.bool_inv {V : View} {v : Value} {x : Bool} (h : Rd V v (.bool x)) : v = .bool x := by cases h; rfl
theorem Rd.list_inv {V : View} {v : Value} {xs : List PyData} (h : Rd V v (.list xs)) : ∃ a vs n, v = .ref a ∧ V a = some ⟨.type "list", Option.none, .seq vs n, #[]⟩ ∧ RdAll V vs.toList xs := by cases h with | list a d => exact ⟨_, _, _, rfl, a, d⟩
theorem Rd.tuple_inv {V : View} {v : Value} {xs : List PyData} (h : Rd V v (.tuple xs)) : ∃ a vs n, v = .ref a ∧ V a = some ⟨.type "tuple", Option.none, .seq vs n, #[]⟩ ∧ RdAll V vs.toList xs := by cases h with | tuple a d => exact ⟨_, _, _, rfl, a, d⟩
theorem Rd.none_inv {V : View} {v : Value} (h : Rd V v .none) : v = .none := by cases h; rfl

/-! ## what a step may change -/
def GExt (g g' : Array GenState) : Prop := (∀ (i : Nat) (x : GenState), g[i]? = some x → g'[i]? = some x) ∧ (AllBare g → AllBare g')
theorem GExt.refl (g : Array GenState) : GExt g g := ⟨fun _ _ e => e, id⟩
theorem GExt.trans {a b c : Array GenState} (h : GExt a b) (k : GExt b c) : GExt a c := ⟨fun i x e => k.1 i x (h.1 i x e), fun x => k.2 (h.2 x)⟩

structure ExtB (Z : List Addr) (s s' : Shared) : Prop where
  keep : ∀ b o, b ∉ Z → s.heap.get? b = some o → s'.heap.get? b = some o
  there : ∀ b o, s.heap.get? b = some o → ∃ o', s'.heap.get? b = some o'
  os : s'.os = s.os
  gens : GExt s.gens s'.gens
  toks : s.toks ≤ s'.toks
abbrev Ext (s s' : Shared) : Prop := ExtB [] s s'

theorem ExtB.refl (Z : List Addr) (s : Shared) : ExtB Z s s := ⟨fun _ _ _ e => e, fun _ o e => ⟨o, e⟩, rfl, .refl _, Nat.le_refl _⟩
theorem ExtB.trans {Z : List Addr} {s s' s'' : Shared} (h : ExtB Z s s') (k : ExtB Z s' s'') : ExtB Z s s'' :=
  ⟨fun b o hb e => k.keep b o hb (h.keep b o hb e), fun b o e => let ⟨o', e'⟩ := h.there b o e; k.there b o' e', k.os.trans h.os, h.gens.trans k.gens, Nat.le_trans h.toks k.toks⟩
theorem ExtB.mono {Z Z' : List Addr} {s s' : Shared} (h : ExtB Z s s') (hz : ∀ z ∈ Z, z ∈ Z') : ExtB Z' s s' :=
  ⟨fun b o hb e => h.keep b o (fun q => hb (hz b q)) e, h.there, h.os, h.gens, h.toks⟩
theorem Ext.all {s s' : Shared} (h : Ext s s') : ∀ b o, s.heap.get? b = some o → s'.heap.get? b = some o := fun b o e => h.keep b o (by simp) e
theorem Ext.le {s s' : Shared} (h : Ext s s') : Le (vw s) (vw s') := h.all
theorem Ext.any {Z : List Addr} {s s' : Shared} (h : Ext s s') : ExtB Z s s' := h.mono (by simp)
theorem Ext.mk' {s : Shared} {h' : Heap} {tk : Nat} (hk : ∀ b o, s.heap.get? b = some o → h'.get? b = some o) (ht : s.toks ≤ tk) : Ext s { s with heap := h', toks := tk } :=
  ⟨fun b o _ e => hk b o e, fun b o e => ⟨o, hk b o e⟩, rfl, .refl _, ht⟩
theorem Ext.toks' {s : Shared} {tk : Nat} (ht : s.toks ≤ tk) : Ext s { s with toks := tk } := Ext.mk' (fun _ _ e => e) ht
theorem ExtB.sameBut {Z : List Addr} {s : Shared} {a : Addr} {h' : Heap} {tk : Nat} (hs : Heap.SameBut a s.heap h') (ha : a ∈ Z) (ho : ∃ o, h'.get? a = some o) (ht : s.toks ≤ tk) : ExtB Z s { s with heap := h', toks := tk } :=
  ⟨fun b o hb e => (hs.2 b (fun q => hb (q ▸ ha))).trans e, fun b o e => by
    by_cases hb : b = a
    · subst hb; exact ho
    · exact ⟨o, (hs.2 b hb).trans e⟩, rfl, .refl _, ht⟩

/-! ## types of values -/
structure Ty where
  P : View → Value → Prop
  mono : ∀ V W v, Le V W → P V v → P W v
def tD (d : PyData) : Ty := ⟨fun V v => Rd V v d, fun _ _ _ h => Rd.mono h⟩
def tV (v₀ : Value) : Ty := ⟨fun _ v => v = v₀, fun _ _ _ _ h => h⟩
abbrev tS (x : Str) : Ty := tD (.str x)
abbrev tI (x : Int) : Ty := tD (.int x)
abbrev tB (x : Bool) : Ty := tD (.bool x)

inductive TAll (V : View) : List Ty → List Value → Prop
  | nil : TAll V [] []
  | cons {T Ts v vs} : T.P V v → TAll V Ts vs → TAll V (T :: Ts) (v :: vs)
theorem TAll.mono {V W : View} (h : Le V W) {Ts : List Ty} {vs : List Value} (x : TAll V Ts vs) : TAll W Ts vs := by
  induction x with
  | nil => exact .nil
  | cons a _ ih => exact .cons (Ty.mono _ _ _ _ h a) ih

/-! ## the top -/
def theDefs : List (Str × Arguments × List Stmt × Scope) := Challenge.pw_pk0090_01.main.body.filterMap fun st => match st with
  | .FunctionDef n a b _ _ _ sc _ _ _ => some (n, a, b, sc)
  | _ => none

def bodyOf : Stmt → List Stmt
  | .ClassDef _ _ _ b _ _ _ _ _ _ _ => b
  | _ => []
def defIn (l : List Stmt) : List (Str × Arguments × List Stmt × Scope) := l.filterMap fun st => match st with
  | .FunctionDef n a b _ _ _ sc _ _ _ => some (n, a, b, sc)
  | _ => none
def classDefs : List (Str × Arguments × List Stmt × Scope) := defIn (Challenge.pw_pk0090_01.main.body.flatMap bodyOf)
abbrev qDef (nm q : Str) (params : Arguments) (body : List Stmt) (scope : Scope) (pm cd doc : Value) : FuncData := { Calls.docDef nm params body scope pm cd doc with qualname := q }

/-- what is known of the class at the top -/
structure KOk (K : W.Frag) : Prop where
  makes : W.makesIn K 67 = true
  init : W.findIn K (.ref 67) "__init__" = some (some (.ref 35))
  initT : W.typeIn K (.ref 35) = some (.type "function")
  initO : ∀ d, classDefs[0]? = some d → ∃ o pm doc, K.lookup 35 = some o ∧ o.data = .func (qDef d.1 "HTTPPasswordMgr.__init__" d.2.1 d.2.2.1 d.2.2.2 pm (.ref 34) doc)
  initC : W.codeIn K (.ref 34) "HTTPPasswordMgr.__init__" = true
  setA : W.findIn K (.ref 67) "__setattr__" = some (some (.builtin "object.__setattr__"))
  over : W.plainOver K 67 = true
  taker : W.takerIn K 67 "passwd" = some none
  hasDict : (W.clsIn K 67).any (·.hasDict) = true
  getA : W.findIn K (.ref 67) "__getattribute__" = some (some (.builtin "object.__getattribute__"))
  getH : W.findIn K (.ref 67) "__getattr__" = some none
  meth : W.findIn K (.ref 67) "is_suburi" = some (some (.ref 64))
  methT : W.typeIn K (.ref 64) = some (.type "function")
  methO : ∀ d, classDefs[4]? = some d → ∃ o pm doc, K.lookup 64 = some o ∧ o.data = .func (qDef d.1 "HTTPPasswordMgr.is_suburi" d.2.1 d.2.2.1 d.2.2.2 pm (.ref 63) doc)
  methC : W.codeIn K (.ref 63) "HTTPPasswordMgr.is_suburi" = true
  keepC : W.keepIn K (.ref 67) = true
  keepM : W.keepIn K (.ref 64) = true

def freeNames : List Str := ["len", "range", "list", "dict", "zip", "enumerate", "isinstance", "bool", "ValueError", "IndexError"]
structure Gl (mg mb : Str → Option Value) (h : Heap) : Prop where
  free : ∀ x ∈ freeNames, mg x = none
  tick : ∃ t, mg "TICK" = some (.str "'" t)
  g : h.Ns mainGlobals mg
  b : h.Ns builtinsNs mb
  builtins : ∀ x : Str, x ≠ "__name__" → mb x = bootBuiltins x
  nolimit : h.NoLimit
  cls : mg "HTTPPasswordMgr" = some (.ref 67)
  kin : ∃ K, KOk K ∧ K.In h
  fn : ∀ d ∈ theDefs, ∃ a o pm cd doc, mg d.1 = some (.ref a) ∧ h.get? a = some o ∧ o.data = .func (Calls.docDef d.1 d.2.1 d.2.2.1 d.2.2.2 pm cd doc) ∧ h.CodeRec cd d.1
theorem Gl.keeps {mg mb : Str → Option Value} {h h' : Heap} (G : Gl mg mb h) (k : ∀ b o, h.get? b = some o → h'.get? b = some o) : Gl mg mb h' :=
  ⟨G.free, G.tick, G.g.keeps k, G.b.keeps k, G.builtins, G.nolimit.keeps k, G.cls, let ⟨K, h1, h2⟩ := G.kin; ⟨K, h1, h2.keeps k⟩, fun d hd => let ⟨a, o, pm, cd, doc, h1, h2, h3, h4⟩ := G.fn d hd; ⟨a, o, pm, cd, doc, h1, k _ _ h2, h3, h4.keeps k⟩⟩

def Room (n : Nat) (A : Around) : Prop := A.handled = none ∧ A.depth + n < recursionLimit ∧ A.units + 20 * n + 200 < cLine
theorem Room.deeper {n : Nat} {A : Around} (h : Room (n + 1) A) (env : Env) : Room n (A.deeper env) := by
  obtain ⟨a, b, c⟩ := h
  refine ⟨a, ?_, ?_⟩
  · show A.depth + 1 + n < _; omega
  · show A.units + 3 + 20 * n + 200 < _; omega
theorem Room.less {n m : Nat} {A : Around} (h : Room n A) (hm : m ≤ n) : Room m A := by
  obtain ⟨a, b, c⟩ := h
  exact ⟨a, by omega, by omega⟩
theorem Room.depth {n : Nat} {A : Around} (h : Room n A) : A.depth < recursionLimit := by have := h.2.1; omega
theorem Room.units {n : Nat} {A : Around} (h : Room n A) : A.units + 64 < cLine := by have := h.2.2; omega

/-! ## frames -/
/-- what is known of an object that only the frame at hand turns -/
structure Pn where
  P : View → Obj → Prop
  mono : ∀ V W o, Le V W → P V o → P W o
def pnAny : Pn := ⟨fun _ _ => True, fun _ _ _ _ h => h⟩
def pnIs (o₀ : Obj) : Pn := ⟨fun _ o => o = o₀, fun _ _ _ _ h => h⟩
def pnList (ds : List PyData) : Pn := ⟨fun V o => ∃ vs n, o = ⟨.type "list", none, .seq vs n, #[]⟩ ∧ RdAll V vs.toList ds, fun _ _ _ h ⟨vs, n, e, r⟩ => ⟨vs, n, e, RdAll.mono h r⟩⟩

/-- a fact that stays true as the heap grows -/
structure Gp where
  P : View → Prop
  mono : ∀ V W, Le V W → P V → P W
def gpTrue : Gp := ⟨fun _ => True, fun _ _ _ h => h⟩
def Gp.and (G H : Gp) : Gp := ⟨fun V => G.P V ∧ H.P V, fun _ _ h x => ⟨G.mono _ _ h x.1, H.mono _ _ h x.2⟩⟩

structure Fm where
  w : World
  mg : Str → Option Value
  mb : Str → Option Value
  n : Nat
  A : Around
  env : Env
  Y : List Addr
  Z : List Addr
  pn : Addr → Pn
  gh : Gp
  Xo : List Addr
  s0 : Shared

abbrev PP : Program := Challenge.pw_pk0090_01

def Has (env : Env) (h : Heap) (x : Str) (v : Value) : Prop :=
  (env.kindOf x = some .local ∧ ∃ m, h.Ns env.locals m ∧ m x = some v) ∨
  ((env.kindOf x = some .cell ∨ (env.kindOf x = some .free ∧ (x == ("__classdict__" : Str)) = false)) ∧ ∃ c, env.cells.lookup x = some c ∧ h.IsCell c (some v))

theorem Has.keeps {env : Env} {h h' : Heap} {x : Str} {v : Value} (H : Has env h x v) (k : ∀ b o, h.get? b = some o → h'.get? b = some o) : Has env h' x v := by
  rcases H with ⟨a, m, b, c⟩ | ⟨a, c, b, d⟩
  · exact .inl ⟨a, m, b.keeps k, c⟩
  · exact .inr ⟨a, c, b, d.keeps k⟩

/-- all that the frame, or one around it, may still turn -/
abbrev Fm.X (F : Fm) : List Addr := F.Y ++ (F.Z ++ F.Xo)
structure Fm.St (F : Fm) (ρ : List (Str × Ty)) (s : Shared) : Prop where
  base : Ext F.s0 s
  fresh : ∀ y ∈ F.Y, F.s0.heap.get? y = none
  dom : ∀ y ∈ F.Y, ∃ o, s.heap.get? y = some o
  domX : ∀ x ∈ F.Xo, ∃ o, F.s0.heap.get? x = some o
  gl : Gl F.mg F.mb F.s0.heap
  room : Room F.n F.A
  tok : 0 < F.s0.toks
  kind : F.env.scope.kind = .function
  glob : F.env.globals = mainGlobals
  bns : F.env.builtins = builtinsNs
  loc : F.env.locals ∈ F.Y
  ns : ∃ m, s.heap.Ns F.env.locals m
  cells : ∀ x c, F.env.cells.lookup x = some c → ∃ v, s.heap.IsCell c v
  apart : F.env.cells.Pairwise fun x y => x.2 ≠ y.2
  cellsIn : ∀ x c, F.env.cells.lookup x = some c → c ∈ F.Y ∨ ∃ o, F.s0.heap.get? c = some o
  pinNew : ∀ a ∈ F.Z, a ∉ F.Y ∧ F.s0.heap.get? a = none
  pinned : ∀ a ∈ F.Z, ∃ o, s.heap.get? a = some o ∧ (F.pn a).P (cut (vw s) F.X) o
  ghost : F.gh.P (cut (vw s) F.X)
  names : ∀ x T, ρ.lookup x = some T → ∃ v, T.P (cut (vw s) F.X) v ∧ Has F.env s.heap x v

namespace Fm
variable {F : Fm} {ρ : List (Str × Ty)} {s s' : Shared}
abbrev M (F : Fm) : Model := model PP F.w

theorem St.g (S : F.St ρ s) : Gl F.mg F.mb s.heap := S.gl.keeps S.base.all
theorem St.toks (S : F.St ρ s) : 0 < s.toks := Nat.lt_of_lt_of_le S.tok S.base.toks
theorem St.domAll (S : F.St ρ s) : ∀ x ∈ F.X, ∃ o, s.heap.get? x = some o := fun x hx => by
  rcases List.mem_append.mp hx with h | h
  · exact S.dom x h
  · rcases List.mem_append.mp h with h | h
    · obtain ⟨o, ho, _⟩ := S.pinned x h; exact ⟨o, ho⟩
    · obtain ⟨o, ho⟩ := S.domX x h; exact ⟨o, S.base.all _ _ ho⟩
theorem St.new (S : F.St ρ s) : s.heap.objs.size ∉ F.X := fun h => by
  obtain ⟨o, ho⟩ := S.domAll _ h
  exact Nat.lt_irrefl _ (Heap.lt_size ho)
theorem St.ext (S : F.St ρ s) (e : Ext s s') : F.St ρ s' :=
  ⟨S.base.trans e, S.fresh, fun y hy => let ⟨o, ho⟩ := S.dom y hy; ⟨o, e.all _ _ ho⟩, S.domX, S.gl, S.room, S.tok, S.kind, S.glob, S.bns, S.loc, let ⟨m, hm⟩ := S.ns; ⟨m, hm.keeps e.all⟩, fun x c hc => let ⟨v, hv⟩ := S.cells x c hc; ⟨v, hv.keeps e.all⟩, S.apart, S.cellsIn, S.pinNew, fun a ha => let ⟨o, h1, h2⟩ := S.pinned a ha; ⟨o, e.all _ _ h1, Pn.mono _ _ _ _ (cut_mono _ e.le) h2⟩, F.gh.mono _ _ (cut_mono _ e.le) S.ghost,
   fun x T hx => let ⟨v, h1, h2⟩ := S.names x T hx; ⟨v, T.mono _ _ _ (cut_mono _ e.le) h1, h2.keeps e.all⟩⟩
theorem St.weaken {ρ' : List (Str × Ty)} (S : F.St ρ s) (h : ∀ x T, ρ'.lookup x = some T → ρ.lookup x = some T) : F.St ρ' s :=
  { S with names := fun x T hx => S.names x T (h x T hx) }

/-- what an expression gives -/
def Ev (F : Fm) (ρ : List (Str × Ty)) (e : Expr) (T : Ty) : Prop :=
  ∀ s, F.St ρ s → ∀ (E : Value → Shared → Prop) (Q : Value → Shared → Prop), (∀ v s', Ext s s' → F.St ρ s' → T.P (cut (vw s') F.X) v → Q v s') → wpAny F.M F.A (eval e F.env) Q E s

theorem wp_toks {α : Type} {M : Model} {A : Around} {t : Sem α} {E : Value → Shared → Prop} {Q : α → Shared → Prop} (h : wpAny M A t (fun v s' => s.toks ≤ s'.toks → Q v s') E s) : wpAny M A t Q E s :=
  wpAny_mono (wpAny_toks h) (fun _ _ x => x.2 x.1) (fun _ _ x => x.2)

theorem wp_load (S : F.St ρ s) {x : Str} {v : Value} (H : Has F.env s.heap x v) {E : Value → Shared → Prop} {Q : Value → Shared → Prop} (h : Q v s) : wpAny F.M F.A (loadName F.env x) Q E s := by
  rcases H with ⟨a, m, b, c⟩ | ⟨a, c, b, d⟩
  · exact wpAny_loadName_local S.kind a b c h
  · rcases a with a | ⟨a, a'⟩
    · exact wpAny_loadName_cell S.kind a b d h
    · exact wpAny_loadName_free S.kind a b d h a'

theorem Ev.name {x : Str} {T : Ty} {pos : Pos} (hx : ρ.lookup x = some T) (hd : (x == ("__debug__" : Str)) = false := by decide) : F.Ev ρ (.Name x pos) T := fun s S E Q h => by
  obtain ⟨v, h1, h2⟩ := S.names x T hx
  exact wpAny_Name (wp_load S h2 (h v s (.refl _ _) S h1)) hd

theorem Ev.of_toks {e : Expr} {T : Ty} (h : ∀ s, F.St ρ s → ∀ (E : Value → Shared → Prop) (Q : Value → Shared → Prop), (∀ v tk, s.toks ≤ tk → T.P (cut (vw s) F.X) v → Q v { s with toks := tk }) → wpAny F.M F.A (eval e F.env) Q E s) : F.Ev ρ e T :=
  fun s S E Q k => h s S E Q fun v tk ht hv => k v _ (.toks' ht) (S.ext (.toks' ht)) hv

theorem Ev.str {x : Str} {k : Nat} {pos : Pos} : F.Ev ρ (.Constant (.str x) k pos) (tS x) := Ev.of_toks fun s _ E Q h => PySem.Calls.Constant_str (h _ _ (Nat.le_succ _) (.str _ _))
theorem Ev.int {x : Int} {k : Nat} {pos : Pos} : F.Ev ρ (.Constant (.int x) k pos) (tI x) := Ev.of_toks fun s _ E Q h => wpAny_Constant_int (h _ _ (Nat.le_succ _) (.int _ _))
theorem Ev.bool {x : Bool} {k : Nat} {pos : Pos} : F.Ev ρ (.Constant (.bool x) k pos) (tB x) := Ev.of_toks fun s _ E Q h => fun _ _ _ => h _ s.toks (Nat.le_refl _) (.bool _)
theorem Ev.none {k : Nat} {pos : Pos} : F.Ev ρ (.Constant .none k pos) (tD .none) := Ev.of_toks fun s _ E Q h => fun _ _ _ => h _ s.toks (Nat.le_refl _) .none

theorem Ev.bin {l r : Expr} {op : Operator} {pos : Pos} {T U R : Ty} (hl : F.Ev ρ l T) (hr : F.Ev ρ r U)
    (h : ∀ s, F.St ρ s → ∀ a b, T.P (cut (vw s) F.X) a → U.P (cut (vw s) F.X) b → ∀ (E : Value → Shared → Prop) (Q : Value → Shared → Prop), (∀ v s', Ext s s' → R.P (cut (vw s') F.X) v → Q v s') → wpAny F.M F.A (binaryOp op a b) Q E s) :
    F.Ev ρ (.BinOp l op r pos) R := fun s S E Q k =>
  wpAny_BinOp (hl s S E _ fun a s₁ e₁ S₁ ha => hr s₁ S₁ E _ fun b s₂ e₂ S₂ hb => h s₂ S₂ a b (T.mono _ _ _ (cut_mono _ e₂.le) ha) hb E Q fun v s' e' hv => k v s' ((e₁.trans e₂).trans e') (S₂.ext e') hv)

theorem Ev.add_str {l r : Expr} {pos : Pos} {x y : Str} (hl : F.Ev ρ l (tS x)) (hr : F.Ev ρ r (tS y)) (hsz : x.length + y.length ≤ sizeLine) : F.Ev ρ (.BinOp l .Add r pos) (tS (x ++ y)) :=
  Ev.bin hl hr fun s S a b ha hb E Q k => by
    obtain ⟨t, rfl⟩ := ha.str_inv
    obtain ⟨u, rfl⟩ := hb.str_inv
    exact wp_toks (PyProof.Rows.add_str (fun t' tk ht => k _ _ (.toks' ht) (.str _ _)) hsz)
end Fm
end Mine

/-! Fw2 -/
namespace Mine
open PySem PySem.Spec PyProof.Rows
namespace Fm
variable {F : Fm} {ρ : List (Str × Ty)} {s s' : Shared}

theorem Ev.weaken {ρ' : List (Str × Ty)} {e : Expr} {T : Ty} (h : F.Ev ρ' e T) (hw : ∀ x T, ρ'.lookup x = some T → ρ.lookup x = some T) : F.Ev ρ e T :=
  fun s S E Q k => h s (S.weaken hw) E Q fun v s' e' _ hv => k v s' e' (S.ext e') hv
theorem Ev.mono {e : Expr} {T U : Ty} (h : F.Ev ρ e T) (k : ∀ V v, T.P V v → U.P V v) : F.Ev ρ e U := fun s S E Q q => h s S E Q fun v s' e' S' hv => q v s' e' S' (k _ _ hv)
theorem Ev.to {e : Expr} {T U : Ty} (h : F.Ev ρ e T) (k : T = U) : F.Ev ρ e U := k ▸ h

/-! ## tests -/
def Ts (F : Fm) (ρ : List (Str × Ty)) (e : Expr) (b : Bool) : Prop :=
  ∀ s, F.St ρ s → ∀ (E : Value → Shared → Prop) (Q : Bool → Shared → Prop), (∀ s', Ext s s' → F.St ρ s' → Q b s') → wpAny F.M F.A (isTrue e F.env (eval e F.env)) Q E s
theorem Ts.to {e : Expr} {b c : Bool} (h : F.Ts ρ e b) (k : b = c) : F.Ts ρ e c := k ▸ h

def Cm (F : Fm) (ρ : List (Str × Ty)) (op : CmpOp) (T U : Ty) (b : Bool) : Prop :=
  ∀ s, F.St ρ s → ∀ a c, T.P (cut (vw s) F.X) a → U.P (cut (vw s) F.X) c → ∀ (E : Value → Shared → Prop) (Q : Value → Shared → Prop), (∀ s', Ext s s' → Q (.bool b) s') → wpAny F.M F.A (compareOp op a c) Q E s

theorem Ev.cmp {l r : Expr} {op : CmpOp} {pos : Pos} {T U : Ty} {b : Bool} (hl : F.Ev ρ l T) (hr : F.Ev ρ r U) (h : F.Cm ρ op T U b) (hm : behindInMarks op r = false := by with_unfolding_all rfl) : F.Ev ρ (.Compare l [op] [r] pos) (tB b) := fun s S E Q k =>
  wpAny_Compare1 (hl s S E _ fun a s₁ e₁ S₁ ha => hr s₁ S₁ E _ fun c s₂ e₂ S₂ hc => h s₂ S₂ a c (T.mono _ _ _ (cut_mono _ e₂.le) ha) hc E Q fun s' e' => k _ s' ((e₁.trans e₂).trans e') (S₂.ext e') (.bool _)) hm
theorem Ts.cmp {l r : Expr} {op : CmpOp} {pos : Pos} {T U : Ty} {b : Bool} (hl : F.Ev ρ l T) (hr : F.Ev ρ r U) (h : F.Cm ρ op T U b) (hm : behindInMarks op r = false := by with_unfolding_all rfl) : F.Ts ρ (.Compare l [op] [r] pos) b := fun s S E Q k =>
  wpAny_isTrue_Compare1 (hl s S E _ fun a s₁ e₁ S₁ ha => hr s₁ S₁ E _ fun c s₂ e₂ S₂ hc => h s₂ S₂ a c (T.mono _ _ _ (cut_mono _ e₂.le) ha) hc E _ fun s' e' => wpAny_truthy_bool (k s' ((e₁.trans e₂).trans e') (S₂.ext e'))) hm
theorem Ts.ev {e : Expr} {b : Bool} (h : F.Ev ρ e (tB b)) (he : ∀ whole, isTrue e F.env whole = (do let v ← whole; standAt e.pos; holding [v] (truthy v)) := by intro _; rfl) : F.Ts ρ e b := fun s S E Q k =>
  isTrue_plain (h s S E _ fun v s' e' S' hv => by obtain rfl := hv.bool_inv; exact wpAny_truthy_bool (k s' e' S')) (he _)
theorem Ts.not {e : Expr} {pos : Pos} {b : Bool} (h : F.Ts ρ e b) : F.Ts ρ (.UnaryOp .Not e pos) (!b) := fun s S E Q k => isTrue_not (h s S E _ k)
theorem isTrue_BoolOp {op : BoolOp} {l : List Expr} {pos : Pos} {env : Env} {w1 w2 : Sem Value} : isTrue (.BoolOp op l pos) env w1 = isTrue (.BoolOp op l pos) env w2 := rfl
theorem Ts.and1 {e : Expr} {pos : Pos} {b : Bool} (h : F.Ts ρ e b) : F.Ts ρ (.BoolOp .And [e] pos) b := fun s S E Q k => isTrue_and (h s S E _ fun s' e' S' => by
  cases b
  · exact k s' e' S'
  · exact isTrue_and_nil (k s' e' S'))
theorem Ts.and {e e' : Expr} {r : List Expr} {pos : Pos} {b c : Bool} (h : F.Ts ρ e b) (hr : b = true → F.Ts ρ (.BoolOp .And (e' :: r) pos) c) : F.Ts ρ (.BoolOp .And (e :: e' :: r) pos) (b && c) := fun s S E Q k =>
  isTrue_and (h s S E _ fun s' e' S' => by
    cases b
    · exact k s' e' S'
    · exact hr rfl s' S' E Q fun s'' e'' S'' => k s'' (e'.trans e'') S'')
theorem Ts.or1 {e : Expr} {pos : Pos} {b : Bool} (h : F.Ts ρ e b) : F.Ts ρ (.BoolOp .Or [e] pos) b := fun s S E Q k => isTrue_or (h s S E _ fun s' e' S' => by
  cases b
  · exact isTrue_or_nil (k s' e' S')
  · exact k s' e' S')
theorem Ts.or {e e' : Expr} {r : List Expr} {pos : Pos} {b c : Bool} (h : F.Ts ρ e b) (hr : b = false → F.Ts ρ (.BoolOp .Or (e' :: r) pos) c) : F.Ts ρ (.BoolOp .Or (e :: e' :: r) pos) (b || c) := fun s S E Q k =>
  isTrue_or (h s S E _ fun s' e' S' => by
    cases b
    · exact hr rfl s' S' E Q fun s'' e'' S'' => k s'' (e'.trans e'') S''
    · exact k s' e' S')
theorem Ev.bop1 {op : BoolOp} {e : Expr} {pos : Pos} {T : Ty} (h : F.Ev ρ e T) : F.Ev ρ (.BoolOp op [e] pos) T := fun s S E Q k => BoolOp_one (h s S E Q k)
theorem Ev.and {e e' : Expr} {r : List Expr} {pos : Pos} {b c : Bool} (h : F.Ev ρ e (tB b)) (hr : b = true → F.Ev ρ (.BoolOp .And (e' :: r) pos) (tB c)) : F.Ev ρ (.BoolOp .And (e :: e' :: r) pos) (tB (b && c)) := fun s S E Q k =>
  BoolOp_and (h s S E _ fun v s' e' S' hv => by
    obtain rfl := hv.bool_inv
    refine wpAny_truthy_bool ?_
    cases b
    · exact k _ s' e' S' hv
    · exact hr rfl s' S' E Q fun v s'' e'' S'' hv => k v s'' (e'.trans e'') S'' hv)
theorem Ev.or {e e' : Expr} {r : List Expr} {pos : Pos} {b c : Bool} (h : F.Ev ρ e (tB b)) (hr : b = false → F.Ev ρ (.BoolOp .Or (e' :: r) pos) (tB c)) : F.Ev ρ (.BoolOp .Or (e :: e' :: r) pos) (tB (b || c)) := fun s S E Q k =>
  BoolOp_or (h s S E _ fun v s' e' S' hv => by
    obtain rfl := hv.bool_inv
    refine wpAny_truthy_bool ?_
    cases b
    · exact hr rfl s' S' E Q fun v s'' e'' S'' hv => k v s'' (e'.trans e'') S'' hv
    · exact k _ s' e' S' hv)
theorem Ev.ite {test body orelse : Expr} {pos : Pos} {b : Bool} {T : Ty} (h : F.Ts ρ test b) (h1 : b = true → F.Ev ρ body T) (h2 : b = false → F.Ev ρ orelse T) : F.Ev ρ (.IfExp test body orelse pos) T := fun s S E Q k =>
  IfExp_ (h s S E _ fun s' e' S' => by
    cases b
    · exact h2 rfl s' S' E Q fun v s'' e'' S'' hv => k v s'' (e'.trans e'') S'' hv
    · exact h1 rfl s' S' E Q fun v s'' e'' S'' hv => k v s'' (e'.trans e'') S'' hv)

/-! ## comparisons -/
theorem Cm.eq_str {x y : Str} : F.Cm ρ .Eq (tS x) (tS y) (x == y) := fun s S a c ha hc E Q k => by
  obtain ⟨t, rfl⟩ := ha.str_inv; obtain ⟨u, rfl⟩ := hc.str_inv
  exact PyProof.Rows.eq_str (k s (.refl _ _))
theorem Cm.ne_str {x y : Str} : F.Cm ρ .NotEq (tS x) (tS y) (x != y) := fun s S a c ha hc E Q k => by
  obtain ⟨t, rfl⟩ := ha.str_inv; obtain ⟨u, rfl⟩ := hc.str_inv
  exact PyProof.Rows.ne_str (k s (.refl _ _))
theorem Cm.in_str {x y : Str} : F.Cm ρ .In (tS y) (tS x) (!(Builtin.Str.occurrences x y 0 x.length 1).isEmpty) := fun s S a c ha hc E Q k => by
  obtain ⟨t, rfl⟩ := ha.str_inv; obtain ⟨u, rfl⟩ := hc.str_inv
  exact PyProof.Rows.in_str (k s (.refl _ _))
theorem Cm.notIn_str {x y : Str} : F.Cm ρ .NotIn (tS y) (tS x) (!(!(Builtin.Str.occurrences x y 0 x.length 1).isEmpty)) := fun s S a c ha hc E Q k => by
  obtain ⟨t, rfl⟩ := ha.str_inv; obtain ⟨u, rfl⟩ := hc.str_inv
  exact PyProof.Rows.notIn_str (k s (.refl _ _))
theorem Cm.eq_data {da db : PyData} (ha : SeqAt.shaped da = true) (hb : SeqAt.shaped db = true) : F.Cm ρ .Eq (tD da) (tD db) (PyData.eqv da db) := fun s S a c h1 h2 E Q k => by
  obtain ⟨as, r1⟩ := Rd.reads (cut_le _ _) h1
  obtain ⟨bs, r2⟩ := Rd.reads (cut_le _ _) h2
  exact eq_dataH r1 r2 ha hb S.room.units (k s (.refl _ _))
theorem Cm.ne_data {da db : PyData} (ha : SeqAt.shaped da = true) (hb : SeqAt.shaped db = true) : F.Cm ρ .NotEq (tD da) (tD db) (!PyData.eqv da db) := fun s S a c h1 h2 E Q k => by
  obtain ⟨as, r1⟩ := Rd.reads (cut_le _ _) h1
  obtain ⟨bs, r2⟩ := Rd.reads (cut_le _ _) h2
  exact ne_dataH r1 r2 ha hb S.room.units (k s (.refl _ _))

/-! ## displays -/
def Evs (F : Fm) (ρ : List (Str × Ty)) (es : List Expr) (Ts : List Ty) : Prop :=
  ∀ (pos : Pos) s, F.St ρ s → ∀ (E : Value → Shared → Prop) (Q : List Value → Shared → Prop), (∀ vs s', Ext s s' → F.St ρ s' → TAll (cut (vw s') F.X) Ts vs → Q vs s') → wpAny F.M F.A (spliced (backTo pos (starEach es F.env))) Q E s
theorem Evs.nil : F.Evs ρ [] [] := fun pos s S E Q k => args_nil (k [] s (.refl _ _) S .nil)
theorem Evs.cons {e : Expr} {es : List Expr} {T : Ty} {Ts : List Ty} (h : F.Ev ρ e T) (hs : F.Evs ρ es Ts) (he : starEach (e :: es) F.env = (false, eval e F.env) :: starEach es F.env := by rfl) : F.Evs ρ (e :: es) (T :: Ts) := fun pos s S E Q k =>
  args_cons (h s S E _ fun v s₁ e₁ S₁ hv => hs pos s₁ S₁ E _ fun vs s₂ e₂ S₂ hvs => k _ s₂ (e₁.trans e₂) S₂ (.cons (T.mono _ _ _ (cut_mono _ e₂.le) hv) hvs)) he
theorem TAll.rd {V : View} {ds : List PyData} : ∀ {vs : List Value}, TAll V (ds.map tD) vs → RdAll V vs ds := by
  induction ds with
  | nil => intro vs h; cases h; exact .nil
  | cons d ds ih => intro vs h; cases h with | cons a b => exact .cons a (ih b)

theorem Le.push (h : Heap) (o : Obj) : Le (fun b => h.get? b) (fun b => (h.push o).get? b) := fun _ _ e => Heap.get?_push_of_some _ e
theorem Ext.push (s : Shared) (o : Obj) : Ext s { s with heap := s.heap.push o } := Ext.mk' (fun _ _ e => Heap.get?_push_of_some _ e) (Nat.le_refl _)

theorem wp_newTuple (S : F.St ρ s) {vs : List Value} {ds : List PyData} (hv : RdAll (cut (vw s) F.X) vs ds) (hsz : ds.length ≤ sizeLine) {E : Value → Shared → Prop} {Q : Value → Shared → Prop}
    (k : ∀ v s', Ext s s' → Rd (cut (vw s') F.X) v (.tuple ds) → Q v s') : wpAny F.M F.A (newTuple vs) Q E s :=
  wpAny_newObj_type (k _ _ (Ext.push s _) (.tuple (cut_mk S.new (Heap.get?_push_size _ rfl)) (by simpa using RdAll.mono (cut_mono _ (Le.push _ _)) hv))) (by show vs.toArray.size ≤ sizeLine; rw [List.size_toArray, hv.length]; exact hsz)
theorem wp_newList (S : F.St ρ s) {vs : List Value} {ds : List PyData} (hv : RdAll (cut (vw s) F.X) vs ds) (hsz : ds.length ≤ sizeLine) {E : Value → Shared → Prop} {Q : Value → Shared → Prop}
    (k : ∀ v s', Ext s s' → Rd (cut (vw s') F.X) v (.list ds) → Q v s') : wpAny F.M F.A (newList vs) Q E s :=
  wpAny_newObj_type (k _ _ (Ext.push s _) (.list (cut_mk S.new (Heap.get?_push_size _ rfl)) (by simpa using RdAll.mono (cut_mono _ (Le.push _ _)) hv))) (by show vs.toArray.size ≤ sizeLine; rw [List.size_toArray, hv.length]; exact hsz)

theorem Ev.tuple {es : List Expr} {k : Nat} {pos : Pos} {ds : List PyData} (h : F.Evs ρ es (ds.map tD)) (hsz : ds.length ≤ sizeLine := by simp only [List.length_cons, List.length_nil]; decide) : F.Ev ρ (.Tuple es k pos) (tD (.tuple ds)) := fun s S E Q q =>
  Tuple_ (h pos s S E _ fun vs s' e' S' hv => wp_newTuple S' (TAll.rd hv) hsz fun v s'' e'' hr => q v s'' (e'.trans e'') (S'.ext e'') hr)
theorem Ev.list {es : List Expr} {pos : Pos} {ds : List PyData} (h : F.Evs ρ es (ds.map tD)) (hsz : ds.length ≤ sizeLine := by simp only [List.length_cons, List.length_nil]; decide) : F.Ev ρ (.List es pos) (tD (.list ds)) := fun s S E Q q =>
  List_ (h pos s S E _ fun vs s' e' S' hv => wp_newList S' (TAll.rd hv) hsz fun v s'' e'' hr => q v s'' (e'.trans e'') (S'.ext e'') hr)

/-! ## methods of a str -/
theorem Ev.strMeth {o : Expr} {name : Str} {apos pos : Pos} {args : List Expr} {x : Str} {id : String} {Us : List Ty} {R : Ty} (slot : Slot "str" name id) (ty : typeOf (.builtin id) = pure (.type "method_descriptor"))
    (ho : F.Ev ρ o (tS x)) (ha : F.Evs ρ args Us)
    (hc : ∀ s, F.St ρ s → ∀ t vs, TAll (cut (vw s) F.X) Us vs → ∀ (E : Value → Shared → Prop) (Q : Value → Shared → Prop), (∀ v s', Ext s s' → R.P (cut (vw s') F.X) v → Q v s') → wpAny F.M F.A (call (.builtin id) (.str x t :: vs)) Q E s)
    (hbase : attributeBase o name F.env (eval o F.env) = eval o F.env := by rfl)
    (hfew : ((backTo pos (starEach args F.env)).all (fun x => !x.1) && (backToKw pos (keywordEach [] F.env)).all (fun x => x.1.isSome)
      && decide (args.length + ([] : List Keyword).length + (if ([] : List Keyword).isEmpty then 0 else 1) < 30)) = true := by rfl)
    (hline : (apos.endLine == pos.line) = true := by rfl) (hplain : (backTo pos (starEach args F.env)).any (·.1) = false := by rfl) :
    F.Ev ρ (.Call (.Attribute o name apos) args [] pos) R := fun s S E Q k =>
  wpAny_Call_method_lateS hbase hfew hline (ho s S E _ fun ov s₁ e₁ S₁ hv => by
    obtain ⟨t, rfl⟩ := hv.str_inv
    refine ⟨"str", id, PySem.F.plainAttrs_str, slot, ty, typeIs_str _ _ _, (fun _ e => nomatch e), ?_⟩
    refine Calls.callWith_builtin hplain ?_
    have key : wpAny F.M F.A (spliced (backTo pos (starEach args F.env))) (fun vs s₂ => wpAny F.M F.A (call (.builtin id) (.str x t :: vs)) Q E s₂) E s₁ :=
      ha pos s₁ S₁ E _ fun vs s₂ e₂ S₂ hvs => hc s₂ S₂ t vs hvs E Q fun v s' e' hv => k v s' ((e₁.trans e₂).trans e') (S₂.ext e') hv
    cases hb : backTo pos (starEach args F.env) with
    | nil =>
      rw [hb] at key
      refine PyProof.Rows.evalArgs_none ?_
      exact fun Γ p hΓ => (show wpAny F.M F.A (call (.builtin id) [.str x t]) Q E s₁ from key Γ p hΓ) Γ p hΓ
    | cons y r =>
      obtain ⟨st, tr⟩ := y
      have : st = false := by rw [hb] at hplain; simpa using (List.any_eq_false.mp hplain) (st, tr) (by simp)
      subst this
      rw [hb] at key
      exact Calls.evalArgs_plain (wpAny_mono key (fun _ _ x => by simpa using x) fun _ _ x => x))
end Fm
end Mine

/-! Fw3 -/
namespace Mine
open PySem PySem.Spec PyProof.Rows

theorem cell_ne_ns {h : Heap} {c L : Addr} {v : Option Value} {m : Str → Option Value} (x : h.IsCell c v) (y : h.Ns L m) : c ≠ L := by
  rintro rfl
  obtain ⟨o, ho, hd⟩ := x
  obtain ⟨o', es, ep, ho', hd', _⟩ := y
  rw [ho] at ho'; cases ho'
  rw [hd] at hd'; cases hd'

namespace Fm
variable {F : Fm} {ρ : List (Str × Ty)} {s s' : Shared}

def setPin (F : Fm) (a : Addr) (P : Pn) : Fm := { F with pn := fun b => if b = a then P else F.pn b }
def withPn (F : Fm) (pn : Addr → Pn) : Fm := { F with pn := pn }
def add (F : Fm) (a : Addr) (P : Pn) (G : Gp := gpTrue) : Fm := { F with Z := a :: F.Z, pn := fun b => if b = a then P else F.pn b, gh := F.gh.and G }

theorem St.ne_loc (S : F.St ρ s) {a : Addr} (ha : a ∈ F.Z) : a ≠ F.env.locals := fun q => (S.pinNew a ha).1 (q ▸ S.loc)
theorem St.ne_cell (S : F.St ρ s) {a : Addr} (ha : a ∈ F.Z) {x : Str} {c : Addr} (hc : F.env.cells.lookup x = some c) : c ≠ a := fun q => by
  rcases S.cellsIn x c hc with h | ⟨o, h⟩
  · exact (S.pinNew a ha).1 (q ▸ h)
  · rw [q, (S.pinNew a ha).2] at h; cases h

/-- a pinned object is turned -/
theorem St.repin {a : Addr} {P : Pn} (S : F.St ρ s) (ha : a ∈ F.Z) (e : ExtB [a] s s') (hP : ∃ o, s'.heap.get? a = some o ∧ P.P (cut (vw s') F.X) o) : (F.setPin a P).St ρ s' := by
  have keep : ∀ b o, b ≠ a → s.heap.get? b = some o → s'.heap.get? b = some o := fun b o hb h => e.keep b o (by simpa using hb) h
  have aX : a ∈ F.X := List.mem_append_right _ (List.mem_append_left _ ha)
  have le : Le (cut (vw s) F.X) (cut (vw s') F.X) := fun b o h => cut_mk (cut_of h).1 (keep b o (fun q => (cut_of h).1 (q ▸ aX)) (cut_of h).2)
  have ns : ∀ {m}, s.heap.Ns F.env.locals m → s'.heap.Ns F.env.locals m := fun hm => hm.at fun o h => keep _ o (Ne.symm (S.ne_loc ha)) h
  have cl : ∀ {x c v}, F.env.cells.lookup x = some c → s.heap.IsCell c v → s'.heap.IsCell c v := fun hx ⟨o, ho, hd⟩ => ⟨o, keep _ o (S.ne_cell ha hx) ho, hd⟩
  refine ⟨⟨fun b o _ h => keep b o (fun q => ?_) (S.base.all b o h), fun b o h => let ⟨o', h'⟩ := S.base.there b o h; e.there b o' h', e.os.trans S.base.os, S.base.gens.trans e.gens, Nat.le_trans S.base.toks e.toks⟩,
    S.fresh, fun y hy => let ⟨o, ho⟩ := S.dom y hy; e.there y o ho, S.domX, S.gl, S.room, S.tok, S.kind, S.glob, S.bns, S.loc, let ⟨m, hm⟩ := S.ns; ⟨m, ns hm⟩, fun x c hx => let ⟨v, hv⟩ := S.cells x c hx; ⟨v, cl hx hv⟩, S.apart, S.cellsIn, S.pinNew, fun b hb => ?_, F.gh.mono _ _ le S.ghost, fun x T hx => ?_⟩
  · have h0 : F.s0.heap.get? b = some o := h
    rw [q, (S.pinNew a ha).2] at h0; cases h0
  · by_cases hba : b = a
    · subst hba; obtain ⟨o, h1, h2⟩ := hP; exact ⟨o, h1, by simpa [setPin] using h2⟩
    · obtain ⟨o, h1, h2⟩ := S.pinned b hb; exact ⟨o, keep _ _ hba h1, by simpa [setPin, hba] using Pn.mono _ _ _ _ le h2⟩
  · obtain ⟨v, h1, h2⟩ := S.names x T hx
    refine ⟨v, T.mono _ _ _ le h1, ?_⟩
    rcases h2 with ⟨a, m, b, c⟩ | ⟨a, c, b, d⟩
    · exact .inl ⟨a, m, ns b, c⟩
    · exact .inr ⟨a, c, b, cl b d⟩

/-- a new object is pinned -/
theorem St.pin {a : Addr} {P : Pn} {G : Gp} (S : F.St ρ s) (e : Ext s s') (ha : s.heap.get? a = none) (hP : ∃ o, s'.heap.get? a = some o ∧ P.P (cut (vw s) F.X) o) (hG : G.P (cut (vw s') (F.add a P G).X)) : (F.add a P G).St ρ s' := by
  have haX : a ∉ F.X := fun h => by obtain ⟨o, ho⟩ := S.domAll a h; rw [ha] at ho; cases ho
  have hs0 : F.s0.heap.get? a = none := by
    cases h : F.s0.heap.get? a with
    | none => rfl
    | some o => rw [S.base.all _ _ h] at ha; cases ha
  have le : Le (cut (vw s) F.X) (cut (vw s') (F.add a P G).X) := fun b o h => cut_mk (fun hb => by
    rcases List.mem_append.mp hb with q | q
    · exact (cut_of h).1 (List.mem_append_left _ q)
    · rcases List.mem_append.mp q with q | q
      · rcases List.mem_cons.mp q with q | q
        · subst q; have := (cut_of h).2; rw [show vw s b = none from ha] at this; cases this
        · exact (cut_of h).1 (List.mem_append_right _ (List.mem_append_left _ q))
      · exact (cut_of h).1 (List.mem_append_right _ (List.mem_append_right _ q))) (e.all _ _ (cut_of h).2)
  have S' := S.ext e
  refine ⟨S'.base, S.fresh, S'.dom, S.domX, S.gl, S.room, S.tok, S.kind, S.glob, S.bns, S.loc, S'.ns, S'.cells, S.apart, S.cellsIn, fun b hb => ?_, fun b hb => ?_, ⟨F.gh.mono _ _ le S.ghost, hG⟩, fun x T hx => ?_⟩
  · rcases List.mem_cons.mp hb with q | q
    · subst q; exact ⟨fun h => haX (List.mem_append_left _ h), hs0⟩
    · exact S.pinNew b q
  · by_cases hba : b = a
    · subst hba; obtain ⟨o, h1, h2⟩ := hP; exact ⟨o, h1, by simpa [add] using P.mono _ _ _ le h2⟩
    · have hb' : b ∈ F.Z := by rcases List.mem_cons.mp hb with q | q; exact absurd q hba; exact q
      obtain ⟨o, h1, h2⟩ := S.pinned b hb'; exact ⟨o, e.all _ _ h1, by simpa [add, hba] using Pn.mono _ _ _ _ le h2⟩
  · obtain ⟨v, h1, h2⟩ := S.names x T hx
    exact ⟨v, T.mono _ _ _ le h1, h2.keeps e.all⟩

/-- fewer pins -/
theorem St.unpin {a : Addr} {P : Pn} {G : Gp} (S : (F.add a P G).St ρ s) (ha : a ∉ F.Z) : F.St ρ s := by
  have le : Le (cut (vw s) (F.add a P G).X) (cut (vw s) F.X) := cut_sub fun x hx => by
    rcases List.mem_append.mp hx with q | q
    · exact List.mem_append_left _ q
    · rcases List.mem_append.mp q with q | q
      · exact List.mem_append_right _ (List.mem_append_left _ (List.mem_cons_of_mem _ q))
      · exact List.mem_append_right _ (List.mem_append_right _ q)
  refine ⟨S.base, S.fresh, S.dom, S.domX, S.gl, S.room, S.tok, S.kind, S.glob, S.bns, S.loc, S.ns, S.cells, S.apart, S.cellsIn, fun b hb => S.pinNew b (List.mem_cons_of_mem _ hb), fun b hb => ?_, F.gh.mono _ _ le S.ghost.1, fun x T hx => ?_⟩
  · obtain ⟨o, h1, h2⟩ := S.pinned b (List.mem_cons_of_mem _ hb)
    have hba : b ≠ a := fun q => ha (q ▸ hb)
    exact ⟨o, h1, Pn.mono _ _ _ _ le (by simpa [add, hba] using h2)⟩
  · obtain ⟨v, h1, h2⟩ := S.names x T hx
    exact ⟨v, T.mono _ _ _ le h1, h2⟩

theorem wp_storeZ {x : Str} {T : Ty} {v : Value} (S : F.St ρ s) (hv : T.P (cut (vw s) F.X) v) (hk : F.env.kindOf x = some .local) {E : Value → Shared → Prop} {Q : Unit → Shared → Prop}
    (h : ∀ s', F.St ((x, T) :: ρ) s' → ExtB [F.env.locals] s s' → s'.heap.objs.size = s.heap.objs.size → Q () s') : wpAny F.M F.A (storeName F.env x v) Q E s := by
  obtain ⟨m, hm⟩ := S.ns
  refine wpAny_storeName_local hk hm (fun h' hn hs => ?_) (by rw [S.kind]; rfl)
  have eb : ExtB [F.env.locals] s { s with heap := h', toks := s.toks + 1 } := ExtB.sameBut hs (by simp) (by obtain ⟨o, _, _, ho, _⟩ := hn; exact ⟨o, ho⟩) (Nat.le_succ _)
  refine h _ ?_ eb hs.1
  have keep : ∀ b o, b ≠ F.env.locals → s.heap.get? b = some o → h'.get? b = some o := fun b o hb h => (hs.2 b hb).trans h
  have le : Le (cut (vw s) F.X) (cut (fun b => h'.get? b) F.X) := fun b o h => cut_mk (cut_of h).1 (keep b o (fun q => (cut_of h).1 (q ▸ List.mem_append_left _ S.loc)) (cut_of h).2)
  have cl : ∀ {c v}, s.heap.IsCell c v → h'.IsCell c v := fun hc => hc.sameBut hs (cell_ne_ns hc hm)
  refine ⟨⟨fun b o _ h => keep b o (fun q => ?_) (S.base.all b o h), fun b o h => let ⟨o', h'⟩ := S.base.there b o h; eb.there b o' h', S.base.os, S.base.gens, Nat.le_trans S.base.toks (Nat.le_succ _)⟩,
    S.fresh, fun y hy => let ⟨o, ho⟩ := S.dom y hy; eb.there y o ho, S.domX, S.gl, S.room, S.tok, S.kind, S.glob, S.bns, S.loc, ⟨_, hn⟩, fun x c hx => let ⟨v, hv⟩ := S.cells x c hx; ⟨v, cl hv⟩, S.apart, S.cellsIn, S.pinNew, fun b hb => let ⟨o, h1, h2⟩ := S.pinned b hb; ⟨o, keep _ _ (S.ne_loc hb) h1, Pn.mono _ _ _ _ le h2⟩, F.gh.mono _ _ le S.ghost, fun y U hy => ?_⟩
  · have := S.fresh b (q ▸ S.loc); rw [show F.s0.heap.get? b = some o from by assumption] at this; cases this
  · by_cases hxy : y = x
    · subst hxy
      simp only [List.lookup_cons, beq_self_eq_true, Option.some.injEq] at hy
      subst hy
      exact ⟨v, T.mono _ _ _ le hv, .inl ⟨hk, _, hn, if_pos rfl⟩⟩
    · have hb : (y == x) = false := by simpa using hxy
      rw [List.lookup_cons, hb] at hy
      obtain ⟨u, h1, h2⟩ := S.names y U hy
      refine ⟨u, U.mono _ _ _ le h1, ?_⟩
      rcases h2 with ⟨a, m', b, c⟩ | ⟨a, c, b, d⟩
      · exact .inl ⟨a, _, hn, by rw [if_neg hxy, hm.agree b y, c]⟩
      · exact .inr ⟨a, c, b, cl d⟩

theorem wp_store {x : Str} {T : Ty} {v : Value} (S : F.St ρ s) (hv : T.P (cut (vw s) F.X) v) (hk : F.env.kindOf x = some .local) {E : Value → Shared → Prop} {Q : Unit → Shared → Prop}
    (h : ∀ s', F.St ((x, T) :: ρ) s' → ExtB [F.env.locals] s s' → Q () s') : wpAny F.M F.A (storeName F.env x v) Q E s := wp_storeZ S hv hk fun s' S' e' _ => h s' S' e'

theorem wp_storeC {x : Str} {T : Ty} {v : Value} {c : Addr} (S : F.St ρ s) (hv : T.P (cut (vw s) F.X) v) (hk : F.env.kindOf x = some .cell) (hc : F.env.cells.lookup x = some c) (hcY : c ∈ F.Y) {E : Value → Shared → Prop} {Q : Unit → Shared → Prop}
    (h : ∀ s', F.St ((x, T) :: ρ) s' → ExtB [c] s s' → Q () s') : wpAny F.M F.A (storeName F.env x v) Q E s := by
  obtain ⟨m, hm⟩ := S.ns
  obtain ⟨v₀, hv₀⟩ := S.cells x c hc
  refine wpAny_storeName_cell S.kind hk hc hv₀ (fun h' hn hs => ?_)
  have hcL : c ≠ F.env.locals := cell_ne_ns hv₀ hm
  have eb : ExtB [c] s { s with heap := h' } := ExtB.sameBut (tk := s.toks) hs (by simp) (by obtain ⟨o, ho, _⟩ := hn; exact ⟨o, ho⟩) (Nat.le_refl _)
  refine h _ ?_ eb
  have keep : ∀ b o, b ≠ c → s.heap.get? b = some o → h'.get? b = some o := fun b o hb h => (hs.2 b hb).trans h
  have le : Le (cut (vw s) F.X) (cut (fun b => h'.get? b) F.X) := fun b o h => cut_mk (cut_of h).1 (keep b o (fun q => (cut_of h).1 (q ▸ List.mem_append_left _ hcY)) (cut_of h).2)
  have ns : ∀ {m}, s.heap.Ns F.env.locals m → h'.Ns F.env.locals m := fun hm => hm.at fun o h => keep _ o (Ne.symm hcL) h
  have other : ∀ {y c' u}, y ≠ x → F.env.cells.lookup y = some c' → s.heap.IsCell c' u → h'.IsCell c' u := fun hyx hy hu =>
    hu.sameBut hs fun q => hyx (name_of_addr S.apart (PySem.mem_of_lookup hy) (q ▸ PySem.mem_of_lookup hc))
  refine ⟨⟨fun b o _ h => keep b o (fun q => ?_) (S.base.all b o h), fun b o h => let ⟨o', h'⟩ := S.base.there b o h; eb.there b o' h', S.base.os, S.base.gens, S.base.toks⟩,
    S.fresh, fun y hy => let ⟨o, ho⟩ := S.dom y hy; eb.there y o ho, S.domX, S.gl, S.room, S.tok, S.kind, S.glob, S.bns, S.loc, ⟨_, ns hm⟩, fun y c' hy => ?_, S.apart, S.cellsIn, S.pinNew, fun b hb => let ⟨o, h1, h2⟩ := S.pinned b hb; ⟨o, keep _ _ (Ne.symm (S.ne_cell hb hc)) h1, Pn.mono _ _ _ _ le h2⟩, F.gh.mono _ _ le S.ghost, fun y U hy => ?_⟩
  · have := S.fresh b (q ▸ hcY); rw [show F.s0.heap.get? b = some o from by assumption] at this; cases this
  · by_cases hxy : y = x
    · subst hxy; rw [hc] at hy; cases hy; exact ⟨_, hn⟩
    · obtain ⟨u, hu⟩ := S.cells y c' hy; exact ⟨u, other hxy hy hu⟩
  · by_cases hxy : y = x
    · subst hxy
      simp only [List.lookup_cons, beq_self_eq_true, Option.some.injEq] at hy
      subst hy
      exact ⟨v, T.mono _ _ _ le hv, .inr ⟨.inl hk, c, hc, hn⟩⟩
    · have hb : (y == x) = false := by simpa using hxy
      rw [List.lookup_cons, hb] at hy
      obtain ⟨u, h1, h2⟩ := S.names y U hy
      refine ⟨u, U.mono _ _ _ le h1, ?_⟩
      rcases h2 with ⟨a, m', b, d⟩ | ⟨a, c', b, d⟩
      · exact .inl ⟨a, _, ns b, d⟩
      · exact .inr ⟨a, c', b, other hxy b d⟩

/-! ## statements -/
@[irreducible] def Run (F : Fm) (st : List Stmt) (Q : Flow → Shared → Prop) (E : Value → Shared → Prop) (s : Shared) : Prop := wpAny F.M F.A (execs st F.env) Q E s
theorem Run.mk {st : List Stmt} {E : Value → Shared → Prop} {Q : Flow → Shared → Prop} (h : wpAny F.M F.A (execs st F.env) Q E s) : F.Run st Q E s := by unfold Run; exact h
theorem Run.wp {st : List Stmt} {E : Value → Shared → Prop} {Q : Flow → Shared → Prop} (h : F.Run st Q E s) : wpAny F.M F.A (execs st F.env) Q E s := by unfold Run at h; exact h
abbrev Next (F : Fm) (rest : List Stmt) (E : Value → Shared → Prop) (Q : Flow → Shared → Prop) : Flow → Shared → Prop := fun f s' => match f with | .next => F.Run rest Q E s' | f => Q f s'

theorem wp_assign {x : Str} {px pos : Pos} {e : Expr} {T : Ty} {rest : List Stmt} {E : Value → Shared → Prop} {Q : Flow → Shared → Prop} (S : F.St ρ s) (he : F.Ev ρ e T)
    (h : ∀ s', F.St ((x, T) :: ρ) s' → ExtB [F.env.locals] s s' → F.Run rest Q E s')
    (hk : F.env.kindOf x = some .local := by rfl) (hsw : swapsWith e (some (.Name x px)) pos.line F.env = pure false := by rfl) :
    F.Run (.Assign [.Name x px] e pos :: rest) Q E s :=
  .mk <| wpAny_execs_cons (wpAny_Assign_Name (he s S E _ fun v s₁ e₁ S₁ hv => wp_store S₁ hv hk fun s₂ S₂ e₂ => (h s₂ S₂ (e₁.any.trans e₂)).wp) hsw)
theorem wp_assignC {x : Str} {px pos : Pos} {e : Expr} {T : Ty} {c : Addr} {rest : List Stmt} {E : Value → Shared → Prop} {Q : Flow → Shared → Prop} (S : F.St ρ s) (he : F.Ev ρ e T)
    (hc : F.env.cells.lookup x = some c) (hcY : c ∈ F.Y) (h : ∀ s', F.St ((x, T) :: ρ) s' → ExtB [c] s s' → F.Run rest Q E s')
    (hk : F.env.kindOf x = some .cell := by rfl) (hsw : swapsWith e (some (.Name x px)) pos.line F.env = pure false := by rfl) :
    F.Run (.Assign [.Name x px] e pos :: rest) Q E s :=
  .mk <| wpAny_execs_cons (wpAny_Assign_Name (he s S E _ fun v s₁ e₁ S₁ hv => wp_storeC S₁ hv hk hc hcY fun s₂ S₂ e₂ => (h s₂ S₂ (e₁.any.trans e₂)).wp) hsw)
theorem wp_return {pos : Pos} {e : Expr} {T : Ty} {rest : List Stmt} {E : Value → Shared → Prop} {Q : Flow → Shared → Prop} (S : F.St ρ s) (he : F.Ev ρ e T)
    (h : ∀ v s', F.St ρ s' → Ext s s' → T.P (cut (vw s') F.X) v → Q (.ret v) s') : F.Run (.Return (some e) pos :: rest) Q E s :=
  .mk <| wpAny_execs_cons (wpAny_Return_some (he s S E _ fun v s₁ e₁ S₁ hv => h v s₁ S₁ e₁ hv))
theorem wp_if {pos : Pos} {test : Expr} {b : Bool} {body orelse rest : List Stmt} {E : Value → Shared → Prop} {Q : Flow → Shared → Prop} (S : F.St ρ s) (ht : F.Ts ρ test b)
    (h1 : b = true → ∀ s', F.St ρ s' → Ext s s' → F.Run body (F.Next rest E Q) E s')
    (h2 : b = false → ∀ s', F.St ρ s' → Ext s s' → F.Run orelse (F.Next rest E Q) E s') : F.Run (.If test body orelse pos :: rest) Q E s :=
  .mk <| wpAny_execs_cons (wpAny_If (ht s S E _ fun s' e' S' => by
    have go : ∀ {st : List Stmt}, F.Run st (F.Next rest E Q) E s' → wpAny F.M F.A (execs st F.env) (fun f s' => match f with | .next => wpAny F.M F.A (execs rest F.env) Q E s' | f => Q f s') E s' := fun h => wpAny_mono h.wp (fun f s'' hf => by
      cases f with
      | next => exact Run.wp hf
      | _ => exact hf) fun _ _ x => x
    cases b
    · exact go (h2 rfl s' S' e')
    · exact go (h1 rfl s' S' e')))
theorem wp_nil {E : Value → Shared → Prop} {Q : Flow → Shared → Prop} (h : Q .next s) : F.Run [] Q E s := .mk (wpAny_execs_nil h)
theorem wp_continue {pos : Pos} {rest : List Stmt} {E : Value → Shared → Prop} {Q : Flow → Shared → Prop} (h : Q .cont s) : F.Run (.Continue pos :: rest) Q E s := .mk (wpAny_execs_cons (wpAny_Continue h))
theorem wp_aug {x : Str} {px pos : Pos} {op : Operator} {e : Expr} {T U R : Ty} {rest : List Stmt} {E : Value → Shared → Prop} {Q : Flow → Shared → Prop} (S : F.St ρ s) (hx : ρ.lookup x = some T) (he : F.Ev ρ e U)
    (hop : ∀ s, F.St ρ s → ∀ a b, T.P (cut (vw s) F.X) a → U.P (cut (vw s) F.X) b → ∀ (E : Value → Shared → Prop) (Q : Value → Shared → Prop), (∀ v s', Ext s s' → R.P (cut (vw s') F.X) v → Q v s') → wpAny F.M F.A (inplaceOp op a b) Q E s)
    (h : ∀ s', F.St ((x, R) :: ρ) s' → ExtB [F.env.locals] s s' → F.Run rest Q E s') (hk : F.env.kindOf x = some .local := by rfl) :
    F.Run (.AugAssign (.Name x px) op e pos :: rest) Q E s := by
  obtain ⟨v, h1, h2⟩ := S.names x T hx
  refine .mk <| wpAny_execs_cons (wpAny_AugAssign_Name (wp_load S h2 (he s S E _ fun b s₁ e₁ S₁ hb => hop s₁ S₁ v b (T.mono _ _ _ (cut_mono _ e₁.le) h1) hb E _ fun r s₂ e₂ hr => ?_)))
  exact wp_store (S₁.ext e₂) hr hk fun s₃ S₃ e₃ => (h s₃ S₃ ((e₁.any.trans e₂.any).trans e₃)).wp

/-! ## calls of the text's defs -/
def fm (w : World) (mg mb : Str → Option Value) (n : Nat) (A : Around) (f : Str) (scope : Scope) (a : Addr) (cd : Value) (s : Shared) (X : List Addr) : Fm :=
  { w, mg, mb, n, A := A.deeper (envOf f scope s.heap.objs.size a cd), env := envOf f scope s.heap.objs.size a cd, Y := [s.heap.objs.size], Z := [], pn := fun _ => pnAny, gh := gpTrue, Xo := X, s0 := s }

/-- what a body is to give -/
def Bd (F : Fm) (ρ : List (Str × Ty)) (body : List Stmt) (T : Ty) : Prop :=
  ∀ s, F.St ρ s → F.Run body (fun fl s' => ∃ v, fl = .ret v ∧ Ext F.s0 s' ∧ T.P (cut (vw s') F.Xo) v) (fun _ _ => False) s
theorem St.fin {T : Ty} {v : Value} (S : F.St ρ s) (hv : T.P (cut (vw s) F.X) v) : ∃ v', Flow.ret v = .ret v' ∧ Ext F.s0 s ∧ T.P (cut (vw s) F.Xo) v' :=
  ⟨v, rfl, S.base, T.mono _ _ _ (cut_sub fun x hx => List.mem_append_right _ (List.mem_append_right _ hx)) hv⟩
end Fm

/-- a function object: typed arguments in, a typed value back, all that stood stays -/
def FnA (w : World) (mg mb : Str → Option Value) (n : Nat) (a : Addr) (Us : List Ty) (T : Ty) : Prop :=
  ∀ (A : Around) (s : Shared) (X : List Addr) (vals : List Value), Room n A → Gl mg mb s.heap → 0 < s.toks → (∀ x ∈ X, ∃ o, s.heap.get? x = some o) → TAll (cut (vw s) X) Us vals →
    ∀ (E : Value → Shared → Prop) (Q : Value → Shared → Prop), (∀ v s', Ext s s' → T.P (cut (vw s') X) v → Q v s') → wpAny (model PP w) A (call (.ref a) vals) Q E s
/-- a def of the text -/
def Fn (w : World) (mg mb : Str → Option Value) (n : Nat) (f : Str) (Us : List Ty) (T : Ty) : Prop := ∀ a, mg f = some (.ref a) → FnA w mg mb n a Us T


theorem call_plainQ {prog : Program} {w : World} {A : Around} {R : Result → Shared → Prop} {s : Shared} {nm q : Str} {params : Arguments} {body : List Stmt} {scope : Scope}
    {pm cd doc : Value} {a : Addr} {o : Obj} {args : List Value} {binds : List (Str × Value)}
    (hroom : A.depth < recursionLimit) (ho : s.heap.get? a = some o) (hdata : o.data = .func (qDef nm q params body scope pm cd doc)) (hlim : s.heap.NoLimit) (hcd : s.heap.CodeRec cd q)
    (hbind : bindArgs (qDef nm q params body scope pm cd doc) ⟨args, []⟩ = pure binds)
    (hloc : ∀ x ∈ binds, scope.names.lookup x.1 = some .local)
    (h : ∀ h₁, Fr s.heap s.heap.objs.size h₁ (fun x => binds.reverse.lookup x) →
      wpAny (model prog w) (A.deeper (envOf q scope s.heap.objs.size a cd)) (execs body (envOf q scope s.heap.objs.size a cd))
        (fun f s' => R (.ok (.ret (match f with | .ret v => v | _ => .none))) s')
        (fun e s' => wpAny (model prog w) (A.deeper (envOf q scope s.heap.objs.size a cd)) (leaving (envOf q scope s.heap.objs.size a cd) e)
          (fun _ s'' => R (.error e) s'') (fun e' s'' => R (.error e') s'') s')
        { s with heap := h₁, toks := s.toks + binds.length })
    (hco : scope.isCoroutine = false := by rfl) (hgen : scope.isGenerator = false := by rfl) (hk : scope.kind = .function := by rfl)
    (hcell : ∀ x ∈ scope.names, x.2 ≠ .cell := by decide) :
    codeAny (model prog w) A (.call (.ref a) ⟨args, []⟩) R s := by
  refine codeAny_call_function hroom ho hdata hco hgen rfl hcd ?_
  rw [hbind]
  refine wpAny_pure (wpAny_newFunctionEnv hcell hloc (fun h₁ hns hsb => ⟨hlim.fresh _ hsb, ?_⟩) hk)
  show codeAny _ _ (.func body (envOf q scope s.heap.objs.size a cd)) _ _
  exact codeAny_func (h h₁ ⟨hns, fun b o e => hsb.extBut b o (Nat.ne_of_lt (Heap.lt_size e)) (Heap.get?_push_of_some _ e), Nat.le_refl _⟩)

theorem TAll.length {V : View} {Us : List Ty} {vs : List Value} (h : TAll V Us vs) : vs.length = Us.length := by
  induction h with
  | nil => rfl
  | cons _ _ ih => simp [ih]

theorem lookup_zip_rev : ∀ {xs : List Str} {vs : List Value} {Us : List Ty} {V : View}, xs.Nodup → TAll V Us vs → xs.length = Us.length → ∀ x T, (xs.zip Us).lookup x = some T → ∃ v, T.P V v ∧ (xs.zip vs).reverse.lookup x = some v := by
  intro xs
  induction xs with
  | nil => intro vs Us V _ _ _ x T h; simp at h
  | cons y xs ih =>
    intro vs Us V hn ht hl x T h
    cases ht with
    | nil => simp at hl
    | @cons U Us v vs hU hUs =>
      obtain ⟨hy, hn'⟩ := List.nodup_cons.mp hn
      simp only [List.zip_cons_cons, List.lookup_cons] at h
      simp only [List.zip_cons_cons, List.reverse_cons, List.lookup_append]
      by_cases hxy : x = y
      · subst hxy
        simp only [beq_self_eq_true, Option.some.injEq] at h
        subst h
        refine ⟨v, hU, ?_⟩
        have : (xs.zip vs).reverse.lookup x = none := by
          rw [List.lookup_eq_none_iff]
          intro p hp
          have hp' := List.mem_reverse.mp hp
          obtain ⟨q1, q2⟩ := p
          have := (List.of_mem_zip hp').1
          simp only [bne_iff_ne, ne_eq] at *
          intro q; subst q; exact hy this
        rw [this]; simp
      · have hb : (x == y) = false := by simpa using hxy
        rw [hb] at h
        obtain ⟨u, h1, h2⟩ := ih hn' hUs (by simpa using hl) x T h
        exact ⟨u, h1, by rw [h2]; rfl⟩

theorem vals1 {vals : List Value} (h : vals.length = 1) : ∃ v, vals = [v] := List.length_eq_one_iff.mp h
theorem vals2 : ∀ {vals : List Value}, vals.length = 2 → ∃ v u, vals = [v, u]
  | [v, u], _ => ⟨v, u, rfl⟩
theorem vals3 : ∀ {vals : List Value}, vals.length = 3 → ∃ v u x, vals = [v, u, x]
  | [v, u, x], _ => ⟨v, u, x, rfl⟩
theorem FnA.intro {w : World} {mg mb : Str → Option Value} {n : Nat} {a : Addr} {nm q : Str} {Us : List Ty} {T : Ty} {params : Arguments} {body : List Stmt} {scope : Scope} {xs : List Str}
    (hd : ∀ h, Gl mg mb h → ∃ o pm cd doc, h.get? a = some o ∧ o.data = .func (qDef nm q params body scope pm cd doc) ∧ h.CodeRec cd q) (hl : xs.length = Us.length)
    (hbind : ∀ pm cd doc vals, vals.length = Us.length → bindArgs (qDef nm q params body scope pm cd doc) ⟨vals, []⟩ = pure (xs.zip vals))
    (hn : xs.Nodup) (hloc : ∀ x ∈ xs, scope.names.lookup x = some .local)
    (hbody : ∀ A cd s X, Room (n + 1) A → (Fm.fm w mg mb n A q scope a cd s X).Bd (xs.zip Us) body T)
    (hco : scope.isCoroutine = false := by rfl) (hgen : scope.isGenerator = false := by rfl) (hk : scope.kind = .function := by rfl)
    (hcell : ∀ x ∈ scope.names, x.2 ≠ .cell := by decide) : FnA w mg mb (n + 1) a Us T := by
  intro A s X vals hr G ht hX hT E Q k
  obtain ⟨o, pm, cd, doc, h2, h3, h4⟩ := hd _ G
  refine wpAny_call (call_plainQ (binds := xs.zip vals) hr.depth h2 h3 G.nolimit h4 (hbind pm cd doc vals hT.length) (fun x hx => hloc _ (List.of_mem_zip (show (x.1, x.2) ∈ xs.zip vals from hx)).1) (fun h₁ F₁ => ?_) hco hgen hk hcell)
  have ext : Ext s { s with heap := h₁, toks := s.toks + (xs.zip vals).length } := Ext.mk' F₁.keep (Nat.le_add_right _ _)
  have hL : s.heap.get? s.heap.objs.size = none := by
    cases e : s.heap.get? s.heap.objs.size with
    | none => rfl
    | some o => exact absurd (Heap.lt_size e) (Nat.lt_irrefl _)
  refine wpAny_mono (Fm.Run.wp (hbody A cd s X hr { s with heap := h₁, toks := s.toks + (xs.zip vals).length } ⟨ext, ?_, ?_, hX, G, hr.deeper _, ht, hk, rfl, rfl, by simp [Fm.fm, envOf], ⟨_, F₁.ns⟩, ?_, List.Pairwise.nil, ?_, (fun _ ha => nomatch ha), (fun _ ha => nomatch ha), trivial, ?_⟩)) ?_ (fun _ _ x => x.elim)
  · intro y hy; simp [Fm.fm] at hy; subst hy; exact hL
  · intro y hy; simp [Fm.fm] at hy; subst hy; obtain ⟨o, _, _, ho, _⟩ := F₁.ns; exact ⟨o, ho⟩
  · intro x c hc; simp [Fm.fm, envOf] at hc
  · intro x c hc; simp [Fm.fm, envOf] at hc
  · intro x U hx
    obtain ⟨v, h5, h6⟩ := lookup_zip_rev hn hT hl x U hx
    refine ⟨v, U.mono _ _ _ ?_ h5, .inl ⟨?_, _, F₁.ns, h6⟩⟩
    · intro b o e
      refine cut_mk (fun hb => ?_) (F₁.keep _ _ (cut_of e).2)
      rcases List.mem_append.mp hb with hb | hb
      · simp [Fm.fm] at hb; subst hb; have h9 : s.heap.get? s.heap.objs.size = some o := (cut_of e).2; rw [h9] at hL; cases hL
      · exact (cut_of e).1 (by simpa [Fm.fm] using hb)
    · have : x ∈ xs := by
        have := PySem.mem_of_lookup hx
        exact (List.of_mem_zip this).1
      exact hloc x this
  · rintro fl s' ⟨v, rfl, h5, h6⟩
    exact k v s' h5 h6

theorem Fn.intro {w : World} {mg mb : Str → Option Value} {n : Nat} {f : Str} {Us : List Ty} {T : Ty} {params : Arguments} {body : List Stmt} {scope : Scope} {xs : List Str}
    (hd : (f, params, body, scope) ∈ theDefs) (hl : xs.length = Us.length)
    (hbind : ∀ pm cd doc vals, vals.length = Us.length → bindArgs (qDef f f params body scope pm cd doc) ⟨vals, []⟩ = pure (xs.zip vals))
    (hn : xs.Nodup) (hloc : ∀ x ∈ xs, scope.names.lookup x = some .local)
    (hbody : ∀ A a cd s X, Room (n + 1) A → (Fm.fm w mg mb n A f scope a cd s X).Bd (xs.zip Us) body T)
    (hco : scope.isCoroutine = false := by rfl) (hgen : scope.isGenerator = false := by rfl) (hk : scope.kind = .function := by rfl)
    (hcell : ∀ x ∈ scope.names, x.2 ≠ .cell := by decide) : Fn w mg mb (n + 1) f Us T := fun a hf =>
  FnA.intro (nm := f) (q := f) (fun h G => by
    obtain ⟨a', o, pm, cd, doc, h1, h2, h3, h4⟩ := G.fn _ hd
    have : a' = a := by rw [hf] at h1; cases h1; rfl
    subst this
    exact ⟨o, pm, cd, doc, h2, h3, h4⟩) hl hbind hn hloc (fun A cd s X => hbody A a cd s X) hco hgen hk hcell

namespace Fm
variable {F : Fm} {ρ : List (Str × Ty)} {s s' : Shared}
theorem wp_fnName {f : Str} {pos : Pos} {a : Addr} (S : F.St ρ s) (hf : F.mg f = some (.ref a)) {E : Value → Shared → Prop} {Q : Value → Shared → Prop} (h : Q (.ref a) s)
    (hk : F.env.kindOf f = some .globalImplicit := by rfl) (hd : (f == ("__debug__" : Str)) = false := by decide) : wpAny F.M F.A (eval (.Name f pos) F.env) Q E s :=
  Calls.Name_function_global S.kind hk (Calls.loadGlobal_global (by rw [S.glob]; exact S.g.g) hf h) hd

theorem Ev.call {f : Str} {np pos : Pos} {e : Expr} {es : List Expr} {Us : List Ty} {T : Ty} {n : Nat} {params : Arguments} {body : List Stmt} {scope : Scope} (hd : (f, params, body, scope) ∈ theDefs) (hf : Fn F.w F.mg F.mb n f Us T) (ha : F.Evs ρ (e :: es) Us) (hn : n ≤ F.n)
    (hk : F.env.kindOf f = some .globalImplicit := by rfl) (hdb : (f == ("__debug__" : Str)) = false := by decide)
    (he : eval (.Call (.Name f np) (e :: es) [] pos) F.env = (do callWith pos (← eval (.Name f np) F.env) [] (backTo pos (starEach (e :: es) F.env)) (backToKw pos (keywordEach [] F.env))) := by rfl)
    (hs : starEach (e :: es) F.env = (false, eval e F.env) :: starEach es F.env := by rfl) :
    F.Ev ρ (.Call (.Name f np) (e :: es) [] pos) T := fun s S E Q k => by
  obtain ⟨a, o, pm, cd, doc, h1, h2, h3, h4⟩ := S.g.fn _ hd
  refine PyProof.Rows.Call_ (wp_fnName S h1 ?_ hk hdb) he
  refine PyProof.Rows.callWith_def h3 (ha pos s S E _ fun vs s₁ e₁ S₁ hv => ⟨e₁.all _ _ h2, ?_⟩) hs
  exact hf a h1 F.A s₁ F.X vs (S.room.less hn) S₁.g S₁.toks S₁.domAll hv E Q fun v s' e' hv => k v s' (e₁.trans e') (S₁.ext e') hv
end Fm
end Mine

/-! Fw4 -/
namespace Mine
open PySem PySem.Spec PyProof.Rows

theorem RdAll.drop {V : View} : ∀ {vs : List Value} {ds : List PyData}, RdAll V vs ds → ∀ k : Nat, RdAll V (vs.drop k) (ds.drop k)
  | _, _, h, 0 => h
  | _, _, .nil, _ + 1 => .nil
  | _, _, .cons _ h, k + 1 => h.drop k
theorem RdAll.take {V : View} : ∀ {vs : List Value} {ds : List PyData}, RdAll V vs ds → ∀ k : Nat, RdAll V (vs.take k) (ds.take k)
  | _, _, _, 0 => .nil
  | _, _, .nil, _ + 1 => .nil
  | _, _, .cons a h, k + 1 => .cons a (h.take k)

def sl {α : Type} (ds : List α) (lo hi : Option Int) : List α := (ds.drop (lo.elim 0 (clipAt ds.length))).take (hi.elim ds.length (clipAt ds.length) - lo.elim 0 (clipAt ds.length))
theorem RdAll.pick {V : View} {vs : Array Value} {ds : List PyData} (h : RdAll V vs.toList ds) (lo hi : Option Int) : RdAll V (slicePick vs lo hi none).toList (sl ds lo hi) := by
  rw [slicePick_plain]
  have e : vs.size = ds.length := by rw [← h.length]; simp
  rw [e]
  exact (h.drop _).take _

theorem isL_of {s : Shared} {X : List Addr} {a : Addr} {vs : Array Value} {n : Nat} (h : cut (vw s) X a = some ⟨.type "list", none, .seq vs n, #[]⟩) : IsL s.heap a vs n := (cut_of h).2
theorem isList_of {s : Shared} {X : List Addr} {a : Addr} {vs : Array Value} {n : Nat} (h : cut (vw s) X a = some ⟨.type "list", none, .seq vs n, #[]⟩) : s.heap.IsList a vs := (isL_of h).isList
theorem isT_of {s : Shared} {X : List Addr} {a : Addr} {vs : Array Value} {n : Nat} (h : cut (vw s) X a = some ⟨.type "tuple", none, .seq vs n, #[]⟩) : IsT s.heap a vs n := (cut_of h).2
theorem size_of {V : View} {vs : Array Value} {ds : List PyData} (h : RdAll V vs.toList ds) : vs.size = ds.length := by rw [← h.length]; simp

/-- a slice object -/
def tSl (lo hi : Option Int) : Ty := ⟨fun V v => ∃ a vl vu, v = .ref a ∧ V a = some { cls := .type "slice", data := .fields #[vl, vu, .none] } ∧ IsPart vl lo ∧ IsPart vu hi,
  fun _ _ _ h ⟨a, vl, vu, e, q, r⟩ => ⟨a, vl, vu, e, h _ _ q, r⟩⟩

namespace Fm
variable {F : Fm} {ρ : List (Str × Ty)} {s s' : Shared}

/-! ## ints -/
theorem Ev.add_int {l r : Expr} {pos : Pos} {x y : Int} (hl : F.Ev ρ l (tI x)) (hr : F.Ev ρ r (tI y)) : F.Ev ρ (.BinOp l .Add r pos) (tI (x + y)) :=
  Ev.bin hl hr fun s S a b ha hb E Q k => by
    obtain ⟨t, rfl⟩ := ha.int_inv; obtain ⟨u, rfl⟩ := hb.int_inv
    exact PyProof.Rows.add_int (k _ _ (.toks' (Nat.le_succ _)) (.int _ _))
theorem Ev.sub_int {l r : Expr} {pos : Pos} {x y : Int} (hl : F.Ev ρ l (tI x)) (hr : F.Ev ρ r (tI y)) : F.Ev ρ (.BinOp l .Sub r pos) (tI (x - y)) :=
  Ev.bin hl hr fun s S a b ha hb E Q k => by
    obtain ⟨t, rfl⟩ := ha.int_inv; obtain ⟨u, rfl⟩ := hb.int_inv
    exact PyProof.Rows.sub_int (k _ _ (.toks' (Nat.le_succ _)) (.int _ _))
theorem Ev.mod_int {l r : Expr} {pos : Pos} {x y : Int} (hl : F.Ev ρ l (tI x)) (hr : F.Ev ρ r (tI y)) (hy : y ≠ 0) : F.Ev ρ (.BinOp l .Mod r pos) (tI (x.fmod y)) :=
  Ev.bin hl hr fun s S a b ha hb E Q k => by
    obtain ⟨t, rfl⟩ := ha.int_inv; obtain ⟨u, rfl⟩ := hb.int_inv
    exact PyProof.Rows.mod_int hy (k _ _ (.toks' (Nat.le_succ _)) (.int _ _))
theorem Ev.div_int {l r : Expr} {pos : Pos} {x y : Int} (hl : F.Ev ρ l (tI x)) (hr : F.Ev ρ r (tI y)) (hy : y ≠ 0) (hp : y.natAbs < 1073741824) : F.Ev ρ (.BinOp l .FloorDiv r pos) (tI (x.fdiv y)) :=
  Ev.bin hl hr fun s S a b ha hb E Q k => by
    obtain ⟨t, rfl⟩ := ha.int_inv; obtain ⟨u, rfl⟩ := hb.int_inv
    exact PyProof.Rows.floordiv_int hy (k _ _ (.toks' (Nat.le_succ _)) (.int _ _)) (.inl (PyProof.noPylong_small hp))
theorem Ev.mul_int {l r : Expr} {pos : Pos} {x y : Int} (hl : F.Ev ρ l (tI x)) (hr : F.Ev ρ r (tI y)) (hm : IntMulOk x y) : F.Ev ρ (.BinOp l .Mult r pos) (tI (x * y)) :=
  Ev.bin hl hr fun s S a b ha hb E Q k => by
    obtain ⟨t, rfl⟩ := ha.int_inv; obtain ⟨u, rfl⟩ := hb.int_inv
    exact PyProof.Rows.mul_int (k _ _ (.toks' (Nat.le_succ _)) (.int _ _)) hm
theorem Ev.pow_int {l r : Expr} {pos : Pos} {x y : Int} (hl : F.Ev ρ l (tI x)) (hr : F.Ev ρ r (tI y)) (hn : 0 ≤ y) (hn2 : y ≤ 1000000) (ha : x.natAbs < 2 ^ 64) : F.Ev ρ (.BinOp l .Pow r pos) (tI (x ^ y.toNat)) :=
  Ev.bin hl hr fun s S a b hx hb E Q k => by
    obtain ⟨t, rfl⟩ := hx.int_inv; obtain ⟨u, rfl⟩ := hb.int_inv
    exact PyProof.Rows.pow_int_small hn hn2 ha (k _ _ (.toks' (Nat.le_succ _)) (.int _ _))
theorem Cm.eq_int {x y : Int} : F.Cm ρ .Eq (tI x) (tI y) (x == y) := fun s S a c ha hc E Q k => by
  obtain ⟨t, rfl⟩ := ha.int_inv; obtain ⟨u, rfl⟩ := hc.int_inv
  exact PyProof.Rows.eq_int (k s (.refl _ _))
theorem Cm.ne_int {x y : Int} : F.Cm ρ .NotEq (tI x) (tI y) (x != y) := fun s S a c ha hc E Q k => by
  obtain ⟨t, rfl⟩ := ha.int_inv; obtain ⟨u, rfl⟩ := hc.int_inv
  exact PyProof.Rows.ne_int (k s (.refl _ _))
theorem Cm.lt_int {x y : Int} : F.Cm ρ .Lt (tI x) (tI y) (decide (x < y)) := fun s S a c ha hc E Q k => by
  obtain ⟨t, rfl⟩ := ha.int_inv; obtain ⟨u, rfl⟩ := hc.int_inv
  exact PyProof.Rows.lt_int (k s (.refl _ _))
theorem Cm.gt_int {x y : Int} : F.Cm ρ .Gt (tI x) (tI y) (decide (y < x)) := fun s S a c ha hc E Q k => by
  obtain ⟨t, rfl⟩ := ha.int_inv; obtain ⟨u, rfl⟩ := hc.int_inv
  exact PyProof.Rows.gt_int (k s (.refl _ _))
theorem Cm.le_int {x y : Int} : F.Cm ρ .LtE (tI x) (tI y) (decide (x ≤ y)) := fun s S a c ha hc E Q k => by
  obtain ⟨t, rfl⟩ := ha.int_inv; obtain ⟨u, rfl⟩ := hc.int_inv
  exact PyProof.Rows.le_int (k s (.refl _ _))
theorem Ev.neg_int {e : Expr} {pos : Pos} {x : Int} (h : F.Ev ρ e (tI x)) : F.Ev ρ (.UnaryOp .USub e pos) (tI (-x)) := fun s S E Q k => by
  rw [show eval (.UnaryOp .USub e pos) F.env = (do let v ← eval e F.env; standAt pos; holding [v] (unaryOp .USub v)) from rfl]
  refine wpAny_bind (h s S E _ fun v s' e' S' hv => wpAny_bind (wpAny_standAt (wpAny_holding ?_)))
  obtain ⟨t, rfl⟩ := hv.int_inv
  exact PyProof.Rows.neg_int (k _ _ (e'.trans (Ext.toks' (Nat.le_succ _))) (S'.ext (Ext.toks' (Nat.le_succ _))) (.int _ _))

/-! ## names of the built-ins -/
theorem wp_biName {x : Str} {pos : Pos} {v : Value} (S : F.St ρ s) (hv : bootBuiltins x = some v) {E : Value → Shared → Prop} {Q : Value → Shared → Prop} (h : Q v s)
    (hx : x ∈ freeNames := by decide) (hk : F.env.kindOf x = some .globalImplicit := by rfl) (hd : (x == ("__debug__" : Str)) = false := by decide) (hn : x ≠ "__name__" := by decide) : wpAny F.M F.A (eval (.Name x pos) F.env) Q E s :=
  Calls.Name_function_global S.kind hk (Calls.loadGlobal_builtin (by rw [S.glob]; exact S.g.g) (S.gl.free x hx) (by rw [S.bns]; exact S.g.b) ((S.gl.builtins x hn).trans hv) h) hd
theorem Ev.bcall {x : Str} {id : String} {np pos : Pos} {e : Expr} {es : List Expr} {Us : List Ty} {R : Ty} (hv : bootBuiltins x = some (.builtin id)) (ha : F.Evs ρ (e :: es) Us)
    (hc : ∀ s, F.St ρ s → ∀ vs, TAll (cut (vw s) F.X) Us vs → ∀ (E : Value → Shared → Prop) (Q : Value → Shared → Prop), (∀ v s', Ext s s' → R.P (cut (vw s') F.X) v → Q v s') → wpAny F.M F.A (PySem.call (.builtin id) vs) Q E s)
    (hx : x ∈ freeNames := by decide) (hk : F.env.kindOf x = some .globalImplicit := by rfl) (hd : (x == ("__debug__" : Str)) = false := by decide) (hn : x ≠ "__name__" := by decide)
    (he : eval (.Call (.Name x np) (e :: es) [] pos) F.env = (do callWith pos (← eval (.Name x np) F.env) [] (backTo pos (starEach (e :: es) F.env)) (backToKw pos (keywordEach [] F.env))) := by rfl)
    (hs : starEach (e :: es) F.env = (false, eval e F.env) :: starEach es F.env := by rfl) (hp : (backTo pos (starEach es F.env)).any (·.1) = false := by rfl) :
    F.Ev ρ (.Call (.Name x np) (e :: es) [] pos) R := fun s S E Q k =>
  PyProof.Rows.Call_ (wp_biName S hv (PyProof.Rows.callWith_builtin1 (ha pos s S E _ fun vs s₁ e₁ S₁ hvs => hc s₁ S₁ vs hvs E Q fun v s' e' h => k v s' (e₁.trans e') (S₁.ext e') h) hs hp) hx hk hd hn) he
theorem Ev.tcall {x : Str} {T : String} {np pos : Pos} {e : Expr} {es : List Expr} {Us : List Ty} {R : Ty} (hv : bootBuiltins x = some (.type T)) (ha : F.Evs ρ (e :: es) Us)
    (hc : ∀ s, F.St ρ s → ∀ vs, TAll (cut (vw s) F.X) Us vs → ∀ (E : Value → Shared → Prop) (Q : Value → Shared → Prop), (∀ v s', Ext s s' → R.P (cut (vw s') F.X) v → Q v s') → wpAny F.M F.A (PySem.call (.type T) vs) Q E s)
    (hx : x ∈ freeNames := by decide) (hk : F.env.kindOf x = some .globalImplicit := by rfl) (hd : (x == ("__debug__" : Str)) = false := by decide) (hn : x ≠ "__name__" := by decide)
    (he : eval (.Call (.Name x np) (e :: es) [] pos) F.env = (do callWith pos (← eval (.Name x np) F.env) [] (backTo pos (starEach (e :: es) F.env)) (backToKw pos (keywordEach [] F.env))) := by rfl)
    (hs : starEach (e :: es) F.env = (false, eval e F.env) :: starEach es F.env := by rfl) (hp : (backTo pos (starEach es F.env)).any (·.1) = false := by rfl) :
    F.Ev ρ (.Call (.Name x np) (e :: es) [] pos) R := fun s S E Q k =>
  PyProof.Rows.Call_ (wp_biName S hv (PyProof.Rows.callWith_type1 (ha pos s S E _ fun vs s₁ e₁ S₁ hvs => hc s₁ S₁ vs hvs E Q fun v s' e' h => k v s' (e₁.trans e') (S₁.ext e') h) hs hp) hx hk hd hn) he

theorem Ev.len_list {np pos : Pos} {e : Expr} {ds : List PyData} (h : F.Ev ρ e (tD (.list ds))) (hn : ds.length ≤ sizeLine)
    (hk : F.env.kindOf "len" = some .globalImplicit := by rfl) (he : starEach [e] F.env = (false, eval e F.env) :: starEach [] F.env := by rfl) : F.Ev ρ (.Call (.Name "len" np) [e] [] pos) (tI ds.length) :=
  Ev.bcall boot_len (Evs.cons h .nil he) (fun s S vs hvs E Q k => by
    cases hvs with
    | cons h1 h2 =>
      cases h2
      obtain ⟨a, vs, n, rfl, hl, hr⟩ := h1.list_inv
      have e1 := size_of hr
      refine PyProof.Rows.len_list (isList_of hl) (by rw [e1]; rw [sizeLine_eq] at hn; omega) ?_
      rw [e1]
      exact k _ _ (.toks' (by omega)) (.int _ _)) (hk := hk) (hs := he)
theorem Ev.len_str {np pos : Pos} {e : Expr} {x : Str} (h : F.Ev ρ e (tS x)) (hn : x.length ≤ sizeLine)
    (hk : F.env.kindOf "len" = some .globalImplicit := by rfl) (he : starEach [e] F.env = (false, eval e F.env) :: starEach [] F.env := by rfl) : F.Ev ρ (.Call (.Name "len" np) [e] [] pos) (tI x.length) :=
  Ev.bcall boot_len (Evs.cons h .nil he) (fun s S vs hvs E Q k => by
    cases hvs with
    | cons h1 h2 =>
      cases h2
      obtain ⟨t, rfl⟩ := h1.str_inv
      refine PyProof.Rows.len_str (by rw [sizeLine_eq] at hn; omega) ?_
      exact k _ _ (.toks' (by omega)) (.int _ _)) (hk := hk) (hs := he)

/-! ## subscripts -/
def Gt (F : Fm) (ρ : List (Str × Ty)) (T U R : Ty) : Prop := ∀ s, F.St ρ s → ∀ o i, T.P (cut (vw s) F.X) o → U.P (cut (vw s) F.X) i →
  ∃ Tn id, s.TypeIs o Tn ∧ typeLookup (.type Tn) "__getitem__" = pure (some (.builtin id)) ∧ ∀ (E : Value → Shared → Prop) (Q : Value → Shared → Prop), (∀ v s', Ext s s' → R.P (cut (vw s') F.X) v → Q v s') → wpAny F.M F.A (getItem o i) Q E s
theorem Ev.sub {value slice : Expr} {pos : Pos} {T U R : Ty} (hv : F.Ev ρ value T) (hs : F.Ev ρ slice U) (hg : F.Gt ρ T U R)
    (hsl : ∀ o i, ∃ ops, subscripted slice false o i = operate ops (getItem o i) := by intro o i; exact ⟨_, rfl⟩) : F.Ev ρ (.Subscript value slice pos) R := fun s S E Q k =>
  Subscript_ (hv s S E _ fun o s₁ e₁ S₁ ho => hs s₁ S₁ E _ fun i s₂ e₂ S₂ hi => by
    obtain ⟨Tn, id, h1, h2, h3⟩ := hg s₂ S₂ o i (T.mono _ _ _ (cut_mono _ e₂.le) ho) hi
    obtain ⟨ops, h4⟩ := hsl o i
    exact tail_any h1 h2 (h3 E Q fun v s' e' h => k v s' ((e₁.trans e₂).trans e') (S₂.ext e') h) h4)

theorem Gt.list {ds : List PyData} {i : Int} {d : PyData} (h0 : 0 ≤ i) (hi : i < 2 ^ 63) (hd : ds[i.toNat]? = some d) : F.Gt ρ (tD (.list ds)) (tI i) (tD d) := fun s S o j ho hj => by
  obtain ⟨a, vs, n, rfl, hl, hr⟩ := ho.list_inv
  obtain ⟨t, rfl⟩ := hj.int_inv
  obtain ⟨v, h1, h2⟩ := hr.get hd
  exact ⟨_, _, (isList_of hl).typeIs, slot_list_getitem.lookup, fun E Q k => wpAny_getItem_list (isList_of hl) h0 hi (by simpa using h1) (k v s (.refl _ _) h2)⟩
theorem Gt.tuple {ds : List PyData} {i : Int} {d : PyData} (h0 : 0 ≤ i) (hi : i < 2 ^ 63) (hd : ds[i.toNat]? = some d) : F.Gt ρ (tD (.tuple ds)) (tI i) (tD d) := fun s S o j ho hj => by
  obtain ⟨a, vs, n, rfl, hl, hr⟩ := ho.tuple_inv
  obtain ⟨t, rfl⟩ := hj.int_inv
  obtain ⟨v, h1, h2⟩ := hr.get hd
  have hlt : i.toNat < ds.length := (List.getElem?_eq_some_iff.mp hd).1
  refine ⟨"tuple", _, ⟨_, (isT_of hl), rfl⟩, slot_tuple_getitem.lookup, fun E Q k => PySem.P.getItem_tuple (isT_of hl) (by omega) hi (k := i.toNat) ?_ (by simpa using h1) (k v s (.refl _ _) h2)⟩
  rw [size_of hr]
  exact StrLaws.seqIndex_nonneg h0 (by omega)
theorem Gt.str {x : Str} {i : Int} {c : Nat} (hr : (decide (i < -(2 ^ 63 : Int)) || decide (i ≥ 2 ^ 63)) = false) (hc : (seqIndex? i x.length).bind (x.cps[·]?) = some c) : F.Gt ρ (tS x) (tI i) (tS ⟨#[c]⟩) := fun s S o j ho hj => by
  obtain ⟨t, rfl⟩ := ho.str_inv
  obtain ⟨u, rfl⟩ := hj.int_inv
  exact ⟨"str", _, typeIs_str _ _ _, slot_str_getitem.lookup, fun E Q k => PyProof.Rows.getItem_str hr hc (k _ _ (.toks' (Nat.le_succ _)) (.str _ _))⟩

inductive PartOf (F : Fm) (ρ : List (Str × Ty)) : Option Expr → Option Int → Prop
  | none : PartOf F ρ none none
  | some {e : Expr} {i : Int} : F.Ev ρ e (tI i) → PartOf F ρ (some e) (some i)
theorem PartOf.wp {x : Option Expr} {i : Option Int} (h : F.PartOf ρ x i) (S : F.St ρ s) {E : Value → Shared → Prop} {Q : Value → Shared → Prop} (k : ∀ v s', Ext s s' → F.St ρ s' → IsPart v i → Q v s') : wpAny F.M F.A (evalPart x F.env) Q E s := by
  cases h with
  | none => rw [evalPart_none]; exact wpAny_pure (k _ s (.refl _ _) S .none)
  | some h => rw [evalPart_some]; exact h s S E Q fun v s' e' S' hv => by obtain ⟨t, rfl⟩ := hv.int_inv; exact k _ s' e' S' (.int _ _)
theorem Ev.slice {lo hi : Option Expr} {p : Pos} {i j : Option Int} (h1 : F.PartOf ρ lo i) (h2 : F.PartOf ρ hi j) : F.Ev ρ (.Slice lo hi Option.none p) (tSl i j) := fun s S E Q k =>
  wpAny_Slice (h1.wp S fun vl s₁ e₁ S₁ p1 => h2.wp S₁ fun vu s₂ e₂ S₂ p2 => by
    rw [evalPart_none]
    refine wpAny_pure (k _ _ ((e₁.trans e₂).trans (Ext.push _ _)) (S₂.ext (Ext.push _ _)) ⟨_, vl, vu, rfl, cut_mk S₂.new (Heap.get?_push_size _ rfl), p1, p2⟩))
theorem Gt.listSlice {ds : List PyData} {i j : Option Int} (hn : ds.length ≤ sizeLine) : F.Gt ρ (tD (.list ds)) (tSl i j) (tD (.list (sl ds i j))) := fun s S o x ho hx => by
  obtain ⟨a, vs, n, rfl, hl, hr⟩ := ho.list_inv
  obtain ⟨b, vl, vu, rfl, hb, p1, p2⟩ := hx
  refine ⟨_, _, (isList_of hl).typeIs, slot_list_getitem.lookup, fun E Q k => wpAny_getItem_list_slice (isList_of hl) ⟨_, (cut_of hb).2, rfl, rfl⟩ p1 p2 .none (by simp) ?_ (by rw [size_of hr]; exact hn)⟩
  exact k _ _ (Ext.push _ _) (.list (cut_mk S.new (Heap.get?_push_size _ rfl)) (RdAll.mono (cut_mono _ (Le.push _ _)) (hr.pick i j)))
theorem IsPart.pair {v : Value} {i : Option Int} (h : IsPart v i) : ∃ q : Option (Int × Tok), v = partValue q ∧ q.map (·.1) = i := by
  cases h with
  | none => exact ⟨none, rfl, rfl⟩
  | int i t => exact ⟨some (i, t), rfl, rfl⟩
theorem Gt.strSlice {x : Str} {i j : Option Int} (hn : x.length ≤ sizeLine) : F.Gt ρ (tS x) (tSl i j) (tS (Txt.slice x i j)) := fun s S o y ho hy => by
  obtain ⟨t, rfl⟩ := ho.str_inv
  obtain ⟨b, vl, vu, rfl, hb, p1, p2⟩ := hy
  obtain ⟨q1, rfl, rfl⟩ := IsPart.pair p1
  obtain ⟨q2, rfl, rfl⟩ := IsPart.pair p2
  refine ⟨"str", _, typeIs_str _ _ _, slot_str_getitem.lookup, fun E Q k => wp_toks (wpAny_getItem_str_slice (l := q1) (u := q2) (st := none) ⟨_, (cut_of hb).2, rfl, rfl⟩ rfl ?_)⟩
  exact post_val_or_str ⟨Nat.le_trans (Txt.slice_le x _ _) hn, fun t' tk ht => k _ _ (.toks' ht) (.str _ _)⟩

theorem Ev.list_at {value slice : Expr} {pos : Pos} {ds : List PyData} {i : Int} {d : PyData} (hv : F.Ev ρ value (tD (.list ds))) (hs : F.Ev ρ slice (tI i)) (h0 : 0 ≤ i) (hi : i < 2 ^ 63) (hd : ds[i.toNat]? = some d)
    (hsl : ∀ o i, ∃ ops, subscripted slice false o i = operate ops (getItem o i) := by intro o i; exact ⟨_, rfl⟩) : F.Ev ρ (.Subscript value slice pos) (tD d) := Ev.sub hv hs (Gt.list h0 hi hd) hsl
theorem Ev.tup_at {value : Expr} {pos p : Pos} {k : Nat} {ds : List PyData} {i : Int} {d : PyData} (hv : F.Ev ρ value (tD (.tuple ds))) (h0 : 0 ≤ i := by decide) (hi : i < 2 ^ 63 := by decide) (hd : ds[i.toNat]? = some d := by rfl) : F.Ev ρ (.Subscript value (.Constant (.int i) k p) pos) (tD d) :=
  Ev.sub hv .int (Gt.tuple h0 hi hd)
theorem Ev.lst_at {value : Expr} {pos p : Pos} {k : Nat} {ds : List PyData} {i : Int} {d : PyData} (hv : F.Ev ρ value (tD (.list ds))) (h0 : 0 ≤ i := by decide) (hi : i < 2 ^ 63 := by decide) (hd : ds[i.toNat]? = some d := by rfl) : F.Ev ρ (.Subscript value (.Constant (.int i) k p) pos) (tD d) :=
  Ev.sub hv .int (Gt.list h0 hi hd)
theorem Ev.list_slice {value : Expr} {lo hi : Option Expr} {p pos : Pos} {ds : List PyData} {i j : Option Int} (hv : F.Ev ρ value (tD (.list ds))) (h1 : F.PartOf ρ lo i) (h2 : F.PartOf ρ hi j) (hn : ds.length ≤ sizeLine) :
    F.Ev ρ (.Subscript value (.Slice lo hi Option.none p) pos) (tD (.list (sl ds i j))) := Ev.sub hv (Ev.slice h1 h2) (Gt.listSlice hn)
theorem Ev.str_slice {value : Expr} {lo hi : Option Expr} {p pos : Pos} {x : Str} {i j : Option Int} (hv : F.Ev ρ value (tS x)) (h1 : F.PartOf ρ lo i) (h2 : F.PartOf ρ hi j) (hn : x.length ≤ sizeLine) :
    F.Ev ρ (.Subscript value (.Slice lo hi Option.none p) pos) (tS (Txt.slice x i j)) := Ev.sub hv (Ev.slice h1 h2) (Gt.strSlice hn)

/-! ## lists and strs -/
theorem Ev.add_list {l r : Expr} {pos : Pos} {xs ys : List PyData} (hl : F.Ev ρ l (tD (.list xs))) (hr : F.Ev ρ r (tD (.list ys))) (hn : xs.length + ys.length ≤ sizeLine) : F.Ev ρ (.BinOp l .Add r pos) (tD (.list (xs ++ ys))) :=
  Ev.bin hl hr fun s S a b ha hb E Q k => by
    obtain ⟨a, vs, n, rfl, h1, r1⟩ := ha.list_inv
    obtain ⟨b, us, m, rfl, h2, r2⟩ := hb.list_inv
    refine PySem.P.add_list (isL_of h1) (isL_of h2) (k _ _ (Ext.push _ _) (.list (cut_mk S.new (Heap.get?_push_size _ rfl)) (RdAll.mono (cut_mono _ (Le.push _ _)) (by rw [Array.toList_append]; exact r1.append r2)))) (by rw [size_of r1, size_of r2]; exact hn)

theorem strs_rd {V : View} : ∀ (l : List (Str × Tok)), RdAll V (strValues l) ((l.map (·.1)).map .str)
  | [] => .nil
  | (x, t) :: r => .cons (.str x t) (strs_rd r)
theorem strs_inv {V : View} : ∀ {vs : List Value} {xs : List Str}, RdAll V vs (xs.map .str) → ∃ l : List (Str × Tok), vs = strValues l ∧ l.map (·.1) = xs := by
  intro vs xs
  induction xs generalizing vs with
  | nil => intro h; cases h; exact ⟨[], rfl, rfl⟩
  | cons x xs ih =>
    intro h
    cases h with
    | cons a b =>
      obtain ⟨t, rfl⟩ := a.str_inv
      obtain ⟨l, rfl, e⟩ := ih b
      exact ⟨(x, t) :: l, rfl, by simp [e]⟩

theorem wp_split {x y : Str} {t u : Tok} (S : F.St ρ s) (hy : (y.length == 0) = false) (hx : x.length + 2 ≤ sizeLine) {E : Value → Shared → Prop} {Q : Value → Shared → Prop}
    (k : ∀ v s', Ext s s' → Rd (cut (vw s') F.X) v (.list ((Txt.split x y).map .str)) → Q v s') : wpAny F.M F.A (PySem.call (.builtin "str.split") [.str x t, .str y u]) Q E s := by
  have hn : (Builtin.Str.partsBetween x (Builtin.Str.occurrences x y 0 x.length (x.length + 1)) y.length).length ≤ sizeLine := by
    have e1 := StrLaws.occ_length_le_len x y 0 x.length (x.length + 1)
    rw [length_partsBetween]; omega
  have fin : ∀ (l : List (Str × Tok)) tk, s.toks ≤ tk → l.map (·.1) = Txt.split x y → Q (.ref s.heap.objs.size) { s with heap := s.heap.push { cls := .type "list", data := .seq (strValues l).toArray }, toks := tk } := fun l tk ht e =>
    k _ _ (Ext.mk' (fun _ _ e => Heap.get?_push_of_some _ e) ht) (.list (cut_mk S.new (Heap.get?_push_size _ rfl)) (by rw [← e]; simpa using strs_rd l))
  cases h1 : (decide (x.length < y.length) || decide (Builtin.Str.strKind x < Builtin.Str.strKind y))
  · cases hf : (Builtin.Str.occurrences x y 0 x.length (x.length + 1)).isEmpty
    · refine call_meets PySem.F.slot_str_split (typeIs_str _ _ _) PySem.F.entry_str_split (PySem.F.args_str_split_2 _ _) (meets_str_split_sep x y t u h1 hy hf (by omega) hn) ?_
      show wants Q E _ { s with toks := _, heap := s.heap.push { cls := .type "list", data := .seq (strsFrom s.toks (Builtin.Str.partsBetween x (Builtin.Str.occurrences x y 0 x.length (x.length + 1)) y.length)).toArray } }
      rw [strsFrom_eq]
      exact fin _ _ (Nat.le_add_right _ _) ((numbered_texts _ _).trans ((if_neg (ne_true_of_eq_false h1)).trans (if_neg (ne_true_of_eq_false hf))).symm)
    · exact call_meets PySem.F.slot_str_split (typeIs_str _ _ _) PySem.F.entry_str_split (PySem.F.args_str_split_2 _ _) (meets_str_split_not_found x y t u h1 hy hf)
        (fin [(x, t)] s.toks (Nat.le_refl _) ((if_neg (ne_true_of_eq_false h1)).trans (if_pos hf)).symm)
  · exact call_meets PySem.F.slot_str_split (typeIs_str _ _ _) PySem.F.entry_str_split (PySem.F.args_str_split_2 _ _) (meets_str_split_cannot_occur x y t u h1)
      (fin [(x, t)] s.toks (Nat.le_refl _) (if_pos h1).symm)
theorem wp_splitMax {x y : Str} {n : Int} {t u v : Tok} (S : F.St ρ s) (hy : (y.length == 0) = false) (hk : (decide (n < -(2 ^ 63 : Int)) || decide (n ≥ 2 ^ 63)) = false) (hx : x.length + 2 ≤ sizeLine) {E : Value → Shared → Prop} {Q : Value → Shared → Prop}
    (k : ∀ v s', Ext s s' → Rd (cut (vw s') F.X) v (.list ((Txt.splitMax x y n).map .str)) → Q v s') : wpAny F.M F.A (PySem.call (.builtin "str.split") [.str x t, .str y u, .int n v]) Q E s := by
  have hn : (Builtin.Str.partsBetween x (Builtin.Str.occurrences x y 0 x.length (limitOf x n)) y.length).length ≤ sizeLine := by
    have e1 := StrLaws.occ_length_le_len x y 0 x.length (limitOf x n)
    rw [length_partsBetween]; omega
  have fin : ∀ (l : List (Str × Tok)) tk, s.toks ≤ tk → l.map (·.1) = Txt.splitMax x y n → Q (.ref s.heap.objs.size) { s with heap := s.heap.push { cls := .type "list", data := .seq (strValues l).toArray }, toks := tk } := fun l tk ht e =>
    k _ _ (Ext.mk' (fun _ _ e => Heap.get?_push_of_some _ e) ht) (.list (cut_mk S.new (Heap.get?_push_size _ rfl)) (by rw [← e]; simpa using strs_rd l))
  cases h1 : (decide (x.length < y.length) || decide (Builtin.Str.strKind x < Builtin.Str.strKind y))
  · cases hf : (Builtin.Str.occurrences x y 0 x.length (limitOf x n)).isEmpty
    · refine call_meets PySem.F.slot_str_split (typeIs_str _ _ _) PySem.F.entry_str_split (PySem.F.args_str_split_3 _ _ _) (meets_str_split_sep_max x y n t u v hk h1 hy hf (by omega) hn) ?_
      show wants Q E _ { s with toks := _, heap := s.heap.push { cls := .type "list", data := .seq (strsFrom s.toks (Builtin.Str.partsBetween x (Builtin.Str.occurrences x y 0 x.length (limitOf x n)) y.length)).toArray } }
      rw [strsFrom_eq]
      exact fin _ _ (Nat.le_add_right _ _) ((numbered_texts _ _).trans ((if_neg (ne_true_of_eq_false h1)).trans (if_neg (ne_true_of_eq_false hf))).symm)
    · exact call_meets PySem.F.slot_str_split (typeIs_str _ _ _) PySem.F.entry_str_split (PySem.F.args_str_split_3 _ _ _) (meets_str_split_max_not_found x y n t u v hk h1 hy hf)
        (fin [(x, t)] s.toks (Nat.le_refl _) ((if_neg (ne_true_of_eq_false h1)).trans (if_pos hf)).symm)
  · exact call_meets PySem.F.slot_str_split (typeIs_str _ _ _) PySem.F.entry_str_split (PySem.F.args_str_split_3 _ _ _) (meets_str_split_max_cannot_occur x y n t u v hk h1)
      (fin [(x, t)] s.toks (Nat.le_refl _) (if_pos h1).symm)
end Fm
end Mine

/-! Fw5 -/
namespace Mine
open PySem PySem.Spec PyProof.Rows

def pnO (C : Obj → Prop) : Pn := ⟨fun _ o => C o, fun _ _ _ _ h => h⟩

/-- an iterator's walk: n items, the i-th of type Pv i as long as the ghost holds; only the iterator is turned -/
structure Wk (w : World) (A : Around) (I : Addr) (n : Nat) (Pv : Nat → Ty) (G : Gp) (C : Nat → Obj → Prop) : Prop where
  item : ∀ i (s : Shared), i < n → G.P (vw s) → (∃ o, s.heap.get? I = some o ∧ C i o) → ∀ (E : Value → Shared → Prop) (Q : Option Value → Shared → Prop),
    (∀ v s', ExtB [I] s s' → (∃ o, s'.heap.get? I = some o ∧ C (i + 1) o) → (∀ V, G.P V → (Pv i).P V v) → Q (some v) s') → wpAny (model PP w) A (pyNext (.ref I)) Q E s
  done : ∀ (s : Shared), G.P (vw s) → (∃ o, s.heap.get? I = some o ∧ C n o) → ∀ (E : Value → Shared → Prop) (Q : Option Value → Shared → Prop),
    (∀ s', (∀ b o, b ≠ I → s.heap.get? b = some o → s'.heap.get? b = some o) → s'.os = s.os → GExt s.gens s'.gens → s.toks ≤ s'.toks → Q none s') → wpAny (model PP w) A (pyNext (.ref I)) Q E s
  self : ∀ i (s : Shared), G.P (vw s) → (∃ o, s.heap.get? I = some o ∧ C i o) → ∀ (E : Value → Shared → Prop) (Q : Value → Shared → Prop), Q (.ref I) s → wpAny (model PP w) A (pyIter (.ref I)) Q E s

theorem Wk.of {w : World} {A : Around} {I : Addr} {fp : List Addr} {n : Nat} {P : Nat → Value → Prop} {St : Nat → Heap → Prop} {Pv : Nat → Ty} {G : Gp} (W : Walks PP w A I fp [I] n P St)
    (hfr : ∀ i h h', St i h → h'.get? I = h.get? I → G.P (fun b => h'.get? b) → St i h') (hex : ∀ i h, St i h → ∃ o, h.get? I = some o) (hP : ∀ i v, P i v → ∀ V, G.P V → (Pv i).P V v) :
    Wk w A I n Pv G (fun i o => ∀ h : Heap, h.get? I = some o → G.P (fun b => h.get? b) → St i h) where
  item := fun i s hi hG ⟨o, ho, hC⟩ E Q k => Fm.wp_toks (W.item i s _ _ hi (hC _ ho hG) fun v h' tk hv hst hk ht => by
    have hk' : ∀ b o, b ≠ I → s.heap.get? b = some o → h'.get? b = some o := fun b o hb e => hk b o (by simpa using hb) e
    obtain ⟨o', ho'⟩ := hex _ _ hst
    refine k v _ ⟨fun b o hb e => hk b o hb e, fun b o e => ?_, rfl, .refl _, ht⟩ ⟨o', ho', fun h hh hg => hfr _ _ _ hst (hh.trans ho'.symm) hg⟩ (fun V hV => hP i v hv V hV)
    by_cases hb : b = I
    · subst hb; exact ⟨o', ho'⟩
    · exact ⟨o, hk' b o hb e⟩)
  done := fun s hG ⟨o, ho, hC⟩ E Q k => Fm.wp_toks (W.done s _ _ (hC _ ho hG) fun h' tk hk ht => k _ (fun b o hb e => hk b o (by simpa using hb) e) rfl (.refl _) ht)
  self := fun i s hG ⟨o, ho, hC⟩ E Q k => W.self i s _ _ (hC _ ho hG) k

namespace Fm
variable {F : Fm} {ρ : List (Str × Ty)} {s s' : Shared}

/-- leaving a loop: the iterator is let go -/
theorem St.leave {a : Addr} {P : Pn} {G : Gp} (S : (F.add a P G).St ρ s) (ha : a ∉ F.Z) (hk : ∀ b o, b ≠ a → s.heap.get? b = some o → s'.heap.get? b = some o) (hos : s'.os = s.os) (hg : GExt s.gens s'.gens) (ht : s.toks ≤ s'.toks) : F.St ρ s' := by
  have hs0 : F.s0.heap.get? a = none := (S.pinNew a (List.mem_cons_self ..)).2
  have haY : a ∉ F.Y := (S.pinNew a (List.mem_cons_self ..)).1
  have le : Le (cut (vw s) (F.add a P G).X) (cut (vw s') F.X) := fun b o h => by
    have hb := (cut_of h).1
    refine cut_mk (fun hx => hb ?_) (hk b o (fun q => hb ?_) (cut_of h).2)
    · rcases List.mem_append.mp hx with q | q
      · exact List.mem_append_left _ q
      · rcases List.mem_append.mp q with q | q
        · exact List.mem_append_right _ (List.mem_append_left _ (List.mem_cons_of_mem _ q))
        · exact List.mem_append_right _ (List.mem_append_right _ q)
    · exact List.mem_append_right _ (List.mem_append_left _ (q ▸ List.mem_cons_self ..))
  have hC : ∀ {x c v}, F.env.cells.lookup x = some c → s.heap.IsCell c v → s'.heap.IsCell c v := fun hx ⟨o, ho, hd⟩ => ⟨o, hk _ o (S.ne_cell (List.mem_cons_self ..) hx) ho, hd⟩
  have hN : ∀ {m}, s.heap.Ns F.env.locals m → s'.heap.Ns F.env.locals m := fun hm => hm.at fun o h => hk _ o (fun q => haY (q ▸ S.loc)) h
  refine ⟨⟨fun b o _ h => hk b o (fun q => ?_) (S.base.all b o h), fun b o h => ⟨o, hk b o (fun q => ?_) (S.base.all b o h)⟩, hos.trans S.base.os, S.base.gens.trans hg, Nat.le_trans S.base.toks ht⟩,
    S.fresh, fun y hy => let ⟨o, ho⟩ := S.dom y hy; ⟨o, hk y o (fun q => haY (q ▸ hy)) ho⟩, S.domX, S.gl, S.room, S.tok, S.kind, S.glob, S.bns, S.loc, let ⟨m, hm⟩ := S.ns; ⟨m, hN hm⟩,
    fun x c hx => let ⟨v, hv⟩ := S.cells x c hx; ⟨v, hC hx hv⟩, S.apart, S.cellsIn, fun b hb => S.pinNew b (List.mem_cons_of_mem _ hb), fun b hb => ?_, F.gh.mono _ _ le S.ghost.1, fun x T hx => ?_⟩
  · have h0 : F.s0.heap.get? b = some o := h; rw [q, hs0] at h0; cases h0
  · have h0 : F.s0.heap.get? b = some o := h; rw [q, hs0] at h0; cases h0
  · obtain ⟨o, h1, h2⟩ := S.pinned b (List.mem_cons_of_mem _ hb)
    have hba : b ≠ a := fun q => ha (q ▸ hb)
    exact ⟨o, hk _ _ hba h1, Pn.mono _ _ _ _ le (by simpa [add, hba] using h2)⟩
  · obtain ⟨v, h1, h2⟩ := S.names x T hx
    refine ⟨v, T.mono _ _ _ le h1, ?_⟩
    rcases h2 with ⟨a, m, b, c⟩ | ⟨a, c, b, d⟩
    · exact .inl ⟨a, m, hN b, c⟩
    · exact .inr ⟨a, c, b, hC b d⟩

theorem St.congrPn {pn : Addr → Pn} (S : F.St ρ s) (h : ∀ a ∈ F.Z, pn a = F.pn a) : (F.withPn pn).St ρ s :=
  { S with
    pinned := fun a ha =>
      let ⟨o, h1, h2⟩ := S.pinned a ha
      ⟨o, h1, by show (pn a).P _ o; rw [h a ha]; exact h2⟩ }

def Src (F : Fm) (ρ : List (Str × Ty)) (iter : Expr) (n : Nat) (Pv : Nat → Ty) : Prop :=
  ∀ s, F.St ρ s → ∀ (E : Value → Shared → Prop) (Q : Value → Shared → Prop), (∀ I s' G C, Ext s s' → s.heap.get? I = none → Wk F.w F.A I n Pv G C → (∃ o, s'.heap.get? I = some o ∧ C 0 o) → G.P (cut (vw s') (F.Y ++ ((I :: F.Z) ++ F.Xo))) → Q (.ref I) s') →
    wpAny F.M F.A (eval iter F.env) (fun x s₁ => wpAny F.M F.A (pyIter x) Q E s₁) E s

theorem cut_add {X Z W : List Addr} {I : Addr} {V V' : View} (hle : Le V V') (hI : V I = none) : Le (cut V (X ++ (Z ++ W))) (cut V' (X ++ ((I :: Z) ++ W))) := fun b o h => by
  have hb := (cut_of h).1
  refine cut_mk (fun hx => ?_) (hle b o (cut_of h).2)
  rcases List.mem_append.mp hx with q | q
  · exact hb (List.mem_append_left _ q)
  · rcases List.mem_append.mp q with q | q
    · rcases List.mem_cons.mp q with q | q
      · subst q; have := (cut_of h).2; rw [hI] at this; cases this
      · exact hb (List.mem_append_right _ (List.mem_append_left _ q))
    · exact hb (List.mem_append_right _ (List.mem_append_right _ q))
theorem no_top (h : Heap) : h.get? h.objs.size = none := by
  cases e : h.get? h.objs.size with
  | none => rfl
  | some o => exact absurd (Heap.lt_size e) (Nat.lt_irrefl _)

theorem Src.list {iter : Expr} {ds : List PyData} (he : F.Ev ρ iter (tD (.list ds))) : F.Src ρ iter ds.length (fun i => tD (ds.getD i .none)) := fun s S E Q k =>
  he s S E _ fun v s₁ e₁ S₁ hv => by
    obtain ⟨a, vs, n, rfl, hl, hr⟩ := hv.list_inv
    have hz := size_of hr
    refine wpAny_pyIter_list (isList_of hl) ?_
    have hne : a ≠ s₁.heap.objs.size := Nat.ne_of_lt (Heap.lt_size (cut_of hl).2)
    have ex : Ext s₁ { s₁ with heap := s₁.heap.push { cls := .type "list_iterator", data := .fields #[.ref a, .int 0 0] } } := Ext.push _ _
    have W := Walks.list (prog := PP) (w := F.w) (A := F.A) S.room.1 s₁.heap.objs.size a hne vs
    let G : Gp := ⟨fun V => V a = some ⟨.type "list", none, .seq vs n, #[]⟩ ∧ RdAll V vs.toList ds, fun V W' h x => ⟨h _ _ x.1, RdAll.mono h x.2⟩⟩
    have hs : s.heap.get? s₁.heap.objs.size = none := by
      cases e : s.heap.get? s₁.heap.objs.size with
      | none => rfl
      | some o => exact absurd (Heap.lt_size (e₁.all _ _ e)) (Nat.lt_irrefl _)
    have hd : ∀ i v, vs[i]? = some v → ∀ V, G.P V → (tD (ds.getD i .none)).P V v := fun i v hi V hV => by
      have hlt : i < vs.size := (Array.getElem?_eq_some_iff.mp hi).1
      have hlt' : i < ds.length := by omega
      obtain ⟨u, h1, h2⟩ := hV.2.get (List.getElem?_eq_getElem hlt')
      rw [Array.getElem?_toList, hi] at h1
      cases h1
      rw [List.getD_eq_getElem?_getD, List.getElem?_eq_getElem hlt']
      exact h2
    have wk := Wk.of (G := G) (Pv := fun i => tD (ds.getD i .none)) W (fun i h h' st e hg => ⟨st.1.at fun o q => e.trans q, ⟨_, hg.1, rfl, n, rfl⟩⟩) (fun i h st => let ⟨o, ho, _⟩ := st.1; ⟨o, ho⟩) hd
    rw [hz] at wk
    exact k s₁.heap.objs.size _ G _ (e₁.trans ex) hs wk ⟨_, Heap.get?_push_size _ rfl, fun h hh hg => ⟨⟨_, hh, rfl, rfl⟩, ⟨_, hg.1, rfl, n, rfl⟩⟩⟩ ⟨cut_add ex.le (no_top _) _ _ hl, RdAll.mono (cut_add ex.le (no_top _)) hr⟩

theorem Src.str {iter : Expr} {x : Str} (he : F.Ev ρ iter (tS x)) : F.Src ρ iter x.length (fun i => tS ⟨#[x.cps.toList.getD i 0]⟩) := fun s S E Q k =>
  he s S E _ fun v s₁ e₁ S₁ hv => by
    obtain ⟨t, rfl⟩ := hv.str_inv
    have hs : s.heap.get? s₁.heap.objs.size = none := by
      cases e : s.heap.get? s₁.heap.objs.size with
      | none => rfl
      | some o => exact absurd (Heap.lt_size (e₁.all _ _ e)) (Nat.lt_irrefl _)
    have hd : ∀ i v, SignAt x i v → ∀ V, gpTrue.P V → (tS ⟨#[x.cps.toList.getD i 0]⟩).P V v := fun i v hi V hV => by
      obtain ⟨c, u, h1, rfl⟩ := hi
      rw [List.getD_eq_getElem?_getD, Array.getElem?_toList, h1]
      exact .str _ _
    cases ha : x.cps.all (· < 128)
    · refine wpAny_pyIter_wide ha ?_
      have W := Walks.strWide (prog := PP) (w := F.w) (A := F.A) S.room.1 s₁.heap.objs.size x t
      exact k s₁.heap.objs.size _ gpTrue _ (e₁.trans (Ext.push _ _)) hs (Wk.of W (fun i h h' st e hg => let ⟨o, ho, r⟩ := st; ⟨o, e.trans ho, r⟩) (fun i h st => let ⟨o, ho, _⟩ := st; ⟨o, ho⟩) hd)
        ⟨_, Heap.get?_push_size _ rfl, fun h hh hg => ⟨_, hh, rfl, rfl⟩⟩ trivial
    · refine wpAny_pyIter_ascii ha ?_
      have W := Walks.strAscii (prog := PP) (w := F.w) (A := F.A) S.room.1 s₁.heap.objs.size x t
      exact k s₁.heap.objs.size _ gpTrue _ (e₁.trans (Ext.push _ _)) hs (Wk.of W (fun i h h' st e hg => let ⟨o, ho, r⟩ := st; ⟨o, e.trans ho, r⟩) (fun i h st => let ⟨o, ho, _⟩ := st; ⟨o, ho⟩) hd)
        ⟨_, Heap.get?_push_size _ rfl, fun h hh hg => ⟨_, hh, rfl, rfl⟩⟩ trivial

/-- a for over a source, its target one local name -/
theorem wp_forE {x : Str} {px pos : Pos} {iter : Expr} {body rest : List Stmt} {n : Nat} {Pv : Nat → Ty} {ρi : Nat → List (Str × Ty)} {pn : Nat → Addr → Pn} {E E' : Value → Shared → Prop} {Q : Flow → Shared → Prop}
    (S : (F.withPn (pn 0)).St (ρi 0) s) (hsrc : (F.withPn (pn 0)).Src (ρi 0) iter n Pv)
    (hturn : ∀ I P G i, I ∉ F.Z → i < n → ∀ s, ((F.withPn (pn i)).add I P G).St ((x, Pv i) :: ρi i) s → ((F.withPn (pn i)).add I P G).Run body (fun fl s' => match fl with
      | .next | .cont => ((F.withPn (pn (i + 1))).add I P G).St (ρi (i + 1)) s'
      | .brk => False
      | .ret v => Q (.ret v) s') E' s)
    (hE : ∀ e s', E' e s' → notedBy F.M F.A F.env (cameBackBy F.M F.A F.env E) e s')
    (hend : ∀ s', (F.withPn (pn n)).St (ρi n) s' → (F.withPn (pn n)).Run rest Q E s')
    (hk : F.env.kindOf x = some .local := by rfl) (hs : ∀ x, foldedSetIterable iter F.env x = pure x := by intro _; rfl) :
    F.Run (.For (.Name x px) iter body [] pos :: rest) Q E s := by
  refine .mk <| wpAny_execs_cons (wpAny_For (hsrc s S E _ fun I s₁ G C e₁ hI wk hC hG => ?_) hs)
  have hIZ : I ∉ F.Z := fun h => by
    obtain ⟨o, ho, _⟩ := S.pinned I h
    rw [hI] at ho; cases ho
  obtain ⟨o₀, ho₀, hC₀⟩ := hC
  have S₁ : ((F.withPn (pn 0)).add I (pnO (C 0)) G).St (ρi 0) s₁ := S.pin e₁ hI ⟨o₀, ho₀, hC₀⟩ hG
  have gof : ∀ {i s}, ((F.withPn (pn i)).add I (pnO (C i)) G).St (ρi i) s → G.P (vw s) ∧ ∃ o, s.heap.get? I = some o ∧ C i o := fun {i s} S => ⟨G.mono _ _ (cut_le _ _) S.ghost.2, by
    obtain ⟨o, h1, h2⟩ := S.pinned I (List.mem_cons_self ..)
    exact ⟨o, h1, by simpa [add, pnO] using h2⟩⟩
  refine codeAny_forLoop (fun k s => ∃ i, i ≤ n ∧ k = n - i ∧ ((F.withPn (pn i)).add I (pnO (C i)) G).St (ρi i) s) ?_ n ⟨0, Nat.zero_le _, rfl, S₁⟩
  rintro k s ⟨i, hi, rfl, S⟩
  obtain ⟨g1, g2⟩ := gof S
  by_cases hlt : i < n
  · refine wk.item i s hlt g1 g2 _ _ fun v s₂ e₂ hC' hv => ?_
    have S₂ := S.repin (P := pnO (C (i + 1))) (List.mem_cons_self ..) e₂ hC'
    have S₂ : ((F.withPn (pn i)).add I (pnO (C (i + 1))) G).St (ρi i) s₂ := by
      have := S₂.congrPn (pn := ((F.withPn (pn i)).add I (pnO (C (i + 1))) G).pn) (fun a ha => by
        by_cases haI : a = I
        · subst haI; simp [setPin, add]
        · simp [setPin, add, haI])
      exact this
    refine wpAny_assign_Name (wp_store (T := Pv i) S₂ (hv _ S₂.ghost.2) hk fun s₃ S₃ _ => ?_)
    refine wpAny_mono (hturn I (pnO (C (i + 1))) G i hIZ hlt s₃ S₃).wp (fun fl s₄ h => ?_) hE
    cases fl with
    | next => exact ⟨n - (i + 1), by omega, i + 1, hlt, rfl, h⟩
    | cont => exact ⟨n - (i + 1), by omega, i + 1, hlt, rfl, h⟩
    | brk => exact h.elim
    | ret v => exact h
  · have : i = n := by omega
    subst this
    refine wk.done s g1 g2 _ _ fun s₂ hk₂ hos hg ht => ?_
    exact wpAny_execs_nil (hend s₂ (S.leave hIZ hk₂ hos hg ht)).wp

theorem wp_for {x : Str} {px pos : Pos} {iter : Expr} {body rest : List Stmt} {n : Nat} {Pv : Nat → Ty} {ρi : Nat → List (Str × Ty)} {pn : Nat → Addr → Pn} {E : Value → Shared → Prop} {Q : Flow → Shared → Prop}
    (S : (F.withPn (pn 0)).St (ρi 0) s) (hsrc : (F.withPn (pn 0)).Src (ρi 0) iter n Pv)
    (hturn : ∀ I P G i, I ∉ F.Z → i < n → ∀ s, ((F.withPn (pn i)).add I P G).St ((x, Pv i) :: ρi i) s → ((F.withPn (pn i)).add I P G).Run body (fun fl s' => match fl with
      | .next | .cont => ((F.withPn (pn (i + 1))).add I P G).St (ρi (i + 1)) s'
      | .brk => False
      | .ret v => Q (.ret v) s') (fun _ _ => False) s)
    (hend : ∀ s', (F.withPn (pn n)).St (ρi n) s' → (F.withPn (pn n)).Run rest Q E s')
    (hk : F.env.kindOf x = some .local := by rfl) (hs : ∀ x, foldedSetIterable iter F.env x = pure x := by intro _; rfl) :
    F.Run (.For (.Name x px) iter body [] pos :: rest) Q E s := wp_forE S hsrc hturn (fun _ _ h => h.elim) hend hk hs

/-- x.append(e), x a list that only this frame turns -/
theorem wp_append {x : Str} {a : Addr} {px apos pos pos' : Pos} {e : Expr} {ds : List PyData} {d : PyData} {rest : List Stmt} {E : Value → Shared → Prop} {Q : Flow → Shared → Prop} (S : F.St ρ s) (hx : ρ.lookup x = some (tV (.ref a))) (ha : a ∈ F.Z) (hp : F.pn a = pnList ds)
    (he : F.Ev ρ e (tD d)) (hsz : ds.length ≤ sizeLine) (h : ∀ s', (F.setPin a (pnList (ds ++ [d]))).St ρ s' → (F.setPin a (pnList (ds ++ [d]))).Run rest Q E s')
    (hs : starEach [e] F.env = [(false, eval e F.env)] := by rfl) (hline : (apos.endLine == pos.line) = true := by rfl) (hi : interactive F.env = false := by rfl)
    (hd : (x == ("__debug__" : Str)) = false := by decide) :
    F.Run (.Expr (.Call (.Attribute (.Name x px) "append" apos) [e] [] pos) pos' :: rest) Q E s := by
  refine .mk <| wpAny_execs_cons (wpAny_Expr (Call_method1 rfl hs hline ?_) hi rfl)
  refine (Ev.name (T := tV (.ref a)) hx hd : F.Ev ρ _ _) s S E _ fun v s₁ e₁ S₁ hv => ?_
  have hv : v = .ref a := hv
  subst hv
  obtain ⟨o, ho, hP⟩ := S₁.pinned a ha
  rw [hp] at hP
  obtain ⟨vs, n, rfl, hr⟩ := hP
  have hT : s₁.TypeIs (.ref a) "list" := ⟨_, ho, rfl⟩
  refine ⟨"list", "list.append", PySem.F.plainAttrs_list, PySem.F.slot_list_append, PySem.F.type_list_append, hT, (fun b e => by cases e; exact ⟨_, ho, rfl⟩), ?_⟩
  refine P.append_list (he s₁ S₁ E _ fun v s₂ e₂ S₂ hv => ?_)
  obtain ⟨o, ho, hP⟩ := S₂.pinned a ha
  rw [hp] at hP
  obtain ⟨vs, n, rfl, hr⟩ := hP
  refine ⟨vs, n, by rw [size_of hr]; exact hsz, ho, ?_⟩
  have ho' := IsL.update (h := s₂.heap) ho (fun xs => xs.push v)
  have eb : ExtB [a] s₂ { s₂ with heap := s₂.heap.update a (Obj.mapSeq fun xs => xs.push v) } := ExtB.sameBut (tk := s₂.toks) (Heap.SameBut.update ..) (by simp) ⟨_, ho'⟩ (Nat.le_refl _)
  refine (h _ (S₂.repin ha eb ⟨_, ho', _, _, rfl, ?_⟩)).wp
  have aX : a ∈ F.X := List.mem_append_right _ (List.mem_append_left _ ha)
  have le : Le (cut (vw s₂) F.X) (cut (fun b => (s₂.heap.update a (Obj.mapSeq fun xs => xs.push v)).get? b) F.X) := by
    intro b o hb
    have hba : b ≠ a := fun q => (cut_of hb).1 (q ▸ aX)
    exact cut_mk (cut_of hb).1 (eb.keep b o (by simpa using hba) (cut_of hb).2)
  rw [Array.toList_push]
  exact (RdAll.mono le hr).snoc (Rd.mono le hv)

/-- x = [], kept as a list that only this frame turns -/
theorem wp_newOwn {x : Str} {px pos p : Pos} {rest : List Stmt} {E : Value → Shared → Prop} {Q : Flow → Shared → Prop} (S : F.St ρ s)
    (h : ∀ a s', a ∉ F.Z → (F.add a (pnList [])).St ((x, tV (.ref a)) :: ρ) s' → (F.add a (pnList [])).Run rest Q E s')
    (hk : F.env.kindOf x = some .local := by rfl) : F.Run (.Assign [.Name x px] (.List [] p) pos :: rest) Q E s := by
  refine .mk <| wpAny_execs_cons (wpAny_Assign_Name (PyProof.Rows.List_ (PyProof.Rows.args_nil (wpAny_newObj_type ?_))) rfl)
  have hZ : s.heap.objs.size ∉ F.Z := fun q => S.new (List.mem_append_right _ (List.mem_append_left _ q))
  have S₁ := S.pin (P := pnList []) (G := gpTrue) (Ext.push s { cls := .type "list", data := .seq ([] : List Value).toArray }) (no_top _) ⟨_, Heap.get?_push_size _ rfl, _, _, rfl, .nil⟩ trivial
  exact wp_store (F := F.add s.heap.objs.size (pnList [])) (T := tV (.ref s.heap.objs.size)) S₁ rfl hk fun s₂ S₂ _ => (h _ s₂ hZ S₂).wp
end Fm
end Mine

/-! Fw6 -/
namespace Mine
open PySem PySem.Spec PyProof.Rows
namespace Fm
variable {F : Fm} {ρ : List (Str × Ty)} {s s' : Shared}

def drop (F : Fm) (Z' : List Addr) : Fm := { F with Z := Z' }
/-- the frame's own list is turned no more -/
theorem St.freeze {x : Str} {a : Addr} {Z' : List Addr} {ds : List PyData} (S : F.St ρ s) (hz : F.Z = a :: Z') (ha : a ∉ Z') (hp : F.pn a = pnList ds) (hx : ρ.lookup x = some (tV (.ref a))) : (F.drop Z').St ((x, tD (.list ds)) :: ρ) s := by
  have haZ : a ∈ F.Z := by rw [hz]; exact List.mem_cons_self ..
  have sub : ∀ b ∈ Z', b ∈ F.Z := fun b hb => by rw [hz]; exact List.mem_cons_of_mem _ hb
  have aY : a ∉ F.Y := (S.pinNew a haZ).1
  have aX : a ∉ (F.drop Z').X := fun h => by
    rcases List.mem_append.mp h with q | q
    · exact aY q
    · rcases List.mem_append.mp q with q | q
      · exact ha q
      · obtain ⟨o, ho⟩ := S.domX a q; rw [(S.pinNew a haZ).2] at ho; cases ho
  have le : Le (cut (vw s) F.X) (cut (vw s) (F.drop Z').X) := cut_sub fun b hb => by
    rcases List.mem_append.mp hb with q | q
    · exact List.mem_append_left _ q
    · rcases List.mem_append.mp q with q | q
      · exact List.mem_append_right _ (List.mem_append_left _ (sub b q))
      · exact List.mem_append_right _ (List.mem_append_right _ q)
  refine ⟨S.base, S.fresh, S.dom, S.domX, S.gl, S.room, S.tok, S.kind, S.glob, S.bns, S.loc, S.ns, S.cells, S.apart, S.cellsIn, fun b hb => S.pinNew b (sub b hb), fun b hb => ?_, F.gh.mono _ _ le S.ghost, fun y T hy => ?_⟩
  · obtain ⟨o, h1, h2⟩ := S.pinned b (sub b hb); exact ⟨o, h1, Pn.mono _ _ _ _ le h2⟩
  · by_cases hyx : y = x
    · subst hyx
      simp only [List.lookup_cons, beq_self_eq_true, Option.some.injEq] at hy
      subst hy
      obtain ⟨v, h1, h2⟩ := S.names y _ hx
      have h1 : v = .ref a := h1
      subst h1
      obtain ⟨o, h3, h4⟩ := S.pinned a haZ
      rw [hp] at h4
      obtain ⟨vs, n, rfl, hr⟩ := h4
      exact ⟨_, .list (cut_mk aX h3) (RdAll.mono le hr), h2⟩
    · have hb : (y == x) = false := by simpa using hyx
      rw [List.lookup_cons, hb] at hy
      obtain ⟨v, h1, h2⟩ := S.names y T hy
      exact ⟨v, T.mono _ _ _ le h1, h2⟩
/-- go on in the frame that this state speaks of -/
theorem St.on {F' : Fm} {st : List Stmt} {E : Value → Shared → Prop} {Q : Flow → Shared → Prop} (S : F'.St ρ s) (h : F'.Run st Q E s) (h1 : F'.w = F.w := by rfl) (h2 : F'.A = F.A := by rfl) (h3 : F'.env = F.env := by rfl) : F.Run st Q E s := .mk (by have := h.wp; rw [h2, h3, show F'.M = F.M from by unfold M; rw [h1]] at this; exact this)
theorem wp_freeze {x : Str} {a : Addr} {Z' : List Addr} {ds : List PyData} {st : List Stmt} {E : Value → Shared → Prop} {Q : Flow → Shared → Prop} (S : F.St ρ s) (hz : F.Z = a :: Z') (ha : a ∉ Z') (hp : F.pn a = pnList ds) (hx : ρ.lookup x = some (tV (.ref a)))
    (h : (F.drop Z').St ((x, tD (.list ds)) :: ρ) s → (F.drop Z').Run st Q E s) : F.Run st Q E s := .mk (h (S.freeze hz ha hp hx)).wp
/-- the end of a turn in which one pinned object was turned -/
theorem St.turn {p p' : Addr → Pn} {I a : Addr} {P P' : Pn} {G : Gp} {ρ' : List (Str × Ty)} (S : (((F.withPn p).add I P G).setPin a P').St ρ' s) (hI : I ∉ F.Z) (ha : a ∈ F.Z) (hp : ∀ b ∈ F.Z, p' b = if b = a then P' else p b)
    (hw : ∀ x T, ρ.lookup x = some T → ρ'.lookup x = some T) : ((F.withPn p').add I P G).St ρ s := by
  have := (S.congrPn (pn := ((F.withPn p').add I P G).pn) (fun b hb => ?_)).weaken hw
  · exact this
  · have hIa : I ≠ a := fun q => hI (q ▸ ha)
    rcases List.mem_cons.mp hb with q | q
    · subst q; simp [setPin, add, hIa]
    · have hbI : b ≠ I := fun r => hI (r ▸ q)
      simp only [setPin, add, hbI, if_false]
      exact hp b q
/-- the end of a turn in which no pinned object was turned -/
theorem St.turn0 {p p' : Addr → Pn} {I : Addr} {P : Pn} {G : Gp} {ρ' : List (Str × Ty)} (S : ((F.withPn p).add I P G).St ρ' s) (hI : I ∉ F.Z) (hp : ∀ b ∈ F.Z, p' b = p b)
    (hw : ∀ x T, ρ.lookup x = some T → ρ'.lookup x = some T) : ((F.withPn p').add I P G).St ρ s := by
  have := (S.congrPn (pn := ((F.withPn p').add I P G).pn) (fun b hb => ?_)).weaken hw
  · exact this
  · rcases List.mem_cons.mp hb with q | q
    · subst q; simp [add]
    · have hbI : b ≠ I := fun r => hI (r ▸ q)
      simp only [add, hbI, if_false]
      exact hp b q
end Fm

/-- lookups in a context of written names -/
theorem lookup_skip {x y : Str} {T U : Ty} {ρ : List (Str × Ty)} (h : ρ.lookup x = some T) (hne : (x == y) = false) : ((y, U) :: ρ).lookup x = some T := by
  rw [List.lookup_cons, hne]; exact h
/-- a context is carried by a second one: name by name -/
theorem sub_nil {ρ' : List (Str × Ty)} : ∀ x T, ([] : List (Str × Ty)).lookup x = some T → ρ'.lookup x = some T := fun _ _ h => nomatch h
theorem sub_cons {ρ ρ' : List (Str × Ty)} {y : Str} {U : Ty} (h : ρ'.lookup y = some U) (hs : ∀ x T, ρ.lookup x = some T → ρ'.lookup x = some T) : ∀ x T, ((y, U) :: ρ).lookup x = some T → ρ'.lookup x = some T := fun x T hx => by
  rw [List.lookup_cons] at hx
  cases hb : x == y with
  | true => rw [hb] at hx; cases hx; rw [eq_of_beq hb]; exact h
  | false => rw [hb] at hx; exact hs x T hx
end Mine

/-! Fw7 -/
namespace Mine
open PySem PySem.Spec PyProof.Rows

/-! ## comprehensions -/
theorem pushCells_size_le : ∀ (names : List (Str × NameKind)) (h : Heap), h.objs.size ≤ (pushCells h names).objs.size
  | [], _ => Nat.le_refl _
  | (_, kind) :: r, h => by
    unfold pushCells
    split
    · exact Nat.le_trans (by rw [Heap.size_push]; omega) (pushCells_size_le r _)
    · exact pushCells_size_le r h

theorem wp_compEnv {M : Model} {A : Around} {E : Value → Shared → Prop} {s : Shared} {scope : Scope} {cl : List (Str × Addr)} {env : Env} {Q : Env → Shared → Prop}
    (h : Q { scope := scope, locals := s.heap.objs.size, globals := env.globals, cells := cellsFrom (s.heap.objs.size + 1) scope.names cl, qual := env.qual, func := none, code := env.code, frame := env.frame, builtins := env.builtins }
      { s with heap := pushCells (s.heap.push { cls := .type "dict", data := .dict #[] }) scope.names }) :
    wpAny M A (newFunctionEnv scope env.globals cl [] env.qual none .none (some env)) Q E s := by
  simp only [newFunctionEnv, Option.isSome_some, if_true]
  refine wpAny_bind (wpAny_alloc ?_)
  refine wpAny_bind (wpAny_layCells _ (fun name kind cells => by cases hkc : kind == NameKind.cell <;> simp) _ _ _ _ ?_)
  rw [Heap.size_push]
  exact wpAny_bind (wpAny_pure (wpAny_pure h))

/-- a comprehension's frame -/
def Fm.cf (F : Fm) (scope : Scope) (cells : List (Str × Addr)) (C : Addr) (own : List Addr) (s2 : Shared) (Z : List Addr) (pn : Addr → Pn) (gh : Gp) : Fm :=
  { w := F.w, mg := F.mg, mb := F.mb, n := F.n, A := F.A, env := compEnvC scope cells C F.env, Y := C :: own, Z := Z, pn := pn, gh := gh, Xo := F.X, s0 := s2 }

/-- the names that a comprehension reads out of the frame around it -/
inductive Fv (F : Fm) (env' : Env) (ρ : List (Str × Ty)) : List (Str × Ty) → Prop
  | nil : Fv F env' ρ []
  | cons {y : Str} {T : Ty} {c : Addr} {r : List (Str × Ty)} (h1 : ρ.lookup y = some T) (h2 : F.env.cells.lookup y = some c) (h3 : env'.cells.lookup y = some c)
      (h4 : F.env.kindOf y = some .cell ∨ F.env.kindOf y = some .free) (h5 : env'.kindOf y = some .cell ∨ (env'.kindOf y = some .free ∧ (y == ("__classdict__" : Str)) = false)) (h6 : Fv F env' ρ r) : Fv F env' ρ ((y, T) :: r)

theorem Fv.has {F : Fm} {env' : Env} {ρ r : List (Str × Ty)} (h : Fv F env' ρ r) {s s' : Shared} (S : F.St ρ s) (hk : ∀ b o, s.heap.get? b = some o → s'.heap.get? b = some o) {V : View} (hV : Le (cut (vw s) F.X) V) :
    ∀ x T, r.lookup x = some T → ∃ v, T.P V v ∧ Has env' s'.heap x v := by
  induction h with
  | nil => intro x T hx; cases hx
  | @cons y U c r h1 h2 h3 h4 h5 h6 ih =>
    intro x T hx
    rw [List.lookup_cons] at hx
    cases hb : x == y with
    | false => rw [hb] at hx; exact ih x T hx
    | true =>
      rw [hb] at hx; cases hx
      obtain rfl := eq_of_beq hb
      obtain ⟨v, a1, a2⟩ := S.names x _ h1
      refine ⟨v, Ty.mono _ _ _ _ hV a1, .inr ⟨h5, c, h3, ?_⟩⟩
      rcases a2 with ⟨q, _⟩ | ⟨_, c', q1, q2⟩
      · rcases h4 with h4 | h4 <;> rw [h4] at q <;> cases q
      · rw [h2] at q1; cases q1; exact q2.keeps hk

namespace Fm
variable {F : Fm} {ρ : List (Str × Ty)} {s s' : Shared}

/-- the tests of a comprehension -/
def Tests (F : Fm) (ρ : List (Str × Ty)) (ifs : List Expr) (b : Bool) : Prop :=
  ∀ s, F.St ρ s → ∀ (E : Value → Shared → Prop) (Q : Bool → Shared → Prop), (∀ s', F.St ρ s' → Q b s') →
    wpAny F.M F.A (forIn ifs true fun c r => if r = true then do let ok ← isTrue c F.env (eval c F.env); pure (ForInStep.yield ok) else pure (ForInStep.yield r)) Q E s
theorem Tests.nil : F.Tests ρ [] true := fun s S E Q k => by rw [List.forIn_nil]; exact wpAny_pure (k s S)
theorem Tests.one {c : Expr} {b : Bool} (h : F.Ts ρ c b) : F.Tests ρ [c] b := fun s S E Q k => by
  rw [List.forIn_cons]
  refine wpAny_bind ?_
  simp only [if_true]
  refine wpAny_bind (h s S E _ fun s' e' S' => wpAny_pure ?_)
  dsimp only
  rw [List.forIn_nil]
  exact wpAny_pure (k s' S')

/-- assigning a comprehension's target -/
def Asg (F : Fm) (ρ : List (Str × Ty)) (target : Expr) (T : Ty) (ρ' : List (Str × Ty)) : Prop :=
  ∀ s v, F.St ρ s → T.P (cut (vw s) F.X) v → ∀ (E : Value → Shared → Prop) (Q : Unit → Shared → Prop), (∀ s', F.St ρ' s' → Q () s') → wpAny F.M F.A (assign target F.env v) Q E s
theorem Asg.name {x : Str} {p : Pos} {T : Ty} (hk : F.env.kindOf x = some .local := by rfl) : F.Asg ρ (.Name x p) T ((x, T) :: ρ) := fun s v S hv E Q k => wpAny_assign_Name (wp_store S hv hk fun s' S' _ => k s' S')
theorem Asg.cell {x : Str} {p : Pos} {T : Ty} {c : Addr} (hc : F.env.cells.lookup x = some c) (hcY : c ∈ F.Y) (hk : F.env.kindOf x = some .cell := by rfl) : F.Asg ρ (.Name x p) T ((x, T) :: ρ) := fun s v S hv E Q k => wpAny_assign_Name (wp_storeC S hv hk hc hcY fun s' S' _ => k s' S')

/-- what a comprehension gathers -/
def gath (n : Nat) (b : Nat → Bool) (e : Nat → PyData) : List PyData := (List.range n).filterMap fun i => if b i then some (e i) else none
theorem gath_succ (n : Nat) (b : Nat → Bool) (e : Nat → PyData) : gath (n + 1) b e = gath n b e ++ (if b n then [e n] else []) := by
  unfold gath; rw [List.range_succ, List.filterMap_append]; congr 1
  cases h : b n <;> simp [h]
theorem gath_le (n : Nat) (b : Nat → Bool) (e : Nat → PyData) : (gath n b e).length ≤ n := by
  unfold gath; exact Nat.le_trans (List.length_filterMap_le _ _) (by simp)

/-- the loop of a comprehension, over its frame -/
theorem comp_loop {elt target iter : Expr} {ifs : List Expr} {scope : Scope} {pos : Pos} {cells : List (Str × Addr)} {C D I : Addr} {own : List Addr} {s2 : Shared} {n : Nat} {Pv : Nat → Ty} {G : Gp} {K : Nat → Obj → Prop} {ρ' : List (Str × Ty)} {ρt : Nat → List (Str × Ty)} {b : Nat → Bool} {e : Nat → PyData}
    {R : Result → Shared → Prop} (hDI : D ≠ I) (hn : n ≤ sizeLine)
    (S : (F.cf scope cells C own s2 [I, D] (fun a => if a = I then pnO (K 0) else pnList []) G).St ρ' s) (wk : Wk F.w F.A I n Pv G K)
    (hasg : ∀ i pn, i < n → (F.cf scope cells C own s2 [I, D] pn G).Asg ρ' target (Pv i) (ρt i))
    (htest : ∀ i pn, i < n → (F.cf scope cells C own s2 [I, D] pn G).Tests (ρt i) ifs (b i))
    (helt : ∀ i pn, i < n → b i = true → (F.cf scope cells C own s2 [I, D] pn G).Ev (ρt i) elt (tD (e i)))
    (hback : ∀ i x T, i < n → ρ'.lookup x = some T → (ρt i).lookup x = some T)
    (hend : ∀ s', (F.cf scope cells C own s2 [D] (fun _ => pnList (gath n b e)) gpTrue).St ρ' s' → R (.ok .next) s')
    (ht : ∀ v, letOwnedTupleGo target (.ref I) v = pure () := by intro _; rfl) :
    codeAny F.M F.A (.compLoop (.ListComp elt [⟨target, iter, ifs, 0⟩] scope pos) 0 (.ref I) (.ref D) (compEnvC scope cells C F.env)) R s := by
  let fr : Nat → Fm := fun i => F.cf scope cells C own s2 [I, D] (fun a => if a = I then pnO (K i) else pnList (gath i b e)) G
  have S0 : (fr 0).St ρ' s := S
  have gof : ∀ {i s}, (fr i).St ρ' s → G.P (vw s) ∧ ∃ o, s.heap.get? I = some o ∧ K i o := fun {i s} S => ⟨G.mono _ _ (cut_le _ _) S.ghost, by
    obtain ⟨o, h1, h2⟩ := S.pinned I (List.mem_cons_self ..)
    exact ⟨o, h1, by simpa [fr, cf, pnO] using h2⟩⟩
  refine codeAny_compLoop_tests (fun k s => ∃ i, i ≤ n ∧ k = n - i ∧ (fr i).St ρ' s) ?_ n ⟨0, Nat.zero_le _, rfl, S0⟩ ht
  rintro k s ⟨i, hi, rfl, S⟩
  obtain ⟨g1, g2⟩ := gof S
  by_cases hlt : i < n
  · refine wk.item i s hlt g1 g2 _ _ fun v s₂ e₂ hC' hv => ?_
    have S₂ := S.repin (P := pnO (K (i + 1))) (a := I) (List.mem_cons_self ..) e₂ hC'
    have S₂ : (F.cf scope cells C own s2 [I, D] (fun a => if a = I then pnO (K (i + 1)) else pnList (gath i b e)) G).St ρ' s₂ := by
      have := S₂.congrPn (pn := fun a => if a = I then pnO (K (i + 1)) else pnList (gath i b e)) (fun a ha => by
        by_cases haI : a = I
        · subst haI; simp [setPin]
        · simp [setPin, fr, cf, haI])
      exact this
    refine hasg i _ hlt s₂ v S₂ (hv _ S₂.ghost) _ _ fun s₃ S₃ => ?_
    refine htest i _ hlt s₃ S₃ _ _ fun s₄ S₄ => ?_
    have again : ∀ s₅, (F.cf scope cells C own s2 [I, D] (fun a => if a = I then pnO (K (i + 1)) else pnList (gath (i + 1) b e)) G).St (ρt i) s₅ → ∃ m, m < n - i ∧ ∃ i, i ≤ n ∧ m = n - i ∧ (fr i).St ρ' s₅ := fun s₅ S₅ =>
      ⟨n - (i + 1), by omega, i + 1, hlt, rfl, S₅.weaken fun x T hx => hback i x T hlt hx⟩
    cases hb : b i with
    | false =>
      simp only [Bool.false_eq_true, if_false]
      refine again s₄ ?_
      rw [gath_succ, hb]; simpa using S₄
    | true =>
      simp only [if_true]
      refine helt i _ hlt hb s₄ S₄ _ _ fun v₅ s₅ e₅ S₅ hv₅ => ?_
      obtain ⟨o, ho, hP⟩ := S₅.pinned D (by simp [cf])
      have hP : (pnList (gath i b e)).P (cut (vw s₅) (F.cf scope cells C own s2 [I, D] (fun a => if a = I then pnO (K (i + 1)) else pnList (gath i b e)) G).X) o := by simpa [cf, hDI] using hP
      obtain ⟨vs, m, rfl, hr⟩ := hP
      have hDX : D ∈ (F.cf scope cells C own s2 [I, D] (fun a => if a = I then pnO (K (i + 1)) else pnList (gath i b e)) G).X := by simp [cf]
      refine wpAny_list_append_plain (hsz := by rw [size_of hr]; exact Nat.le_trans (gath_le ..) (Nat.le_trans hi hn)) ⟨m, ho⟩ fun h' hl' hs' => ?_
      obtain ⟨m', hl'⟩ := hl'
      have eb : ExtB [D] s₅ { s₅ with heap := h' } := ExtB.sameBut (tk := s₅.toks) hs' (by simp) ⟨_, hl'⟩ (Nat.le_refl _)
      have le : Le (cut (vw s₅) (F.cf scope cells C own s2 [I, D] (fun a => if a = I then pnO (K (i + 1)) else pnList (gath i b e)) G).X) (cut (fun a => h'.get? a) (F.cf scope cells C own s2 [I, D] (fun a => if a = I then pnO (K (i + 1)) else pnList (gath i b e)) G).X) := by
        intro c o hc
        have hcD : c ≠ D := fun q => (cut_of hc).1 (q ▸ hDX)
        exact cut_mk (cut_of hc).1 (eb.keep c o (by simpa using hcD) (cut_of hc).2)
      have S₆ := S₅.repin (P := pnList (gath (i + 1) b e)) (a := D) (by simp [cf]) eb ⟨_, hl', _, _, rfl, by
        rw [gath_succ, hb, Array.toList_push]
        exact (RdAll.mono le hr).snoc (Rd.mono le hv₅)⟩
      refine again _ ?_
      have := S₆.congrPn (pn := fun a => if a = I then pnO (K (i + 1)) else pnList (gath (i + 1) b e)) (fun a ha => by
        by_cases haI : a = I
        · subst haI; simp [setPin, cf, Ne.symm hDI]
        · have haD : a = D := by simp [setPin, cf] at ha; rcases ha with q | q; exact absurd q haI; exact q
          subst haD; simp [setPin, cf, haI])
      exact this
  · have : i = n := by omega
    subst this
    refine wk.done s g1 g2 _ _ fun s₂ hk₂ hos hg ht => hend s₂ ?_
    have S' : ((F.cf scope cells C own s2 [D] (fun _ => pnList (gath i b e)) gpTrue).add I (pnO (K i)) G).St ρ' s := by
      have := S.congrPn (pn := fun a => if a = I then pnO (K i) else pnList (gath i b e)) (fun a ha => rfl)
      exact { this with ghost := ⟨trivial, this.ghost⟩ }
    exact S'.leave (by simp [cf, Ne.symm hDI]) hk₂ hos hg ht
end Fm

inductive ClOk (env : Env) : List (Str × Addr) → Prop
  | nil : ClOk env []
  | cons {y : Str} {c : Addr} {r : List (Str × Addr)} (h : env.cells.lookup y = some c) (hy : (r.all fun p => p.1 != y) = true) (hr : ClOk env r) : ClOk env ((y, c) :: r)
theorem ClOk.mem {env : Env} {cl : List (Str × Addr)} (h : ClOk env cl) : ∀ y c, (y, c) ∈ cl → env.cells.lookup y = some c := by
  induction h with
  | nil => intro y c h; cases h
  | cons h1 _ _ ih => intro y c hm; rcases List.mem_cons.mp hm with q | q; cases q; exact h1; exact ih y c q
theorem ClOk.apart {env : Env} {cl : List (Str × Addr)} (h : ClOk env cl) (ha : env.cells.Pairwise fun x y => x.2 ≠ y.2) : cl.Pairwise fun x y => x.2 ≠ y.2 := by
  induction h with
  | nil => exact .nil
  | cons h1 h2 h3 ih =>
    refine List.pairwise_cons.mpr ⟨fun p hp q => ?_, ih⟩
    obtain ⟨y', c'⟩ := p
    have e1 := PySem.mem_of_lookup (h3.mem _ _ hp)
    have e2 := PySem.mem_of_lookup h1
    have q : _ = c' := q
    subst q
    have := name_of_addr ha e1 e2
    have h4 := List.all_eq_true.mp h2 _ hp
    simp only [bne_iff_ne, ne_eq] at h4
    exact h4 this

namespace Fm
variable {F : Fm} {ρ : List (Str × Ty)} {s s' : Shared}

theorem ext_of_keep {s : Shared} {h' : Heap} (hk : ∀ b o, s.heap.get? b = some o → h'.get? b = some o) : Ext s { s with heap := h' } := Ext.mk' (tk := s.toks) hk (Nat.le_refl _)

/-- the frame of a comprehension whose scope has no cells of its own -/
theorem comp_St {scope : Scope} {cl : List (Str × Addr)} {I : Addr} {s₁ : Shared} {G : Gp} {K : Nat → Obj → Prop} {ρ' : List (Str × Ty)} (S : F.St ρ s) (e₁ : Ext s s₁) (hI : s.heap.get? I = none) (hK : ∃ o, s₁.heap.get? I = some o ∧ K 0 o)
    (hG : G.P (cut (vw s₁) (F.Y ++ ((I :: F.Z) ++ F.Xo)))) (hcl : ClOk F.env cl) (hkind : scope.kind = .function) (hfv : Fv F (compEnvC scope cl (s₁.heap.objs.size + 1) F.env) ρ ρ') :
    (F.cf scope cl (s₁.heap.objs.size + 1) [] s [I, s₁.heap.objs.size] (fun a => if a = I then pnO (K 0) else pnList []) G).St ρ'
      { s₁ with heap := (s₁.heap.push { cls := .type "list", data := .seq ([] : List Value).toArray }).push { cls := .type "dict", data := .dict #[] } } := by
  obtain ⟨oI, hoI, hK0⟩ := hK
  have hIlt : I < s₁.heap.objs.size := Heap.lt_size hoI
  have big : ∀ n, s₁.heap.objs.size ≤ n → s.heap.get? n = none := fun n hn => by
    cases e : s.heap.get? n with
    | none => rfl
    | some o => exact absurd (Heap.lt_size (e₁.all _ _ e)) (Nat.not_lt.mpr hn)
  have k2 : ∀ b o, s₁.heap.get? b = some o → ((s₁.heap.push { cls := .type "list", data := .seq ([] : List Value).toArray }).push { cls := .type "dict", data := .dict #[] }).get? b = some o := fun b o e => Heap.get?_push_of_some _ (Heap.get?_push_of_some _ e)
  have ex : Ext s { s₁ with heap := (s₁.heap.push { cls := .type "list", data := .seq ([] : List Value).toArray }).push { cls := .type "dict", data := .dict #[] } } := e₁.trans (ext_of_keep k2)
  have hC : ((s₁.heap.push { cls := .type "list", data := .seq ([] : List Value).toArray }).push { cls := .type "dict", data := .dict #[] }).Ns (s₁.heap.objs.size + 1) fun _ => none := by
    have := Heap.Ns.new (s₁.heap.push { cls := .type "list", data := .seq ([] : List Value).toArray }) (.type "dict")
    rw [Heap.size_push] at this; exact this
  have hD : ((s₁.heap.push { cls := .type "list", data := .seq ([] : List Value).toArray }).push { cls := .type "dict", data := .dict #[] }).get? s₁.heap.objs.size = some { cls := .type "list", data := .seq ([] : List Value).toArray } := Heap.get?_push_of_some _ (Heap.get?_push_size _ rfl)
  have le : Le (cut (vw s) F.X) (cut (fun b => ((s₁.heap.push { cls := .type "list", data := .seq ([] : List Value).toArray }).push { cls := .type "dict", data := .dict #[] }).get? b) (F.cf scope cl (s₁.heap.objs.size + 1) [] s [I, s₁.heap.objs.size] (fun a => if a = I then pnO (K 0) else pnList []) G).X) := by
    intro b o h
    have hb := cut_of h
    refine cut_mk (fun q => ?_) (k2 _ _ (e₁.all _ _ hb.2))
    simp only [cf, Fm.X, List.mem_append, List.mem_cons, List.not_mem_nil, or_false] at q
    have h9 : s.heap.get? b = some o := hb.2
    rcases q with q | q | q
    · rw [q, big _ (Nat.le_succ _)] at h9; cases h9
    · rcases q with q | q
      · rw [q, hI] at h9; cases h9
      · rw [q, big _ (Nat.le_refl _)] at h9; cases h9
    · exact hb.1 (by simpa [Fm.X] using q)
  refine ⟨ex, ?_, ?_, S.domAll, S.g, S.room, S.toks, hkind, S.glob, S.bns, by simp [cf, compEnvC], ⟨_, hC⟩, ?_, hcl.apart S.apart, ?_, ?_, ?_, ?_, ?_⟩
  · intro y hy; simp [cf] at hy; subst hy; exact big _ (Nat.le_succ _)
  · intro y hy; simp [cf] at hy; subst hy; obtain ⟨o, _, _, ho, _⟩ := hC; exact ⟨o, ho⟩
  · intro x c hc
    obtain ⟨v, hv⟩ := S.cells x c (hcl.mem _ _ (PySem.mem_of_lookup hc))
    exact ⟨v, hv.keeps ex.all⟩
  · intro x c hc
    obtain ⟨v, o, ho, _⟩ := S.cells x c (hcl.mem _ _ (PySem.mem_of_lookup hc))
    exact .inr ⟨o, ho⟩
  · intro a ha
    simp only [cf, List.mem_cons, List.not_mem_nil, or_false] at ha
    rcases ha with q | q
    · subst q; exact ⟨fun h => by simp [cf] at h; exact Nat.lt_irrefl _ (Nat.lt_trans (h ▸ Nat.lt_succ_self s₁.heap.objs.size) hIlt), hI⟩
    · subst q; exact ⟨by simp [cf], big _ (Nat.le_refl _)⟩
  · intro a ha
    simp only [cf, List.mem_cons, List.not_mem_nil, or_false] at ha
    rcases ha with q | q
    · subst q; exact ⟨oI, k2 _ _ hoI, by simpa [cf, pnO] using hK0⟩
    · have hne : s₁.heap.objs.size ≠ I := Nat.ne_of_gt hIlt
      subst q; exact ⟨_, hD, by simp only [cf, hne, if_false]; exact ⟨_, _, rfl, .nil⟩⟩
  · refine G.mono _ _ ?_ hG
    intro b o h
    have hb := cut_of h
    refine cut_mk (fun q => ?_) (k2 _ _ hb.2)
    simp only [cf, Fm.X, List.mem_append, List.mem_cons, List.not_mem_nil, or_false] at q
    have hlt : b < s₁.heap.objs.size := Heap.lt_size hb.2
    apply hb.1
    simp only [List.mem_append, List.mem_cons]
    rcases q with q | q | q
    · exact absurd (Nat.lt_trans (q ▸ Nat.lt_succ_self s₁.heap.objs.size) hlt) (Nat.lt_irrefl _)
    · rcases q with q | q
      · exact .inr (.inl (.inl q))
      · exact absurd (q ▸ hlt) (Nat.lt_irrefl _)
    · rcases q with q | q | q
      · exact .inl q
      · exact .inr (.inl (.inr q))
      · exact .inr (.inr q)
  · exact hfv.has S ex.all le
end Fm
end Mine

/-! Fw8 -/
namespace Mine
open PySem PySem.Spec PyProof.Rows
namespace Fm
variable {F : Fm} {ρ : List (Str × Ty)} {s s' : Shared}

/-- what stands behind a comprehension's loop -/
theorem comp_done {scope : Scope} {cells : List (Str × Addr)} {C D : Addr} {own : List Addr} {ρ' : List (Str × Ty)} {es : List PyData} (S : F.St ρ s)
    (S' : (F.cf scope cells C own s [D] (fun _ => pnList es) gpTrue).St ρ' s') :
    Ext s s' ∧ s.heap.get? C = none ∧ C ≠ D ∧ (∃ m, s'.heap.Ns C m) ∧ Rd (cut (vw s') (F.Y ++ ((C :: F.Z) ++ F.Xo))) (.ref D) (.list es) := by
  have hC : s.heap.get? C = none := S'.fresh C (List.mem_cons_self ..)
  have hD := S'.pinNew D (List.mem_cons_self ..)
  have hDs : s.heap.get? D = none := hD.2
  have hCD : C ≠ D := fun q => hD.1 (q ▸ List.mem_cons_self ..)
  refine ⟨S'.base, hC, hCD, S'.ns, ?_⟩
  obtain ⟨o, ho, hP⟩ := S'.pinned D (List.mem_cons_self ..)
  obtain ⟨vs, n, rfl, hr⟩ := hP
  have hDX : D ∉ F.X := fun h => by obtain ⟨o, q⟩ := S.domAll D h; rw [hDs] at q; cases q
  have le : Le (cut (vw s') (F.cf scope cells C own s [D] (fun _ => pnList es) gpTrue).X) (cut (vw s') (F.Y ++ ((C :: F.Z) ++ F.Xo))) := cut_sub fun b hb => by
    simp only [cf, Fm.X, List.mem_append, List.mem_cons, List.not_mem_nil, or_false] at hb ⊢
    rcases hb with q | (q | q) | q
    · exact .inr (.inr (.inl q))
    · exact .inl (.inl q)
    · exact .inr (.inr (.inr (.inl q)))
    · exact .inr (.inr (.inr (.inr q)))
  refine .list (cut_mk (fun h => ?_) ho) (RdAll.mono le hr)
  simp only [List.mem_append, List.mem_cons] at h
  rcases h with q | (q | q) | q
  · exact hDX (by simp [Fm.X, q])
  · exact hCD q.symm
  · exact hDX (by simp [Fm.X, q])
  · exact hDX (by simp [Fm.X, q])

section
variable {elt target iter : Expr} {ifs : List Expr} {scope : Scope} {pos : Pos} {cl : List (Str × Addr)} {n : Nat} {Pv : Nat → Ty} {ρ' : List (Str × Ty)} {ρt : Nat → List (Str × Ty)} {b : Nat → Bool} {e : Nat → PyData}

/-- what a comprehension without cells of its own asks -/
structure Cq (F : Fm) (ρ : List (Str × Ty)) (elt target iter : Expr) (ifs : List Expr) (scope : Scope) (cl : List (Str × Addr)) (n : Nat) (Pv : Nat → Ty) (ρ' : List (Str × Ty)) (ρt : Nat → List (Str × Ty)) (b : Nat → Bool) (e : Nat → PyData) : Prop where
  src : F.Src ρ iter n Pv
  size : n ≤ sizeLine
  clos : closureFor scope F.env = pure cl
  clok : ClOk F.env cl
  fv : ∀ C, Fv F (compEnvC scope cl C F.env) ρ ρ'
  asg : ∀ C s2 Z pn G i, i < n → (F.cf scope cl C [] s2 Z pn G).Asg ρ' target (Pv i) (ρt i)
  test : ∀ C s2 Z pn G i, i < n → (F.cf scope cl C [] s2 Z pn G).Tests (ρt i) ifs (b i)
  elt : ∀ C s2 Z pn G i, i < n → b i = true → (F.cf scope cl C [] s2 Z pn G).Ev (ρt i) elt (tD (e i))
  back : ∀ i x T, i < n → ρ'.lookup x = some T → (ρt i).lookup x = some T
  kind : scope.kind = .function
  names : ∀ x ∈ scope.names, x.2 = .local → scope.names.lookup x.1 = some .local
  nocell : ∀ m, cellsFrom m scope.names cl = cl
  nopush : ∀ h, pushCells h scope.names = h
  let_ : ∀ I v, letOwnedTupleGo target (.ref I) v = pure ()

theorem comp_core {E : Value → Shared → Prop} {use : Option (Value → Sem Unit)} {Q : Value → Shared → Prop} (c : F.Cq ρ elt target iter ifs scope cl n Pv ρ' ρt b e) (S : F.St ρ s)
    (hs : ∀ x, foldedSetIterable iter F.env x = pure x)
    (hend : ∀ C D s', (F.cf scope cl C [] s [D] (fun _ => pnList (gath n b e)) gpTrue).St ρ' s' → compPost F.M F.A E use Q (.ref D) C (.ok .next) s') :
    wpAny F.M F.A (comprehension (.ListComp elt [⟨target, iter, ifs, 0⟩] scope pos) scope F.env (firstIterPos [⟨target, iter, ifs, 0⟩] pos) (newList []) false (eval iter F.env) use) Q E s := by
  refine wpAny_comprehension_free (cl := cl) rfl hs c.clos c.kind c.names ?_
  refine c.src s S E _ fun I s₁ G K e₁ hI wk hK hG => ?_
  refine wpAny_newObj_type ?_
  refine wp_compEnv ?_
  rw [c.nocell, c.nopush]
  have St' := comp_St (ρ' := ρ') S e₁ hI hK hG c.clok c.kind (c.fv _)
  have hDI : s₁.heap.objs.size ≠ I := by obtain ⟨o, ho, _⟩ := hK; exact Nat.ne_of_gt (Heap.lt_size ho)
  have hC : (s₁.heap.push { cls := .type "list", data := .seq ([] : List Value).toArray }).objs.size = s₁.heap.objs.size + 1 := Heap.size_push ..
  dsimp only
  have loop : ∀ s₄, s₄ = { s₁ with heap := (s₁.heap.push { cls := .type "list", data := .seq ([] : List Value).toArray }).push { cls := .type "dict", data := .dict #[] } } →
      codeAny F.M F.A (.compLoop (.ListComp elt [⟨target, iter, ifs, 0⟩] scope pos) 0 (.ref I) (.ref s₁.heap.objs.size) (compEnvC scope cl (s₁.heap.objs.size + 1) F.env)) (compPost F.M F.A E use Q (.ref s₁.heap.objs.size) (s₁.heap.objs.size + 1)) s₄ := by
    rintro s₄ rfl
    exact comp_loop hDI c.size St' wk (fun i pn hi => c.asg _ _ _ _ _ i hi) (fun i pn hi => c.test _ _ _ _ _ i hi) (fun i pn hi hb => c.elt _ _ _ _ _ i hi hb) c.back (fun s' S' => hend _ _ s' S') (c.let_ I)
  have start : codeAny F.M F.A (.compStart (.ListComp elt [⟨target, iter, ifs, 0⟩] scope pos) 0 (.ref I) (.ref s₁.heap.objs.size) (compEnvC scope cl (s₁.heap.objs.size + 1) F.env)) (compPost F.M F.A E use Q (.ref s₁.heap.objs.size) (s₁.heap.objs.size + 1))
      { s₁ with heap := (s₁.heap.push { cls := .type "list", data := .seq ([] : List Value).toArray }).push { cls := .type "dict", data := .dict #[] } } := by
    refine codeAny_compStart_list (loop _ rfl) (wk.self 0 _ (G.mono _ _ (cut_le _ _) St'.ghost) ?_ _ _ (loop _ rfl))
    obtain ⟨o, h1, h2⟩ := St'.pinned I (List.mem_cons_self ..)
    exact ⟨o, h1, by simpa [cf, pnO] using h2⟩
  rw [hC]
  exact start

theorem Ev.comp (c : F.Cq ρ elt target iter ifs scope cl n Pv ρ' ρt b e) (hs : ∀ x, foldedSetIterable iter F.env x = pure x := by intro _; rfl) : F.Ev ρ (.ListComp elt [⟨target, iter, ifs, 0⟩] scope pos) (tD (.list (gath n b e))) := fun s S E Q k => by
  rw [eval_ListComp]
  refine comp_core c S hs fun C D s' S' => ?_
  obtain ⟨e', hC, hCD, ⟨m, hm⟩, hr⟩ := comp_done S S'
  refine ⟨m, hm, fun h' hsb => ?_⟩
  have keep : ∀ b o, b ≠ C → s'.heap.get? b = some o → h'.get? b = some o := fun b o hb h => (hsb.2 b hb).trans h
  have ex : Ext s { s' with heap := h' } := ⟨fun b o _ h => keep b o (fun q => by rw [q, hC] at h; cases h) (e'.all b o h), fun b o h => ⟨o, keep b o (fun q => by rw [q, hC] at h; cases h) (e'.all b o h)⟩, e'.os, e'.gens, e'.toks⟩
  refine k _ _ ex (S.ext ex) (Rd.mono (fun b o h => ?_) hr)
  have hb := cut_of h
  have hbC : b ≠ C := fun q => hb.1 (by simp [q])
  refine cut_mk (fun q => hb.1 ?_) (keep b o hbC hb.2)
  simp only [Fm.X, List.mem_append, List.mem_cons] at q ⊢
  rcases q with q | q | q
  · exact .inl q
  · exact .inr (.inl (.inr q))
  · exact .inr (.inr q)

/-- y = [..], the stores exchanged -/
theorem wp_assignComp {y : Str} {py spos : Pos} {rest : List Stmt} {E : Value → Shared → Prop} {Q : Flow → Shared → Prop} (c : F.Cq ρ elt target iter ifs scope cl n Pv ρ' ρt b e) (S : F.St ρ s)
    (h : ∀ s', F.St ((y, tD (.list (gath n b e))) :: ρ) s' → F.Run rest Q E s')
    (hk : F.env.kindOf y = some .local := by rfl) (hs : ∀ x, foldedSetIterable iter F.env x = pure x := by intro _; rfl)
    (hsw : swapsWith (.ListComp elt [⟨target, iter, ifs, 0⟩] scope pos) (some (.Name y py)) spos.line F.env = pure true := by rfl) :
    F.Run (.Assign [.Name y py] (.ListComp elt [⟨target, iter, ifs, 0⟩] scope pos) spos :: rest) Q E s := by
  refine .mk <| wpAny_execs_cons ?_
  rw [exec_Assign_Name_used _ _ _ _ hsw]
  refine wpAny_bind (wpAny_standAt (wpAny_bind ?_))
  show wpAny _ F.A (do let _ ← comprehension (.ListComp elt [⟨target, iter, ifs, 0⟩] scope pos) scope F.env _ (newList []) false (eval iter F.env) (some (assign (.Name y py) F.env))) _ _ s
  refine wpAny_bind (wpAny_mono (comp_core (Q := fun _ s' => wpAny F.M F.A (execs rest F.env) Q E s') c S hs fun C D s' S' => ?_) (fun _ s' hq => wpAny_pure (wpAny_pure hq)) fun _ _ e => e)
  obtain ⟨e', hC, hCD, ⟨m, hm⟩, hr⟩ := comp_done S S'
  show wpAny F.M F.A (assign (.Name y py) F.env (.ref D)) _ _ _
  have hCZ : C ∉ F.Z := fun h => by obtain ⟨o, q, _⟩ := S.pinned C h; rw [hC] at q; cases q
  have S₁ : (F.add C pnAny).St ρ s' := S.pin e' hC (let ⟨o, _, _, ho, _⟩ := hm; ⟨o, ho, trivial⟩) trivial
  refine wpAny_assign_Name (wp_store (F := F.add C pnAny) (T := tD (.list (gath n b e))) S₁ hr hk fun s₂ S₂ e₂ => ?_)
  have hCL : C ≠ F.env.locals := S₁.ne_loc (List.mem_cons_self ..)
  refine ⟨m, hm.at fun o h => e₂.keep _ o (fun q => hCL (List.mem_singleton.mp q)) h, fun h' hsb => (h { s₂ with heap := h' } (S₂.leave (s' := { s₂ with heap := h' }) hCZ (fun b o hb q => (hsb.2 b hb).trans q) rfl (.refl _) (Nat.le_refl _))).wp⟩
end
theorem gath_true (n : Nat) (e : Nat → PyData) : gath n (fun _ => true) e = (List.range n).map e := by
  unfold gath; simp
theorem map_range_getD {α β : Type} (l : List α) (d : α) (g : α → β) : (List.range l.length).map (fun i => g (l.getD i d)) = l.map g := by
  apply List.ext_getElem
  · simp
  · intro i h1 h2
    simp at h1 h2
    simp [List.getD_eq_getElem?_getD, List.getElem?_eq_getElem h1]
theorem map_range_eq {α β : Type} (l : List α) (d : α) (g : α → β) (f : Nat → β) (h : ∀ i, i < l.length → f i = g (l.getD i d)) : (List.range l.length).map f = l.map g := by
  rw [← map_range_getD l d g]
  exact List.map_congr_left fun i hi => h i (by simpa using hi)
end Fm
theorem getD_map' {α β : Type} (f : α → β) (l : List α) (i : Nat) (a : α) (b : β) (h : i < l.length) : (l.map f).getD i b = f (l.getD i a) := by
  rw [List.getD_eq_getElem?_getD, List.getD_eq_getElem?_getD, List.getElem?_map, List.getElem?_eq_getElem h]; rfl
theorem getD_mem {α : Type} (l : List α) (i : Nat) (a : α) (h : i < l.length) : l.getD i a ∈ l := by
  rw [List.getD_eq_getElem?_getD, List.getElem?_eq_getElem h]; exact List.getElem_mem h
end Mine

/-! Fw9 -/
namespace Mine
open PySem PySem.Spec PyProof.Rows

/-- the frame of a def with cells -/
def Fm.fmC (w : World) (mg mb : Str → Option Value) (n : Nat) (A : Around) (f : Str) (scope : Scope) (a : Addr) (cd : Value) (s : Shared) (X : List Addr) : Fm :=
  { w, mg, mb, n, A := A.deeper (envOfC f scope s.heap.objs.size a cd), env := envOfC f scope s.heap.objs.size a cd, Y := s.heap.objs.size :: (cellsFrom (s.heap.objs.size + 1) scope.names []).map (·.2), Z := [], pn := fun _ => pnAny, gh := gpTrue, Xo := X, s0 := s }
theorem Fm.fmC_mem {w : World} {mg mb : Str → Option Value} {n : Nat} {A : Around} {f : Str} {scope : Scope} {a : Addr} {cd : Value} {s : Shared} {X : List Addr} {x : Str} {c : Addr} (h : (Fm.fmC w mg mb n A f scope a cd s X).env.cells.lookup x = some c) : c ∈ (Fm.fmC w mg mb n A f scope a cd s X).Y :=
  List.mem_cons_of_mem _ (List.mem_map.mpr ⟨(x, c), PySem.mem_of_lookup h, rfl⟩)

theorem lookup_of_mem {α : Type} : ∀ {l : List (Str × α)} {z : Str} {c : α}, (l.map (·.1)).Nodup → (z, c) ∈ l → l.lookup z = some c
  | (y, d) :: r, z, c, hn, hm => by
    rw [List.map_cons, List.nodup_cons] at hn
    rw [List.lookup_cons]
    rcases List.mem_cons.mp hm with q | q
    · cases q; simp
    · have : z ≠ y := fun e => hn.1 (e ▸ List.mem_map.mpr ⟨(z, c), q, rfl⟩)
      have hb : (z == y) = false := by simpa using this
      rw [hb]; exact lookup_of_mem hn.2 q

theorem FnA.introC {w : World} {mg mb : Str → Option Value} {n : Nat} {a : Addr} {f : Str} {U T : Ty} {params : Arguments} {body : List Stmt} {scope : Scope} {x : Str}
    (hd : ∀ h, Gl mg mb h → ∃ o pm cd doc, h.get? a = some o ∧ o.data = .func (Calls.docDef f params body scope pm cd doc) ∧ h.CodeRec cd f)
    (hbind : ∀ pm cd doc v, bindArgs (Calls.docDef f params body scope pm cd doc) ⟨[v], []⟩ = pure [(x, v)])
    (hkind : scope.names.lookup x = some .local ∨ (scope.names.lookup x = some .cell ∧ ∀ m, ((cellsFrom m scope.names []).lookup x).isSome = true))
    (hnd : ∀ m, ((cellsFrom m scope.names []).map (·.1)).Nodup)
    (hbody : ∀ A cd s X, Room (n + 1) A → (Fm.fmC w mg mb n A f scope a cd s X).Bd [(x, U)] body T)
    (hco : scope.isCoroutine = false := by rfl) (hgen : scope.isGenerator = false := by rfl) (hk : scope.kind = .function := by rfl) : FnA w mg mb (n + 1) a [U] T := by
  intro A s X vals hr G ht hX hT E Q k
  obtain ⟨o, pm, cd, doc, h2, h3, h4⟩ := hd _ G
  cases hT with
  | @cons _ _ v vs hv hvs =>
  cases hvs
  refine wpAny_call (codeAny_call_function hr.depth h2 h3 hco hgen rfl h4 ?_)
  rw [hbind]
  refine wpAny_pure (Fm.wp_toks (wpAny_newFunctionEnv_cells hk (fun y hy => ?_) fun env he s₁ x₁ htk => ?_))
  · simp at hy; subst hy
    rcases hkind with q | ⟨q, r⟩
    · exact .inl q
    · exact .inr ⟨q, r _⟩
  have he' : env = envOfC f scope s.heap.objs.size a cd := he
  subst he'
  obtain ⟨h₁, tk, rfl, _⟩ := x₁.done
  have keep := x₁.toInCall.keep
  refine ⟨G.nolimit.keeps keep, codeAny_func ?_⟩
  have ext : Ext s { s with heap := h₁, toks := tk } := Ext.mk' keep htk
  have big : ∀ m, s.heap.objs.size ≤ m → s.heap.get? m = none := fun m hm => by
    cases e : s.heap.get? m with
    | none => rfl
    | some o => exact absurd (Heap.lt_size e) (Nat.not_lt.mpr hm)
  have hY : ∀ y ∈ (Fm.fmC w mg mb n A f scope a cd s X).Y, s.heap.objs.size ≤ y ∧ ∃ o, h₁.get? y = some o := fun y hy => by
    rcases List.mem_cons.mp hy with q | q
    · subst q; obtain ⟨o, _, _, ho, _⟩ := x₁.toInCall.ns; exact ⟨Nat.le_refl _, o, ho⟩
    · obtain ⟨⟨z, c⟩, hm, rfl⟩ := List.mem_map.mp q
      refine ⟨Nat.le_of_lt (x₁.above z c hm), ?_⟩
      obtain ⟨o, ho, _⟩ := x₁.cell z c (lookup_of_mem (hnd _) hm)
      exact ⟨o, ho⟩
  refine wpAny_mono (Fm.Run.wp (hbody A cd s X hr { s with heap := h₁, toks := tk } ⟨ext, fun y hy => big _ (hY y hy).1, fun y hy => (hY y hy).2, hX, G, hr.deeper _, ht, hk, rfl, rfl, List.mem_cons_self .., ⟨_, x₁.toInCall.ns⟩, fun z c hc => ⟨_, x₁.cell z c hc⟩, x₁.apart, fun z c hc => .inl (Fm.fmC_mem hc),
    (fun _ ha => nomatch ha), (fun _ ha => nomatch ha), trivial, ?_⟩)) ?_ (fun _ _ x => x.elim)
  · intro y T' hy
    have hyx : y = x ∧ T' = U := by
      rw [List.lookup_cons] at hy
      cases hb : y == x with
      | true => rw [hb] at hy; cases hy; exact ⟨eq_of_beq hb, rfl⟩
      | false => rw [hb] at hy; cases hy
    obtain ⟨rfl, rfl⟩ := hyx
    refine ⟨v, T'.mono _ _ _ ?_ hv, ?_⟩
    · intro b o e
      refine cut_mk (fun hb => ?_) (keep _ _ (cut_of e).2)
      rcases List.mem_append.mp hb with hb | hb
      · have h9 : s.heap.get? b = some o := (cut_of e).2; rw [big _ (hY b hb).1] at h9; cases h9
      · exact (cut_of e).1 (by simpa [Fm.fmC] using hb)
    · rcases hkind with q | ⟨q, r⟩
      · exact .inl ⟨q, _, x₁.toInCall.ns, by simp [bindL, Env.kindOf, envOfC, q]⟩
      · obtain ⟨c, hc⟩ := Option.isSome_iff_exists.mp (r (s.heap.objs.size + 1))
        refine .inr ⟨.inl q, c, hc, ?_⟩
        have := x₁.cell y c hc
        simpa [bindC, Env.kindOf, envOfC, q] using this
  · rintro fl s' ⟨v, rfl, h5, h6⟩
    exact k v s' h5 h6

theorem Fn.introC {w : World} {mg mb : Str → Option Value} {n : Nat} {f : Str} {U T : Ty} {params : Arguments} {body : List Stmt} {scope : Scope} {x : Str}
    (hd : (f, params, body, scope) ∈ theDefs)
    (hbind : ∀ pm cd doc v, bindArgs (Calls.docDef f params body scope pm cd doc) ⟨[v], []⟩ = pure [(x, v)])
    (hkind : scope.names.lookup x = some .local ∨ (scope.names.lookup x = some .cell ∧ ∀ m, ((cellsFrom m scope.names []).lookup x).isSome = true))
    (hnd : ∀ m, ((cellsFrom m scope.names []).map (·.1)).Nodup)
    (hbody : ∀ A a cd s X, Room (n + 1) A → (Fm.fmC w mg mb n A f scope a cd s X).Bd [(x, U)] body T)
    (hco : scope.isCoroutine = false := by rfl) (hgen : scope.isGenerator = false := by rfl) (hk : scope.kind = .function := by rfl) : Fn w mg mb (n + 1) f [U] T := fun a hf =>
  FnA.introC (fun h G => by
    obtain ⟨a', o, pm, cd, doc, h1, h2, h3, h4⟩ := G.fn _ hd
    have : a' = a := by rw [hf] at h1; cases h1; rfl
    subst this
    exact ⟨o, pm, cd, doc, h2, h3, h4⟩) hbind hkind hnd (fun A cd s X => hbody A a cd s X) hco hgen hk
end Mine

/-! Fw10 -/
namespace Mine
open PySem PySem.Spec PyProof.Rows
namespace Fm
variable {F : Fm} {ρ : List (Str × Ty)} {s s' : Shared}

/-! ## ranges -/
theorem src_range {iter : Expr} {a b : Int} (ha : -(2 ^ 62) ≤ a ∧ a < 2 ^ 62) (hb : -(2 ^ 62) ≤ b ∧ b < 2 ^ 62)
    (he : ∀ s, F.St ρ s → ∀ (E : Value → Shared → Prop) (Q : Value → Shared → Prop), (∀ r s' t u v, Ext s s' → F.St ρ s' → IsRange s'.heap r a b 1 t u v → Q (.ref r) s') → wpAny F.M F.A (eval iter F.env) Q E s) :
    F.Src ρ iter (b - a).toNat (fun i => tI (a + i)) := fun s S E Q k =>
  he s S E _ fun r s₁ t u v e₁ S₁ hr => by
    refine wpAny_pyIter_range hr (small_one ha.1 ha.2 hb.1 hb.2) ?_
    have hs : s.heap.get? s₁.heap.objs.size = none := by
      cases e : s.heap.get? s₁.heap.objs.size with
      | none => rfl
      | some o => exact absurd (Heap.lt_size (e₁.all _ _ e)) (Nat.lt_irrefl _)
    have hn : Builtin.Range.rangeSize a b 1 = ((b - a).toNat : Int) := by rw [rangeSize_one]; split <;> omega
    have W := Walks.range (prog := PP) (w := F.w) (A := F.A) S.room.1 s₁.heap.objs.size a 1 (b - a).toNat
    refine k s₁.heap.objs.size _ gpTrue _ (e₁.trans (Ext.push _ _)) hs (Wk.of W (fun i h h' st e hg => e.trans st) (fun i h st => ⟨_, st⟩) (fun i v hi V hV => ?_))
      ⟨_, Heap.get?_push_size _ rfl, fun h hh hg => ?_⟩ trivial
    · obtain ⟨t, rfl⟩ := hi
      rw [Int.mul_one]; exact .int _ _
    · rw [hn] at hh
      simpa [IsRangeIter, rawInt] using hh
theorem Src.range1 {np pos : Pos} {e : Expr} {n : Int} (h : F.Ev ρ e (tI n)) (hb : -(2 ^ 62) ≤ n ∧ n < 2 ^ 62)
    (hk : F.env.kindOf "range" = some .globalImplicit := by rfl) (hs : starEach [e] F.env = (false, eval e F.env) :: starEach [] F.env := by rfl) :
    F.Src ρ (.Call (.Name "range" np) [e] [] pos) n.toNat (fun i => tI i) := by
  have := src_range (F := F) (ρ := ρ) (iter := .Call (.Name "range" np) [e] [] pos) (a := 0) (b := n) (by decide) hb (fun s S E Q k => ?_)
  · simpa using this
  · refine PyProof.Rows.Call_ (wp_biName S boot_range (PyProof.Rows.callWith_type1 (Evs.cons h .nil hs pos s S E _ fun vs s₁ e₁ S₁ hvs => ?_) hs rfl) (by decide) hk (by decide) (by decide)) rfl
    cases hvs with
    | cons h1 h2 =>
      cases h2
      obtain ⟨t, rfl⟩ := h1.int_inv
      refine call_range_1 ?_
      have ex : Ext s₁ { s₁ with heap := s₁.heap.push { cls := .type "range", data := .fields #[.int 0 s₁.toks, .int n t, .int 1 (s₁.toks + 1)] }, toks := s₁.toks + 1 + 1 } := Ext.mk' (fun _ _ e => Heap.get?_push_of_some _ e) (by omega)
      exact k _ _ _ _ _ (e₁.trans ex) (S₁.ext ex) (IsRange.new ..)
theorem Src.range2 {np pos : Pos} {e e' : Expr} {a b : Int} (h : F.Ev ρ e (tI a)) (h' : F.Ev ρ e' (tI b)) (ha : -(2 ^ 62) ≤ a ∧ a < 2 ^ 62) (hb : -(2 ^ 62) ≤ b ∧ b < 2 ^ 62)
    (hk : F.env.kindOf "range" = some .globalImplicit := by rfl) (hs : starEach [e, e'] F.env = (false, eval e F.env) :: starEach [e'] F.env := by rfl) (hs' : starEach [e'] F.env = (false, eval e' F.env) :: starEach [] F.env := by rfl) :
    F.Src ρ (.Call (.Name "range" np) [e, e'] [] pos) (b - a).toNat (fun i => tI (a + i)) := by
  refine src_range ha hb (fun s S E Q k => ?_)
  refine PyProof.Rows.Call_ (wp_biName S boot_range (PyProof.Rows.callWith_type1 (Evs.cons h (Evs.cons h' .nil hs') hs pos s S E _ fun vs s₁ e₁ S₁ hvs => ?_) hs (by rw [hs']; rfl)) (by decide) hk (by decide) (by decide)) rfl
  cases hvs with
  | cons h1 h2 => cases h2 with
    | cons h3 h4 =>
      cases h4
      obtain ⟨t, rfl⟩ := h1.int_inv
      obtain ⟨u, rfl⟩ := h3.int_inv
      refine call_range_2 ?_
      have ex : Ext s₁ { s₁ with heap := s₁.heap.push { cls := .type "range", data := .fields #[.int a t, .int b u, .int 1 s₁.toks] }, toks := s₁.toks + 1 } := Ext.mk' (fun _ _ e => Heap.get?_push_of_some _ e) (by omega)
      exact k _ _ _ _ _ (e₁.trans ex) (S₁.ext ex) (IsRange.new ..)

/-! ## tuples taken apart -/
theorem le_of_extB {Z : List Addr} (e : ExtB Z s s') (hZ : ∀ z ∈ Z, z ∈ F.X) : Le (cut (vw s) F.X) (cut (vw s') F.X) := fun b o h => cut_mk (cut_of h).1 (e.keep b o (fun q => (cut_of h).1 (hZ b q)) (cut_of h).2)
theorem St.locX (S : F.St ρ s) : ∀ z ∈ [F.env.locals], z ∈ F.X := fun z hz => by
  have : z = F.env.locals := by simpa using hz
  subst this; exact List.mem_append_left _ S.loc

theorem ext_extBut {s : Shared} {h' : Heap} (he : Heap.ExtBut s.heap.objs.size s.heap h') : Ext s { s with heap := h' } := ext_of_keep fun b o e => he b o (Nat.ne_of_lt (Heap.lt_size e)) e

/-- storing values to local names, one after the other -/
theorem wp_stores {E : Value → Shared → Prop} {Q : Unit → Shared → Prop} (xs : List (Str × Pos)) : ∀ {ds : List PyData} {vs : List Value} {ρ : List (Str × Ty)} {s : Shared}, F.St ρ s → xs.length = ds.length → RdAll (cut (vw s) F.X) vs ds → (∀ x ∈ xs, F.env.kindOf x.1 = some .local) →
    (∀ s', F.St (((xs.map (·.1)).zip (ds.map tD)).reverse ++ ρ) s' → Q () s') → wpAny F.M F.A (assignInOrder (xs.map fun x => assign (.Name x.1 x.2) F.env) vs) Q E s := by
  induction xs with
  | nil =>
    intro ds vs ρ s S hl hr _ k
    cases ds with
    | cons _ _ => simp at hl
    | nil => cases hr; exact wpAny_pure (k s S)
  | cons y xs ih =>
    intro ds vs ρ s S hl hr hk k
    obtain ⟨x, p⟩ := y
    cases hr with
    | nil => simp at hl
    | @cons v vs d ds h1 h2 =>
    show wpAny F.M F.A (holding vs (assign (.Name x p) F.env v) >>= fun _ => assignInOrder (xs.map fun x => assign (.Name x.1 x.2) F.env) vs) Q E s
    refine wpAny_bind (wpAny_holding (wpAny_assign_Name (wp_store (T := tD d) S h1 (hk (x, p) (List.mem_cons_self ..)) fun s₁ S₁ e₁ => ?_)))
    refine ih S₁ (by simpa using hl) (RdAll.mono (le_of_extB e₁ S.locX) h2) (fun y hy => hk y (List.mem_cons_of_mem _ hy)) fun s' S' => k s' ?_
    simpa using S'

theorem Asg.tuple {xs : List (Str × Pos)} {ds : List PyData} {k : Nat} {pos : Pos} (hl : xs.length = ds.length) (hk : ∀ x ∈ xs, F.env.kindOf x.1 = some .local) :
    F.Asg ρ (.Tuple (xs.map fun x => .Name x.1 x.2) k pos) (tD (.tuple ds)) (((xs.map (·.1)).zip (ds.map tD)).reverse ++ ρ) := fun s v S hv E Q q => by
  obtain ⟨a, vs, n, rfl, hT, hr⟩ := hv.tuple_inv
  have hlen := size_of hr
  have e1 : ∀ l : List (Str × Pos), assignEach (l.map fun x => Expr.Name x.1 x.2) F.env = l.map fun x => (false, assign (.Name x.1 x.2) F.env) := fun l => by
    induction l with
    | nil => rfl
    | cons y l ih => show (false, assign (.Name y.1 y.2) F.env) :: assignEach (l.map fun x => Expr.Name x.1 x.2) F.env = _; rw [ih]; rfl
  refine assign_Tuple_tuple S.room.1 ⟨_, isT_of hT, rfl, n, rfl⟩ (by rw [e1, List.length_map, hlen, hl]) ?_ fun h' he => ?_
  · rw [e1]
    rw [List.findIdx?_eq_none_iff]
    intro y hy
    obtain ⟨z, _, rfl⟩ := List.mem_map.mp hy
    rfl
  · rw [e1, List.map_map]
    have ex := ext_extBut he
    exact wp_stores xs (S.ext ex) hl (RdAll.mono (cut_mono _ ex.le) hr) hk q

theorem wp_assignT {xs : List (Str × Pos)} {ds : List PyData} {k : Nat} {tpos pos : Pos} {e : Expr} {rest : List Stmt} {E : Value → Shared → Prop} {Q : Flow → Shared → Prop} (S : F.St ρ s) (he : F.Ev ρ e (tD (.tuple ds))) (hl : xs.length = ds.length)
    (h : ∀ s', F.St (((xs.map (·.1)).zip (ds.map tD)).reverse ++ ρ) s' → F.Run rest Q E s') (hk : (xs.all fun x => decide (F.env.kindOf x.1 = some .local)) = true := by rfl)
    (hs : swapsWithSole [.Tuple (xs.map fun x => .Name x.1 x.2) k tpos] e pos.line F.env = pure false := by rfl) (hw : swappedStores [.Tuple (xs.map fun x => .Name x.1 x.2) k tpos] e F.env = pure none := by rfl) :
    F.Run (.Assign [.Tuple (xs.map fun x => .Name x.1 x.2) k tpos] e pos :: rest) Q E s :=
  .mk <| wpAny_execs_cons (PyProof.Rows.Assign_Tuple (he s S E _ fun v s₁ e₁ S₁ hv => Asg.tuple hl (fun x hx => of_decide_eq_true (List.all_eq_true.mp hk x hx)) s₁ v S₁ hv E _ fun s₂ S₂ => (h s₂ S₂).wp) hs hw)

/-- an if whose ways meet again -/
theorem wp_ifJoin {pos : Pos} {test : Expr} {b : Bool} {body orelse rest : List Stmt} {E : Value → Shared → Prop} {Q : Flow → Shared → Prop} (P : Shared → Prop) (S : F.St ρ s) (ht : F.Ts ρ test b)
    (h1 : b = true → ∀ s', F.St ρ s' → F.Run body (fun fl s' => fl = .next ∧ P s') (fun _ _ => False) s')
    (h2 : b = false → ∀ s', F.St ρ s' → F.Run orelse (fun fl s' => fl = .next ∧ P s') (fun _ _ => False) s')
    (h : ∀ s', P s' → F.Run rest Q E s') : F.Run (.If test body orelse pos :: rest) Q E s := by
  refine wp_if S ht (fun hb s' S' _ => ?_) (fun hb s' S' _ => ?_)
  · refine .mk (wpAny_mono (h1 hb s' S').wp (fun fl s'' hq => ?_) fun _ _ x => x.elim)
    obtain ⟨rfl, hp⟩ := hq
    exact h s'' hp
  · refine .mk (wpAny_mono (h2 hb s' S').wp (fun fl s'' hq => ?_) fun _ _ x => x.elim)
    obtain ⟨rfl, hp⟩ := hq
    exact h s'' hp

theorem wp_ifAdd {x : Str} {T : Ty} {pos : Pos} {test : Expr} {b : Bool} {body orelse rest : List Stmt} {E : Value → Shared → Prop} {Q : Flow → Shared → Prop} (S : F.St ρ s) (ht : F.Ts ρ test b)
    (h1 : b = true → ∀ s', F.St ρ s' → F.Run body (fun fl s' => fl = .next ∧ F.St ((x, T) :: ρ) s') (fun _ _ => False) s')
    (h2 : b = false → ∀ s', F.St ρ s' → F.Run orelse (fun fl s' => fl = .next ∧ F.St ((x, T) :: ρ) s') (fun _ _ => False) s')
    (h : ∀ s', F.St ((x, T) :: ρ) s' → F.Run rest Q E s') : F.Run (.If test body orelse pos :: rest) Q E s := wp_ifJoin _ S ht h1 h2 h

/-! ## join -/
theorem Ev.join {o e : Expr} {apos pos : Pos} {x : Str} {texts : List Str} (ho : F.Ev ρ o (tS x)) (he : F.Ev ρ e (tD (.list (texts.map .str)))) (hok : JoinOk x texts = true)
    (hbase : attributeBase o "join" F.env (eval o F.env) = eval o F.env := by rfl)
    (hs : starEach [e] F.env = (false, eval e F.env) :: starEach [] F.env := by rfl) (hline : (apos.endLine == pos.line) = true := by rfl) :
    F.Ev ρ (.Call (.Attribute o "join" apos) [e] [] pos) (tS (Txt.join x texts)) :=
  Ev.strMeth PySem.F.slot_str_join PySem.F.type_str_join ho (Evs.cons he .nil hs) (fun s S t vs hvs E Q k => by
    cases hvs with
    | cons h1 h2 =>
        cases h2
        obtain ⟨a, vs, n, rfl, hl, hr⟩ := h1.list_inv
        obtain ⟨l, e1, e2⟩ := strs_inv hr
        have : vs = (strValues l).toArray := by rw [← e1]
        subst this
        exact wp_toks (SC.join (isList_of hl) e2 hok (fun t' tk ht => k _ _ (.toks' ht) (.str _ _)))) hbase (by rw [hs]; rfl) hline (by rw [hs]; rfl)
theorem Ev.split {o e : Expr} {apos pos : Pos} {x y : Str} (ho : F.Ev ρ o (tS x)) (he : F.Ev ρ e (tS y)) (hx : x.length + 2 ≤ sizeLine) (hy : (y.length == 0) = false := by decide)
    (hbase : attributeBase o "split" F.env (eval o F.env) = eval o F.env := by rfl)
    (hs : starEach [e] F.env = (false, eval e F.env) :: starEach [] F.env := by rfl) (hline : (apos.endLine == pos.line) = true := by rfl) :
    F.Ev ρ (.Call (.Attribute o "split" apos) [e] [] pos) (tD (.list ((Txt.split x y).map .str))) :=
  Ev.strMeth PySem.F.slot_str_split PySem.F.type_str_split ho (Evs.cons he .nil hs) (fun s S t vs hvs E Q k => by
    cases hvs with
    | cons h1 h2 =>
        cases h2
        obtain ⟨u, rfl⟩ := h1.str_inv
        exact wp_split S hy hx k) hbase (by rw [hs]; rfl) hline (by rw [hs]; rfl)
end Fm
end Mine

/-! Fw11 -/
namespace Mine
open PySem PySem.Spec PyProof.Rows
/-- data that can be laid, of depth k at most -/
def Sh (k : Nat) (d : PyData) : Prop := PyData.canLay0 d = true ∧ PyData.depth d ≤ k
theorem Sh.shaped {k : Nat} {d : PyData} (h : Sh k d) (hk : k ≤ 64) : SeqAt.shaped d = true := by
  unfold SeqAt.shaped; rw [Bool.and_eq_true]; exact ⟨h.1, decide_eq_true (Nat.le_trans h.2 hk)⟩
theorem Sh.mono {k m : Nat} {d : PyData} (h : Sh k d) (hk : k ≤ m) : Sh m d := ⟨h.1, Nat.le_trans h.2 hk⟩
theorem Sh.none : Sh 0 .none := ⟨rfl, by simp [PyData.depth]⟩
theorem Sh.bool (b : Bool) : Sh 0 (.bool b) := ⟨rfl, by simp [PyData.depth]⟩
theorem Sh.int (i : Int) : Sh 0 (.int i) := ⟨rfl, by simp [PyData.depth]⟩
theorem Sh.str {x : Str} (h : PyData.strOk x = true) : Sh 0 (.str x) := ⟨by rw [PyData.canLay0]; exact h, by simp [PyData.depth]⟩
theorem Sh.all {k : Nat} : ∀ {ds : List PyData}, (∀ d ∈ ds, Sh k d) → PyData.canLayAll0 ds = true ∧ PyData.depthAll ds ≤ k
  | [], _ => ⟨rfl, by simp [PyData.depthAll]⟩
  | d :: ds, h => by
    obtain ⟨a, b⟩ := h d (List.mem_cons_self ..)
    obtain ⟨a', b'⟩ := Sh.all (ds := ds) fun e he => h e (List.mem_cons_of_mem _ he)
    refine ⟨by rw [PyData.canLayAll0, a, a']; rfl, ?_⟩
    simp only [PyData.depthAll]; omega
theorem Sh.list {k : Nat} {ds : List PyData} (h : ∀ d ∈ ds, Sh k d) : Sh (k + 1) (.list ds) := by
  obtain ⟨a, b⟩ := Sh.all h
  exact ⟨by rw [PyData.canLay0]; exact a, by simp only [PyData.depth]; omega⟩
theorem Sh.tuple {k : Nat} {ds : List PyData} (h : ∀ d ∈ ds, Sh k d) : Sh (k + 1) (.tuple ds) := by
  obtain ⟨a, b⟩ := Sh.all h
  exact ⟨by rw [PyData.canLay0]; exact a, by simp only [PyData.depth]; omega⟩

namespace Fm
variable {F : Fm} {ρ : List (Str × Ty)} {s s' : Shared}

/-- a while: a state of its own, an invariant, a measure -/
theorem wp_while {σ : Type} {test : Expr} {body rest : List Stmt} {pos : Pos} {E : Value → Shared → Prop} {Q : Flow → Shared → Prop} (m : σ → Nat) (ρf : σ → List (Str × Ty)) (b : σ → Bool) (ok : σ → Prop) (x₀ : σ)
    (h₀ : ok x₀) (S : F.St (ρf x₀) s) (ht : ∀ x, ok x → F.Ts (ρf x) test (b x))
    (hb : ∀ x, ok x → b x = true → ∀ s, F.St (ρf x) s → F.Run body (fun fl s' => fl = .next ∧ ∃ y, ok y ∧ m y < m x ∧ F.St (ρf y) s') (fun _ _ => False) s)
    (hend : ∀ x s, ok x → b x = false → F.St (ρf x) s → F.Run rest Q E s) : F.Run (.While test body [] pos :: rest) Q E s := by
  refine .mk <| wpAny_execs_cons (wpAny_While ?_)
  refine codeAny_whileLoop (fun k s => ∃ x, ok x ∧ m x = k ∧ F.St (ρf x) s) ?_ (m x₀) ⟨x₀, h₀, rfl, S⟩
  rintro k s ⟨x, hx, rfl, S⟩
  refine ht x hx s S _ _ fun s₁ _ S₁ => ?_
  cases hbx : b x with
  | false =>
    simp only [Bool.false_eq_true, if_false]
    exact wpAny_execs_nil (hend x s₁ hx hbx S₁).wp
  | true =>
    simp only [if_true]
    refine wpAny_mono (hb x hx hbx s₁ S₁).wp (fun fl s₂ h => ?_) fun _ _ e => e.elim
    obtain ⟨rfl, y, h1, h2, h3⟩ := h
    exact ⟨m y, h2, y, h1, rfl, h3⟩

/-- the sign c, k times -/
def rep (c : Nat) (k : Nat) : Str := ⟨(List.replicate k c).toArray⟩
theorem fold_rep (c : Nat) : ∀ (k : Nat) (acc : Array Nat), (List.replicate k #[c]).foldl (· ++ ·) acc = acc ++ (List.replicate k c).toArray
  | 0, acc => by simp
  | k + 1, acc => by
    rw [List.replicate_succ, List.foldl_cons, fold_rep c k, List.replicate_succ]
    apply Array.ext'
    simp
theorem Ev.mul_one {l r : Expr} {pos : Pos} {c : Nat} {k : Nat} (hl : F.Ev ρ l (tS ⟨#[c]⟩)) (hr : F.Ev ρ r (tI k)) (hk : k ≤ 1000000) : F.Ev ρ (.BinOp l .Mult r pos) (tS (rep c k)) :=
  Ev.bin hl hr fun s S a b ha hb E Q q => by
    obtain ⟨t, rfl⟩ := ha.str_inv; obtain ⟨u, rfl⟩ := hb.int_inv
    have h1 : ¬ ((k : Int) < -(2 ^ 63 : Int)) := by omega
    have h2 : ¬ ((k : Int) ≥ 2 ^ 63) := by omega
    refine P.mul_str (by simp only [h1, h2, decide_false, Bool.or_self]) (fun h3 _ h4 => ?_) (fun h3 _ => ?_) ?_
    · have e1 : ((⟨#[c]⟩ : Str).length : Int) = 1 := rfl
      rw [e1] at h4
      have : (1 : Int) ≤ (2 ^ 63 - 1) / (k : Int) := by
        rw [Int.le_ediv_iff_mul_le (by omega)]; omega
      omega
    · have e1 : (⟨#[c]⟩ : Str).length = 1 := rfl
      rw [e1, Int.toNat_natCast]; unfold Builtin.Str.tooLong; rw [sizeLine_eq]; exact decide_eq_false (by omega)
    · split
      · have : k = 0 := by omega
        subst this
        exact ⟨by decide, q _ _ (.toks' (Nat.le_succ _)) (.str _ _)⟩
      · split
        · have : k = 1 := by
            rename_i h3 h4
            have : ((k : Int) == 1) = true := by simpa [Str.length] using h4
            have := eq_of_beq this; omega
          subst this
          exact q _ s (.refl _ _) (.str _ _)
        · have e : (⟨(List.replicate (k : Int).toNat (⟨#[c]⟩ : Str).cps).foldl (· ++ ·) #[]⟩ : Str) = rep c k := by
            unfold rep; rw [Int.toNat_natCast]; congr 1; rw [fold_rep]; simp
          rw [e]
          exact ⟨by rw [sizeLine_eq]; show (List.replicate k c).toArray.size ≤ _; simp; omega, q _ _ (.toks' (Nat.le_succ _)) (.str _ _)⟩
end Fm
end Mine

/-! U1 -/
namespace Mine
open PySem PySem.Spec PyProof.Rows PySem.Builtin.Str

abbrev L (x : Str) : List Nat := x.cps.toList
theorem L_app (x y : Str) : L (x ++ y) = L x ++ L y := by show (x.cps ++ y.cps).toList = _; simp
theorem L_inj {x y : Str} (h : L x = L y) : x = y := Str.ext' (Array.ext' h)
theorem L_len (x : Str) : (L x).length = x.length := by simp [L, Str.length]
theorem L_mk (l : List Nat) : L ⟨l.toArray⟩ = l := rfl
theorem L_sub (x : Str) (i j : Nat) : L (strSub x i j) = ((L x).drop i).take (j - i) := StrLaws.strSub_toList x i j

/-- places of a sign -/
def posF (c : Nat) : List Nat → Nat → List Nat
  | [], _ => []
  | a :: l, k => if a = c then k :: posF c l (k + 1) else posF c l (k + 1)
theorem posF_filter (c : Nat) (l : List Nat) : ∀ (m k : Nat), k + m = l.length → posF c (l.drop k) k = (List.range' k m).filter fun i => l[i]? == some c := by
  intro m
  induction m with
  | zero => intro k h; rw [List.drop_eq_nil_of_le (by omega)]; rfl
  | succ m ih =>
    intro k h
    have hk : k < l.length := by omega
    rw [List.drop_eq_getElem_cons hk, List.range'_succ, posF, List.filter_cons, ih (k + 1) (by omega), List.getElem?_eq_getElem hk]
    by_cases hc : l[k] = c
    · simp [hc]
    · have : (some l[k] == some c) = false := by simpa using hc
      rw [if_neg hc, this]; rfl
theorem posF_eq (c : Nat) (l : List Nat) : posF c l 0 = (List.range l.length).filter fun i => l[i]? == some c := by
  have := posF_filter c l l.length 0 (by omega)
  rw [List.drop_zero] at this
  rw [this, List.range_eq_range']
theorem posF_free (c : Nat) : ∀ (l : List Nat) (k : Nat), c ∉ l → posF c l k = []
  | [], _, _ => rfl
  | a :: l, k, h => by
    rw [posF, if_neg (fun e => h (by simp [e])), posF_free c l (k + 1) (fun e => h (List.mem_cons_of_mem _ e))]
theorem posF_app (c : Nat) : ∀ (l m : List Nat) (k : Nat), posF c (l ++ m) k = posF c l k ++ posF c m (k + l.length)
  | [], m, k => by simp [posF]
  | a :: l, m, k => by
    rw [List.cons_append, posF, posF, posF_app c l m (k + 1), List.length_cons, show k + 1 + l.length = k + (l.length + 1) from by omega]
    split <;> simp
theorem posF_mem (c : Nat) : ∀ (l : List Nat) (k i : Nat), i ∈ posF c l k → k ≤ i ∧ i < k + l.length
  | [], _, _, h => nomatch h
  | a :: l, k, i, h => by
    rw [posF] at h
    simp only [List.length_cons]
    split at h
    · rcases List.mem_cons.mp h with q | q
      · omega
      · have := posF_mem c l (k + 1) i q; omega
    · have := posF_mem c l (k + 1) i h; omega
theorem posF_sorted (c : Nat) : ∀ (l : List Nat) (k : Nat), (posF c l k).Pairwise (· < ·)
  | [], _ => .nil
  | a :: l, k => by
    rw [posF]; split
    · exact List.pairwise_cons.mpr ⟨fun i hi => by have := posF_mem c l (k + 1) i hi; omega, posF_sorted c l (k + 1)⟩
    · exact posF_sorted c l (k + 1)

theorem occ_run (x : Str) (c limit : Nat) : ∀ (m i : Nat) (st : Array Nat × Nat), i + m = x.length + 1 → st.snd ≤ i → st.fst.size ≤ limit →
    (forIn (List.range' i m) st (StrLaws.occBody x ⟨#[c]⟩ x.length limit)).run.fst.toList = st.fst.toList ++ (posF c ((L x).drop i) i).take (limit - st.fst.size) := by
  intro m
  induction m with
  | zero =>
    intro i st h _ _
    rw [List.drop_eq_nil_of_le (by rw [L_len]; omega)]
    simp [posF]
  | succ m ih =>
    intro i st h hs hl
    rw [List.range'_succ, List.forIn_cons]
    have key := StrLaws.subAt_one x c i
    by_cases hc : (L x)[i]? = some c
    · obtain ⟨hlt, hget⟩ := List.getElem?_eq_some_iff.mp hc
      have hd : (L x).drop i = c :: (L x).drop (i + 1) := by rw [List.drop_eq_getElem_cons hlt, hget]
      obtain ⟨k1, k2⟩ := key.mpr hc
      by_cases hf : st.fst.size < limit
      · have e : StrLaws.occBody x ⟨#[c]⟩ x.length limit i st = pure (ForInStep.yield (st.fst.push i, i + 1)) := by
          unfold StrLaws.occBody; rw [if_pos ⟨⟨⟨hf, hs⟩, k1⟩, k2⟩]; rfl
        rw [e]
        show (forIn (List.range' (i + 1) m) (st.fst.push i, i + 1) (StrLaws.occBody x ⟨#[c]⟩ x.length limit)).run.fst.toList = _
        rw [ih (i + 1) _ (by omega) (Nat.le_refl _) (by simp; omega), hd, posF, if_pos rfl]
        obtain ⟨r, hr⟩ : ∃ r, limit - st.fst.size = r + 1 := ⟨limit - st.fst.size - 1, by omega⟩
        rw [hr, List.take_succ_cons]
        have : limit - (st.fst.push i).size = r := by simp; omega
        rw [this]; simp
      · have e : StrLaws.occBody x ⟨#[c]⟩ x.length limit i st = pure (ForInStep.yield (st.fst, st.snd)) := by
          unfold StrLaws.occBody; rw [if_neg]; intro q; exact hf q.1.1.1
        rw [e]
        show (forIn (List.range' (i + 1) m) (st.fst, st.snd) (StrLaws.occBody x ⟨#[c]⟩ x.length limit)).run.fst.toList = _
        rw [ih (i + 1) _ (by omega) (by show st.snd ≤ i + 1; omega) hl]
        have : limit - st.fst.size = 0 := by omega
        simp [this]
    · have e : StrLaws.occBody x ⟨#[c]⟩ x.length limit i st = pure (ForInStep.yield (st.fst, st.snd)) := by
        unfold StrLaws.occBody; rw [if_neg]; intro q; exact hc (key.mp ⟨q.1.2, q.2⟩)
      rw [e]
      show (forIn (List.range' (i + 1) m) (st.fst, st.snd) (StrLaws.occBody x ⟨#[c]⟩ x.length limit)).run.fst.toList = _
      rw [ih (i + 1) _ (by omega) (by show st.snd ≤ i + 1; omega) hl]
      by_cases hi : i < (L x).length
      · rw [List.drop_eq_getElem_cons hi, posF, if_neg (fun q => hc (by rw [List.getElem?_eq_getElem hi, q]))]
      · rw [List.drop_eq_nil_of_le (by omega), List.drop_eq_nil_of_le (by omega)]; rfl

theorem occ_one (x : Str) (c limit : Nat) : occurrences x ⟨#[c]⟩ 0 x.length limit = (posF c (L x) 0).take limit := by
  rw [StrLaws.occ_eq]
  have := occ_run x c limit (x.length + 1) 0 (#[], 0) (by omega) (Nat.le_refl _) (Nat.zero_le _)
  simpa using this

theorem posF_nil_iff (c : Nat) (l : List Nat) (k : Nat) : posF c l k = [] ↔ c ∉ l := by
  refine ⟨fun h hm => ?_, posF_free c l k⟩
  obtain ⟨a, b, rfl⟩ := List.append_of_mem hm
  rw [posF_app, posF, if_pos rfl] at h
  simp at h

theorem splitMax_parts (x : Str) (c : Nat) (k : Nat) (hk : 0 < k) : Txt.splitMax x ⟨#[c]⟩ (k : Int) = partsBetween x ((posF c (L x) 0).take k) 1 := by
  have hz : Txt.splitMax x ⟨#[c]⟩ (k : Int) = if c ∈ L x then partsBetween x ((posF c (L x) 0).take k) 1 else [x] := by
    unfold Txt.splitMax
    have hlim : limitOf x (k : Int) = k := by unfold limitOf; rw [if_neg (by omega)]; omega
    rw [hlim, occ_one]
    by_cases hm : c ∈ L x
    · rw [if_pos hm]
      have h1 : (decide (x.length < (⟨#[c]⟩ : Str).length) || decide (strKind x < strKind ⟨#[c]⟩)) = false := by
        rw [Bool.or_eq_false_iff]
        refine ⟨decide_eq_false ?_, decide_eq_false fun h => StrLaws.kind_free x c h hm⟩
        show ¬ x.length < 1
        rw [← L_len]; have := List.length_pos_of_mem hm; omega
      rw [h1, if_neg Bool.false_ne_true]
      have h2 : ((posF c (L x) 0).take k).isEmpty = false := by
        cases hp : posF c (L x) 0 with
        | nil => exact absurd hm ((posF_nil_iff c (L x) 0).mp hp)
        | cons a l => obtain ⟨j, rfl⟩ : ∃ j, k = j + 1 := ⟨k - 1, by omega⟩
                      rfl
      rw [h2, if_neg Bool.false_ne_true]; rfl
    · rw [if_neg hm, posF_free c _ 0 hm]
      split
      · rfl
      · simp
  rw [hz]
  split
  · rfl
  · rename_i hm
    rw [posF_free c _ 0 hm]
    simp [partsBetween, StrLaws.sub_whole]

/-- the pieces of a split -/
def spl (c : Nat) : List Nat → List (List Nat)
  | [] => [[]]
  | a :: l => if a = c then [] :: spl c l else (match spl c l with | [] => [[a]] | p :: r => (a :: p) :: r)
theorem spl_ne (c : Nat) : ∀ l, spl c l ≠ []
  | [] => by simp [spl]
  | a :: l => by
    unfold spl; split
    · simp
    · split <;> simp
theorem spl_free (c : Nat) : ∀ l : List Nat, c ∉ l → spl c l = [l]
  | [], _ => rfl
  | a :: l, h => by rw [spl, if_neg (fun e => h (by simp [e])), spl_free c l (fun e => h (List.mem_cons_of_mem _ e))]
theorem spl_cons (c : Nat) : ∀ (l m : List Nat), c ∉ l → spl c (l ++ c :: m) = l :: spl c m
  | [], m, _ => by simp [spl]
  | a :: l, m, h => by rw [List.cons_append, spl, if_neg (fun e => h (by simp [e])), spl_cons c l m (fun e => h (List.mem_cons_of_mem _ e))]
def inter (sep : List Nat) : List (List Nat) → List Nat
  | [] => []
  | [p] => p
  | p :: q :: r => p ++ sep ++ inter sep (q :: r)
theorem spl_inter (c : Nat) : ∀ (ps : List (List Nat)), ps ≠ [] → (∀ p ∈ ps, c ∉ p) → spl c (inter [c] ps) = ps
  | [], h, _ => absurd rfl h
  | [p], _, h => spl_free c p (h p (by simp))
  | p :: q :: r, _, h => by
    rw [inter, List.append_assoc, List.singleton_append, spl_cons c p _ (h p (by simp)), spl_inter c (q :: r) (by simp) (fun x hx => h x (List.mem_cons_of_mem _ hx))]
theorem inter_spl (c : Nat) : ∀ l : List Nat, inter [c] (spl c l) = l
  | [] => rfl
  | a :: l => by
    have ih := inter_spl c l
    rw [spl]; split
    · rename_i h; subst h
      cases hs : spl a l with
      | nil => exact absurd hs (spl_ne a l)
      | cons p r => rw [hs] at ih; rw [inter, ih]; rfl
    · cases hs : spl c l with
      | nil => exact absurd hs (spl_ne c l)
      | cons p r =>
        rw [hs] at ih
        dsimp only
        cases r with
        | nil => simp only [inter] at ih ⊢; rw [ih]
        | cons q r => simp only [inter] at ih ⊢; rw [← ih]; simp
theorem spl_mem_free (c : Nat) : ∀ (l : List Nat), ∀ p ∈ spl c l, c ∉ p
  | [], p, h => by simp [spl] at h; subst h; simp
  | a :: l, p, h => by
    rw [spl] at h; split at h
    · rcases List.mem_cons.mp h with q | q
      · subst q; simp
      · exact spl_mem_free c l p q
    · rename_i hac
      cases hs : spl c l with
      | nil => exact absurd hs (spl_ne c l)
      | cons p' r =>
        rw [hs] at h
        rcases List.mem_cons.mp h with q | q
        · subst q
          have := spl_mem_free c l p' (by rw [hs]; simp)
          simp [this, Ne.symm hac]
        · exact spl_mem_free c l p (by rw [hs]; exact List.mem_cons_of_mem _ q)
theorem L_join (sep : Str) : ∀ ps : List Str, L (Str.join sep ps) = inter (L sep) (ps.map L)
  | [] => rfl
  | [p] => rfl
  | p :: q :: r => by
    show L (p ++ sep ++ Str.join sep (q :: r)) = _
    rw [L_app, L_app, L_join sep (q :: r)]; rfl
theorem L_tjoin (sep : Str) (ps : List Str) : L (Txt.join sep ps) = inter (L sep) (ps.map L) := by
  unfold Txt.join; rw [glued_eq_join']; exact L_join sep ps
where glued_eq_join' {sep : Str} {ps : List Str} : glued sep ps = Str.join sep ps := StrLaws.glued_eq_join sep ps
end Mine

/-! U2 -/
namespace Mine
open PySem PySem.Spec PyProof.Rows PySem.Builtin.Str

theorem split_ne (x : Str) (c : Nat) : Txt.split x ⟨#[c]⟩ ≠ [] := by
  unfold Txt.split
  split
  · simp
  · split
    · simp
    · rw [StrLaws.partsBetween_eq]
      obtain ⟨p, r, e⟩ := StrLaws.partsFrom_ne x (⟨#[c]⟩ : Str).length 0 (occurrences x ⟨#[c]⟩ 0 x.length (x.length + 1))
      rw [e]; simp
theorem L_split (x : Str) (c : Nat) : (Txt.split x ⟨#[c]⟩).map L = spl c (L x) := by
  have h := spl_inter c ((Txt.split x ⟨#[c]⟩).map L) (by simpa using split_ne x c) (fun p hp => by
    obtain ⟨q, hq, rfl⟩ := List.mem_map.mp hp
    exact StrLaws.split_free x c q hq)
  rw [← h]
  congr 1
  have := L_join ⟨#[c]⟩ (Txt.split x ⟨#[c]⟩)
  rw [StrLaws.join_split] at this
  exact this.symm
theorem flat_inter (c : Nat) (z : List Nat) : ∀ ps : List (List Nat), (∀ p ∈ ps, c ∉ p) → (inter [c] ps).flatMap (fun a => if a = c then z else [a]) = inter z ps
  | [], _ => rfl
  | [p], h => by rw [inter, inter]; exact one p (h p (by simp))
  | p :: q :: r, h => by
    rw [inter, inter, List.flatMap_append, List.flatMap_append, flat_inter c z (q :: r) (fun x hx => h x (List.mem_cons_of_mem _ hx)), one p (h p (by simp))]
    simp
where one : ∀ p : List Nat, c ∉ p → p.flatMap (fun a => if a = c then z else [a]) = p
  | [], _ => rfl
  | a :: p, h => by rw [List.flatMap_cons, if_neg (fun e => h (by simp [e])), one p (fun e => h (List.mem_cons_of_mem _ e))]; rfl
theorem L_replace (x z : Str) (c : Nat) : L (Txt.replace x ⟨#[c]⟩ z) = (L x).flatMap fun a => if a = c then L z else [a] := by
  rw [StrLaws.replace_one, L_join]
  have e : L x = inter [c] ((Txt.split x ⟨#[c]⟩).map L) := by
    have := L_join ⟨#[c]⟩ (Txt.split x ⟨#[c]⟩)
    rw [StrLaws.join_split] at this; exact this
  rw [e, flat_inter c (L z) _ (fun p hp => by
    obtain ⟨q, hq, rfl⟩ := List.mem_map.mp hp
    exact StrLaws.split_free x c q hq)]

def esc (a : Nat) : List Nat := if a = 92 then [92, 92] else if a = 34 then [92, 34] else [a]
theorem esc_len (a : Nat) : (esc a).length ≤ 2 := by unfold esc; split; simp; split <;> simp
theorem flat_esc_len (l : List Nat) : (l.flatMap esc).length ≤ 2 * l.length := by
  induction l with
  | nil => simp
  | cons a l ih => rw [List.flatMap_cons, List.length_append, List.length_cons]; have := esc_len a; omega
theorem L_esc (x : Str) : L (Txt.replace (Txt.replace x "\\" "\\\\") "\"" "\\\"") = (L x).flatMap esc := by
  rw [show Str.ofString "\\" = (⟨#[92]⟩ : Str) from rfl, show Str.ofString "\"" = (⟨#[34]⟩ : Str) from rfl, L_replace, L_replace, List.flatMap_assoc]
  congr 1
  funext a
  have e1 : L (Str.ofString "\\\\") = [92, 92] := rfl
  have e2 : L (Str.ofString "\\\"") = [92, 34] := rfl
  rw [e1, e2]
  unfold esc
  by_cases h : a = 92
  · subst h; rfl
  · rw [if_neg h, if_neg h]
    by_cases h2 : a = 34
    · subst h2; rfl
    · simp [h2]

theorem splitMax_1 {x : Str} {c : Nat} (h : c ∉ L x) : Txt.splitMax x ⟨#[c]⟩ 1 = [x] := by
  have := splitMax_parts x c 1 (by decide)
  rw [show ((1 : Nat) : Int) = 1 from rfl] at this
  rw [this, posF_free c _ 0 h]
  simp [partsBetween, StrLaws.sub_whole]
theorem splitMax_2 {x : Str} {c : Nat} {a b : Str} (h : L x = L a ++ c :: L b) (ha : c ∉ L a) : Txt.splitMax x ⟨#[c]⟩ 1 = [a, b] := by
  have := splitMax_parts x c 1 (by decide)
  rw [show ((1 : Nat) : Int) = 1 from rfl] at this
  have e : (posF c (L x) 0).take 1 = [(L a).length] := by
    rw [h, posF_app, posF_free c _ 0 ha, posF, if_pos rfl, Nat.zero_add]; rfl
  rw [this, e, StrLaws.partsBetween_eq]
  show [strSub x 0 (L a).length, strSub x ((L a).length + 1) x.length] = [a, b]
  have e1 : strSub x 0 (L a).length = a := L_inj (by rw [L_sub, h]; simp)
  have hl : x.length = (L a).length + 1 + (L b).length := by rw [← L_len x, h]; simp; omega
  have e2 : strSub x ((L a).length + 1) x.length = b := L_inj (by
    rw [L_sub, h, hl, Nat.add_sub_cancel_left]
    have : (L a ++ c :: L b).drop ((L a).length + 1) = L b := by
      rw [show L a ++ c :: L b = (L a ++ [c]) ++ L b from by simp, List.drop_append_of_le_length (by simp)]; simp
    rw [this, List.take_length])
  rw [e1, e2]

/-! ## slices -/
theorem L_slice_ss (x : Str) {i j : Nat} (h : i ≤ j) (hj : j ≤ x.length) : L (Txt.slice x (some (i : Nat)) (some (j : Nat))) = ((L x).drop i).take (j - i) := by
  show L (StrLaws.sliceText x _ _) = _
  rw [StrLaws.sliceText_nat x h hj]
theorem L_slice_to (x : Str) {j : Nat} (hj : j ≤ x.length) : L (Txt.slice x none (some (j : Nat))) = (L x).take j := by
  have : Txt.slice x none (some (j : Nat)) = Txt.slice x (some ((0 : Nat) : Int)) (some (j : Nat)) := by unfold Txt.slice; rw [StrLaws.sliceIdx_none_lo]; rfl
  rw [this, L_slice_ss x (Nat.zero_le _) hj]; simp
theorem L_slice_from (x : Str) {i : Nat} (hi : i ≤ x.length) : L (Txt.slice x (some (i : Nat)) none) = (L x).drop i := by
  have : Txt.slice x (some (i : Nat)) none = Txt.slice x (some (i : Nat)) (some (x.length : Nat)) := by unfold Txt.slice; rw [StrLaws.sliceIdx_none_hi]
  rw [this, L_slice_ss x hi (Nat.le_refl _), List.take_of_length_le]
  rw [List.length_drop, L_len]; exact Nat.le_refl _
theorem slice_sub_ss (x : Str) {i j : Nat} (h : i ≤ j) (hj : j ≤ x.length) : Txt.slice x (some (i : Nat)) (some (j : Nat)) = strSub x i j := L_inj (by rw [L_slice_ss x h hj, L_sub])
theorem slice_sub_to (x : Str) {j : Nat} (hj : j ≤ x.length) : Txt.slice x none (some (j : Nat)) = strSub x 0 j := L_inj (by rw [L_slice_to x hj, L_sub]; simp)
theorem slice_sub_from (x : Str) {i : Nat} (hi : i ≤ x.length) : Txt.slice x (some (i : Nat)) none = strSub x i x.length := L_inj (by
  rw [L_slice_from x hi, L_sub, List.take_of_length_le]; rw [List.length_drop, L_len]; exact Nat.le_refl _)
theorem L_slice_in (x : Str) {m : List Nat} {a b : Nat} (h : L x = a :: (m ++ [b])) : L (Txt.slice x (some 1) (some (-1))) = m := by
  have hl : x.length = m.length + 2 := by rw [← L_len, h]; simp
  have e : Txt.slice x (some 1) (some (-1)) = Txt.slice x (some ((1 : Nat) : Int)) (some ((m.length + 1 : Nat) : Int)) := by
    show StrLaws.sliceText x _ _ = StrLaws.sliceText x _ _
    rw [StrLaws.sliceText_neg_hi x _ (by decide) (by omega)]
    congr 2
    omega
  rw [e, L_slice_ss x (by omega) (by omega), h]
  simp

theorem subset_slice (x : Str) (l u : Option Int) : ∀ c ∈ L (Txt.slice x l u), c ∈ L x := by
  intro c hc
  unfold Txt.slice at hc
  split at hc
  · exact hc
  · have hc : c ∈ (strSliceIndices l u 1 x.length).filterMap (x.cps[·]?) := by simpa [L] using hc
    obtain ⟨i, _, hi⟩ := List.mem_filterMap.mp hc
    have := Array.mem_of_getElem? hi
    simpa [L] using this
end Mine

/-! D1 -/
namespace Mine
open PySem PySem.Spec PyProof.Rows
namespace Fm
variable {F : Fm} {ρ : List (Str × Ty)} {s s' : Shared}
theorem Ev.tick {pos : Pos} (hk : F.env.kindOf "TICK" = some .globalImplicit := by rfl) : F.Ev ρ (.Name "TICK" pos) (tS "'") := fun s S E Q k => by
  obtain ⟨t, ht⟩ := S.gl.tick
  exact Calls.Name_function_global S.kind hk (Calls.loadGlobal_global (by rw [S.glob]; exact S.g.g) ht (k _ s (.refl _ _) S (.str _ _)))
theorem Ev.splitMax {o e : Expr} {apos pos p : Pos} {k : Nat} {x y : Str} {n : Int} (ho : F.Ev ρ o (tS x)) (he : F.Ev ρ e (tS y)) (hx : x.length + 2 ≤ sizeLine) (hy : (y.length == 0) = false := by decide) (hk : (decide (n < -(2 ^ 63 : Int)) || decide (n ≥ 2 ^ 63)) = false := by decide)
    (hbase : attributeBase o "split" F.env (eval o F.env) = eval o F.env := by rfl)
    (hs : starEach [e, .Constant (.int n) k p] F.env = (false, eval e F.env) :: starEach [.Constant (.int n) k p] F.env := by rfl) (hline : (apos.endLine == pos.line) = true := by rfl) :
    F.Ev ρ (.Call (.Attribute o "split" apos) [e, .Constant (.int n) k p] [] pos) (tD (.list ((Txt.splitMax x y n).map .str))) :=
  Ev.strMeth PySem.F.slot_str_split PySem.F.type_str_split ho (Evs.cons he (Evs.cons .int .nil) hs) (fun s S t vs hvs E Q k => by
    cases hvs with
    | cons h1 h2 => cases h2 with
      | cons h3 h4 =>
        cases h4
        obtain ⟨u, rfl⟩ := h1.str_inv
        obtain ⟨v, rfl⟩ := h3.int_inv
        exact wp_splitMax S hy hk hx k) hbase (by rw [hs]; rfl) hline (by rw [hs]; rfl)
end Fm

def dec (x : Str) : PyData := if (Txt.splitMax x "'" 2).length ≤ 2 then .tuple [.none, .none, .str x] else .list ((Txt.splitMax x "'" 2).map .str)

theorem fn_decode {w : World} {mg mb : Str → Option Value} {x : Str} (hx : x.length ≤ 1000) : Fn w mg mb 1 "decode_rfc2231" [tS x] (tD (dec x)) := by
  refine Fn.intro (List.mem_of_getElem? (i := 7) (show theDefs[7]? = some (_, _, _, _) from rfl)) (xs := ["s"]) rfl ?_ (by decide) (by decide) ?_
  · intro pm cd doc vals hv
    obtain ⟨v, rfl⟩ := vals1 hv; rfl
  · intro A a cd s X hr s₁ S
    have hsz : (Txt.splitMax x "'" 2).length ≤ 2000 := by
      rw [show Str.ofString "'" = (⟨#[39]⟩ : Str) from rfl, show (2 : Int) = ((2 : Nat) : Int) from rfl, splitMax_parts x 39 2 (by decide), StrLaws.partsBetween_eq]
      have : ∀ (l : List Nat) (a : Nat), (StrLaws.partsFrom x 1 a l).length = l.length + 1 := by
        intro l
        induction l with
        | nil => intro a; rfl
        | cons c l ih => intro a; simp [StrLaws.partsFrom, ih]
      rw [this, List.length_take]; omega
    refine Fm.wp_assign S (Fm.Ev.splitMax (Fm.Ev.name rfl) Fm.Ev.tick (by rw [sizeLine_eq]; omega)) fun s₂ S₂ _ => ?_
    refine Fm.wp_if S₂ (Fm.Ts.cmp (Fm.Ev.len_list (Fm.Ev.name rfl) (by simp only [List.length_map]; rw [sizeLine_eq]; omega)) .int Fm.Cm.le_int) (fun hb s₃ S₃ _ => ?_) (fun hb s₃ S₃ _ => ?_)
    · refine Fm.wp_return S₃ (Fm.Ev.tuple (ds := [.none, .none, .str x]) (.cons .none (.cons .none (.cons (Fm.Ev.name rfl) .nil)))) fun v s' S' e' hv => ?_
      have : dec x = .tuple [.none, .none, .str x] := by unfold dec; rw [if_pos]; have := of_decide_eq_true hb; simp only [List.length_map] at this; omega
      rw [this]; exact S'.fin hv
    · refine Fm.wp_nil ?_
      refine Fm.wp_return S₃ (Fm.Ev.name rfl) fun v s' S' e' hv => ?_
      have : dec x = .list ((Txt.splitMax x "'" 2).map .str) := by unfold dec; rw [if_neg]; have := of_decide_eq_false hb; simp only [List.length_map] at this; omega
      rw [this]; exact S'.fin hv
end Mine

/-! Fw12 -/
namespace Mine
open PySem PySem.Spec PyProof.Rows

/-! ## dicts of texts -/
inductive SV : List (Str × Value) → List (Str × Str) → Prop
  | nil : SV [] []
  | cons {p : Str × Value} {q : Str × Str} {l : List (Str × Value)} {kvs : List (Str × Str)} : (p.1 = q.1 ∧ ∃ t, p.2 = .str q.2 t) → SV l kvs → SV (p :: l) (q :: kvs)
def put (kvs : List (Str × Str)) (k v : Str) : List (Str × Str) := if kvs.any (fun kv => kv.1 = k) then kvs.map (fun kv => if kv.1 = k then (kv.1, v) else kv) else kvs ++ [(k, v)]
theorem SV.any {l : List (Str × Value)} {kvs : List (Str × Str)} (h : SV l kvs) (k : Str) : (l.any fun kv => kv.1 = k) = kvs.any fun kv => kv.1 = k := by
  induction h with
  | nil => rfl
  | cons a _ ih => simp only [List.any_cons, ih, a.1]
theorem SV.map {l : List (Str × Value)} {kvs : List (Str × Str)} (h : SV l kvs) (k v : Str) (t : Tok) : SV (l.map fun kv => if kv.1 = k then (kv.1, .str v t) else kv) (kvs.map fun kv => if kv.1 = k then (kv.1, v) else kv) := by
  induction h with
  | nil => exact .nil
  | @cons p q _ _ a _ ih =>
    refine .cons ?_ ih
    dsimp only
    by_cases hk : q.1 = k
    · rw [if_pos (a.1.trans hk), if_pos hk]; exact ⟨a.1, t, rfl⟩
    · rw [if_neg (fun e => hk (a.1.symm.trans e)), if_neg hk]; exact a
theorem SV.append {l l' : List (Str × Value)} {kvs kvs' : List (Str × Str)} (h : SV l kvs) (h' : SV l' kvs') : SV (l ++ l') (kvs ++ kvs') := by
  induction h with
  | nil => exact h'
  | cons a _ ih => exact .cons a ih
theorem SV.stored {l : List (Str × Value)} {kvs : List (Str × Str)} (h : SV l kvs) (k v : Str) (t : Tok) : SV (PySem.stored l k (.str v t)) (put kvs k v) := by
  unfold PySem.stored put
  rw [h.any]
  split
  · exact h.map k v t
  · exact h.append (.cons ⟨rfl, t, rfl⟩ .nil)
theorem SV.length {l : List (Str × Value)} {kvs : List (Str × Str)} (h : SV l kvs) : l.length = kvs.length := by
  induction h with
  | nil => rfl
  | cons _ _ ih => simp [ih]
theorem SV.get {l : List (Str × Value)} {kvs : List (Str × Str)} (h : SV l kvs) : ∀ {i : Nat} {k : Str} {x : Value}, l[i]? = some (k, x) → ∃ v t, kvs[i]? = some (k, v) ∧ x = .str v t := by
  induction h with
  | nil => intro i k x e; simp at e
  | @cons p q _ _ a _ ih =>
    intro i k x e
    cases i with
    | zero =>
      simp only [List.getElem?_cons_zero, Option.some.injEq] at e
      obtain ⟨h1, t, h2⟩ := a
      refine ⟨q.2, t, ?_, ?_⟩
      · simp only [List.getElem?_cons_zero, Option.some.injEq]
        rw [e] at h1
        exact Prod.ext h1.symm rfl
      · rw [e] at h2; exact h2
    | succ i => simpa using ih (by simpa using e)

def pnDict (w : World) (kvs : List (Str × Str)) : Pn := ⟨fun _ o => ∃ l, o.IsDictOf (PySem.strKind PP w) l ∧ SV l kvs, fun _ _ _ _ h => h⟩
def tDc (w : World) (kvs : List (Str × Str)) : Ty := ⟨fun V v => ∃ a o, v = .ref a ∧ V a = some o ∧ (a == sysModules) = false ∧ ∃ l, o.IsDictOf (PySem.strKind PP w) l ∧ SV l kvs,
  fun _ _ _ h ⟨a, o, e, q, r⟩ => ⟨a, o, e, h _ _ q, r⟩⟩

namespace Fm
variable {F : Fm} {ρ : List (Str × Ty)} {s s' : Shared}

/-- x = {}, a dict that only this frame turns -/
theorem wp_newDict {x : Str} {px pos p : Pos} {rest : List Stmt} {E : Value → Shared → Prop} {Q : Flow → Shared → Prop} (S : F.St ρ s)
    (h : ∀ a s', a ∉ F.Z → (a == sysModules) = false → (F.add a (pnDict F.w [])).St ((x, tV (.ref a)) :: ρ) s' → (F.add a (pnDict F.w [])).Run rest Q E s')
    (hk : F.env.kindOf x = some .local := by rfl) : F.Run (.Assign [.Name x px] (.Dict [] [] p) pos :: rest) Q E s := by
  refine .mk <| wpAny_execs_cons (wpAny_Assign_Name (wpAny_Dict_empty ?_) rfl)
  have hZ : s.heap.objs.size ∉ F.Z := fun q => S.new (List.mem_append_right _ (List.mem_append_left _ q))
  have hm : (s.heap.objs.size == sysModules) = false := by
    have := modules_low S.g.nolimit
    have h9 : s.heap.objs.size ≠ sysModules := Nat.ne_of_gt this
    simpa using h9
  have S₁ := S.pin (P := pnDict F.w []) (G := gpTrue) (Ext.push s { cls := .type "dict", data := .dict #[] }) (no_top _) ⟨_, Heap.get?_push_size _ rfl, by
    obtain ⟨o, ho, hd⟩ := Heap.dictOf_iff.mp (Heap.DictOf.new (knd := PySem.strKind PP F.w) s.heap)
    rw [Heap.get?_push_size _ rfl] at ho
    exact ⟨[], (Option.some.inj ho) ▸ hd, .nil⟩⟩ trivial
  exact wp_store (F := F.add s.heap.objs.size (pnDict F.w [])) (T := tV (.ref s.heap.objs.size)) S₁ rfl hk fun s₂ S₂ _ => (h _ s₂ hZ hm S₂).wp

/-- x[i] = e, x a dict that only this frame turns -/
theorem wp_putDict {x : Str} {a : Addr} {px pos' pos : Pos} {e i : Expr} {kvs : List (Str × Str)} {k v : Str} {rest : List Stmt} {E : Value → Shared → Prop} {Q : Flow → Shared → Prop} (S : F.St ρ s) (hx : ρ.lookup x = some (tV (.ref a))) (ha : a ∈ F.Z) (hp : F.pn a = pnDict F.w kvs)
    (he : F.Ev ρ e (tS v)) (hi : F.Ev ρ i (tS k)) (hsz : kvs.length ≤ sizeLine) (h : ∀ s', (F.setPin a (pnDict F.w (put kvs k v))).St ρ s' → (F.setPin a (pnDict F.w (put kvs k v))).Run rest Q E s')
    (hs : swapsWith e (some (.Subscript (.Name x px) i pos')) pos.line F.env = pure false := by rfl)
    (hd : (x == ("__debug__" : Str)) = false := by decide) :
    F.Run (.Assign [.Subscript (.Name x px) i pos'] e pos :: rest) Q E s := by
  refine .mk <| wpAny_execs_cons (wpAny_Assign_Subscript ?_ hs)
  refine he s S E _ fun v₁ s₁ e₁ S₁ hv₁ => ?_
  refine (Ev.name (T := tV (.ref a)) hx hd : F.Ev ρ _ _) s₁ S₁ E _ fun v₂ s₂ e₂ S₂ hv₂ => ?_
  have hv₂ : v₂ = .ref a := hv₂
  subst hv₂
  refine hi s₂ S₂ E _ fun v₃ s₃ e₃ S₃ hv₃ => ?_
  obtain ⟨t, rfl⟩ := hv₁.str_inv
  obtain ⟨u, rfl⟩ := hv₃.str_inv
  obtain ⟨o, ho, hP⟩ := S₃.pinned a ha
  rw [hp] at hP
  obtain ⟨l, hd, hl⟩ := hP
  refine wpAny_setItem_pairs (hsz := by rw [hl.length]; exact hsz) (PySem.strKind_is PP F.w k u) (Heap.dictOf_iff.mpr ⟨o, ho, hd⟩) fun h' hm hs' => ?_
  obtain ⟨o', ho', hd'⟩ := Heap.dictOf_iff.mp hm
  have eb : ExtB [a] s₃ { s₃ with heap := h', toks := s₃.toks + 1 } := ExtB.sameBut hs' (by simp) ⟨_, ho'⟩ (Nat.le_succ _)
  exact (h _ (S₃.repin ha eb ⟨_, ho', _, hd', hl.stored k v t⟩)).wp

/-- a list taken apart -/
theorem Asg.listT {xs : List (Str × Pos)} {ds : List PyData} {k : Nat} {pos : Pos} (hl : xs.length = ds.length) (hk : ∀ x ∈ xs, F.env.kindOf x.1 = some .local) :
    F.Asg ρ (.Tuple (xs.map fun x => .Name x.1 x.2) k pos) (tD (.list ds)) (((xs.map (·.1)).zip (ds.map tD)).reverse ++ ρ) := fun s v S hv E Q q => by
  obtain ⟨a, vs, n, rfl, hT, hr⟩ := hv.list_inv
  have hlen := size_of hr
  have e1 : ∀ l : List (Str × Pos), assignEach (l.map fun x => Expr.Name x.1 x.2) F.env = l.map fun x => (false, assign (.Name x.1 x.2) F.env) := fun l => by
    induction l with
    | nil => rfl
    | cons y l ih => show (false, assign (.Name y.1 y.2) F.env) :: assignEach (l.map fun x => Expr.Name x.1 x.2) F.env = _; rw [ih]; rfl
  rw [arm_assign_Tuple]
  refine wpAny_bind (wpAny_standAt ?_)
  unfold unpack
  rw [e1]
  have e2 : (xs.map fun x => (false, assign (.Name x.1 x.2) F.env)).findIdx? (·.1) = none := by
    rw [List.findIdx?_eq_none_iff]
    intro y hy
    obtain ⟨z, _, rfl⟩ := List.mem_map.mp hy
    rfl
  rw [e2]
  refine wpAny_bind (wpAny_holding ?_)
  rw [show (xs.map fun x => (false, assign (.Name x.1 x.2) F.env)).length = vs.size from by rw [List.length_map, hl, hlen]]
  refine W.kun_itemsOf S.room.1 (isList_of hT) fun h' he => ?_
  rw [List.map_map]
  have ex := ext_extBut he
  exact wp_stores xs (S.ext ex) hl (RdAll.mono (cut_mono _ ex.le) hr) hk q

theorem wp_assignL {xs : List (Str × Pos)} {ds : List PyData} {k : Nat} {tpos pos : Pos} {e : Expr} {rest : List Stmt} {E : Value → Shared → Prop} {Q : Flow → Shared → Prop} (S : F.St ρ s) (he : F.Ev ρ e (tD (.list ds))) (hl : xs.length = ds.length)
    (h : ∀ s', F.St (((xs.map (·.1)).zip (ds.map tD)).reverse ++ ρ) s' → F.Run rest Q E s') (hk : (xs.all fun x => decide (F.env.kindOf x.1 = some .local)) = true := by rfl)
    (hs : swapsWithSole [.Tuple (xs.map fun x => .Name x.1 x.2) k tpos] e pos.line F.env = pure false := by rfl) (hw : swappedStores [.Tuple (xs.map fun x => .Name x.1 x.2) k tpos] e F.env = pure none := by rfl) :
    F.Run (.Assign [.Tuple (xs.map fun x => .Name x.1 x.2) k tpos] e pos :: rest) Q E s :=
  .mk <| wpAny_execs_cons (PyProof.Rows.Assign_Tuple (he s S E _ fun v s₁ e₁ S₁ hv => Asg.listT hl (fun x hx => of_decide_eq_true (List.all_eq_true.mp hk x hx)) s₁ v S₁ hv E _ fun s₂ S₂ => (h s₂ S₂).wp) hs hw)
end Fm
end Mine

/-! Fw13 -/
namespace Mine
open PySem PySem.Spec PyProof.Rows
namespace Fm
variable {F : Fm} {ρ : List (Str × Ty)} {s s' : Shared}

theorem wp_toksE {α : Type} {M : Model} {A : Around} {t : Sem α} {E : Value → Shared → Prop} {Q : α → Shared → Prop} (h : wpAny M A t Q (fun v s' => s.toks ≤ s'.toks → E v s') s) : wpAny M A t Q E s :=
  wpAny_mono (wpAny_toks h) (fun _ _ x => x.2) (fun _ _ x => x.2 x.1)

/-- an exception that was just made in this frame -/
def Rz (F : Fm) (cls : String) (e : Value) (s' : Shared) : Prop :=
  ∃ a h₂ m, e = .ref a ∧ (∀ b o, F.s0.heap.get? b = some o → h₂.get? b = some o) ∧ h₂.Ns F.env.locals m ∧ Heap.NewExc h₂ s'.heap a cls ∧ s'.os = F.s0.os ∧ GExt F.s0.gens s'.gens ∧ F.s0.toks ≤ s'.toks
theorem Rz.of {cls : String} {a : Addr} {h' : Heap} {tk : Nat} (S : F.St ρ s) (hx : Heap.NewExc s.heap h' a cls) (ht : s.toks ≤ tk) : F.Rz cls (.ref a) { s with heap := h', toks := tk } := by
  obtain ⟨m, hm⟩ := S.ns
  exact ⟨a, s.heap, m, rfl, S.base.all, hm, hx, S.base.os, S.base.gens, Nat.le_trans S.base.toks ht⟩

/-- two names = a list of one -/
theorem wp_assignShort {x y : Str} {px py : Pos} {d : PyData} {k : Nat} {tpos pos : Pos} {e : Expr} {rest : List Stmt} {E : Value → Shared → Prop} {Q : Flow → Shared → Prop} (S : F.St ρ s) (he : F.Ev ρ e (tD (.list [d])))
    (hE : ∀ e s', F.Rz "ValueError" e s' → E e s')
    (hs : swapsWithSole [.Tuple [.Name x px, .Name y py] k tpos] e pos.line F.env = pure false := by rfl) (hw : swappedStores [.Tuple [.Name x px, .Name y py] k tpos] e F.env = pure none := by rfl) :
    F.Run (.Assign [.Tuple [.Name x px, .Name y py] k tpos] e pos :: rest) Q E s := by
  refine .mk <| wpAny_execs_cons (PyProof.Rows.Assign_Tuple (he s S E _ fun v s₁ e₁ S₁ hv => ?_) hs hw)
  obtain ⟨a, vs, n, rfl, hT, hr⟩ := hv.list_inv
  have hlen : vs.size = 1 := size_of hr
  have hl := isList_of hT
  have hlt : a ≠ s₁.heap.objs.size := by obtain ⟨o, ho, _⟩ := hl; exact Nat.ne_of_lt (Heap.lt_size ho)
  rw [arm_assign_Tuple]
  refine wpAny_bind (wpAny_standAt ?_)
  unfold unpack
  refine wpAny_bind (wpAny_holding ?_)
  show wpAny F.M F.A (unpackItems (.ref a) 2 none) _ E s₁
  unfold unpackItems
  refine wpAny_bind ?_
  unfold notIterableAtAll
  refine wpAny_bind (wpAny_specialOf hl.typeIs slot_list_iter.lookup ?_)
  refine wpAny_pure ?_
  simp only [Bool.false_eq_true, if_false]
  refine wpAny_bind (wpAny_holding (wpAny_pyIter_list hl ?_))
  refine wpAny_bind (wpAny_holding ?_)
  show wpAny _ _ (pyNext (.ref s₁.heap.objs.size) >>= _) _ E _
  refine wpAny_bind (wpAny_pyNext_list_item (x := vs[0]'(by omega)) ⟨_, Heap.get?_push_size _ rfl, rfl, rfl⟩ (hl.push _) (by simp [hlen]) fun h₁ hit₁ hs₁ => ?_)
  refine wpAny_bind (wpAny_holding ?_)
  show wpAny _ _ (pyNext (.ref s₁.heap.objs.size) >>= _) _ E _
  have hl₁ : h₁.IsList a vs := (hl.push _).extBut hs₁.extBut hlt
  refine wpAny_bind (wpAny_pyNext_list_end S.room.1 hit₁ hl₁ (by simp [hlen]) fun h₂ he₂ => ?_)
  refine wpAny_pure (wpAny_pure ?_)
  rw [if_pos (by simp)]
  have ex : Ext s₁ { s₁ with heap := h₂ } := ext_of_keep fun b o hb => by
    have hbn : b ≠ s₁.heap.objs.size := Nat.ne_of_lt (Heap.lt_size hb)
    exact he₂ b o hbn (hs₁.extBut b o hbn (Heap.get?_push_of_some _ hb))
  refine wp_toksE ?_
  have fin : ∀ h' tk e, Heap.NewExc h₂ h' e "ValueError" → s₁.toks ≤ tk → E (.ref e) { s₁ with heap := h', toks := tk } := fun h' tk e hx ht => hE _ _ (Rz.of (s := { s₁ with heap := h₂ }) (S₁.ext ex) hx ht)
  dsimp only
  refine wpAny_bind (wpAny_rule (wpAny_bind (wpAny_raiseErrorMade plainExc_ValueError S.room.1 (fun h' tk e hx ht => fin h' tk e hx ht) ?_)))
  show (Str.ofString (toString "not enough values to unpack (expected " ++ toString 2 ++ toString ", got " ++ toString 1 ++ toString ")")).length ≤ sizeLine
  decide +kernel

/-- a test whose first part asks an empty text for its first sign -/
theorem wp_ifShort {pos cpos spos bpos p : Pos} {kk : Nat} {value cr : Expr} {op : CmpOp} {r : List Expr} {x : Str} {i : Int} {body orelse rest : List Stmt} {E : Value → Shared → Prop} {Q : Flow → Shared → Prop} (S : F.St ρ s) (hv : F.Ev ρ value (tS x)) (hx : (seqIndex? i x.length).bind (x.cps[·]?) = none)
    (hr : (decide (i < -(2 ^ 63 : Int)) || decide (i ≥ 2 ^ 63)) = false) (hE : ∀ e s', F.Rz "IndexError" e s' → E e s') (hm : behindInMarks op cr = false := by with_unfolding_all rfl) :
    F.Run (.If (.BoolOp .And (.Compare (.Subscript value (.Constant (.int i) kk p) spos) [op] [cr] cpos :: r) bpos) body orelse pos :: rest) Q E s := by
  refine .mk <| wpAny_execs_cons (wpAny_If (isTrue_and (wpAny_isTrue_Compare1 ?_ hm)))
  refine Subscript_ (hv s S E _ fun o s₁ e₁ S₁ ho => (Ev.int : F.Ev ρ _ (tI i)) s₁ S₁ E _ fun j s₂ e₂ S₂ hj => ?_)
  obtain ⟨t, rfl⟩ := ho.str_inv
  obtain ⟨u, rfl⟩ := hj.int_inv
  refine tail_any (typeIs_str _ _ _) slot_str_getitem.lookup (wp_toksE ?_) rfl
  exact getItem_meets (typeIs_str _ _ _) (by decide) PySem.F.slot_str_getitem PySem.F.entry_str_getitem (PySem.F.args_str_getitem_2 _ _) (raises_str_getitem x i t u hr hx) ⟨S.room.1, fun h' tk e hx ht => hE _ _ (Rz.of S₂ hx ht)⟩
end Fm
end Mine

/-! S1 -/
namespace Mine
open PySem PySem.Spec PyProof.Rows
namespace Fm
variable {F : Fm} {ρ : List (Str × Ty)} {s s' : Shared}
theorem Ev.startswith {o e : Expr} {apos pos : Pos} {x y : Str} (ho : F.Ev ρ o (tS x)) (he : F.Ev ρ e (tS y))
    (hbase : attributeBase o "startswith" F.env (eval o F.env) = eval o F.env := by rfl)
    (hs : starEach [e] F.env = (false, eval e F.env) :: starEach [] F.env := by rfl) (hline : (apos.endLine == pos.line) = true := by rfl) :
    F.Ev ρ (.Call (.Attribute o "startswith" apos) [e] [] pos) (tB (Txt.startswith x y)) :=
  Ev.strMeth PySem.F.slot_str_startswith PySem.F.type_str_startswith ho (Evs.cons he .nil hs) (fun s S t vs hvs E Q k => by
    cases hvs with
    | cons h1 h2 =>
        cases h2
        obtain ⟨u, rfl⟩ := h1.str_inv
        exact SC.startswith (k _ s (.refl _ _) (.bool _))) hbase (by rw [hs]; rfl) hline (by rw [hs]; rfl)
theorem iadd_str_op {x y : Str} (hsz : x.length + y.length ≤ sizeLine) : ∀ s, F.St ρ s → ∀ a b, (tS x).P (cut (vw s) F.X) a → (tS y).P (cut (vw s) F.X) b → ∀ (E : Value → Shared → Prop) (Q : Value → Shared → Prop), (∀ v s', Ext s s' → (tS (x ++ y)).P (cut (vw s') F.X) v → Q v s') → wpAny F.M F.A (inplaceOp .Add a b) Q E s := by
  intro s S a b ha hb E Q k
  obtain ⟨t, rfl⟩ := ha.str_inv
  obtain ⟨u, rfl⟩ := hb.str_inv
  exact wp_toks (PyProof.Rows.iadd_str (fun t' tk ht => k _ _ (.toks' ht) (.str _ _)) hsz)
theorem iadd_int_op {x y : Int} : ∀ s, F.St ρ s → ∀ a b, (tI x).P (cut (vw s) F.X) a → (tI y).P (cut (vw s) F.X) b → ∀ (E : Value → Shared → Prop) (Q : Value → Shared → Prop), (∀ v s', Ext s s' → (tI (x + y)).P (cut (vw s') F.X) v → Q v s') → wpAny F.M F.A (inplaceOp .Add a b) Q E s := by
  intro s S a b ha hb E Q k
  obtain ⟨t, rfl⟩ := ha.int_inv
  obtain ⟨u, rfl⟩ := hb.int_inv
  exact PyProof.Rows.iadd_int (k _ _ (.toks' (Nat.le_succ _)) (.int _ _))
theorem isub_int_op {x y : Int} : ∀ s, F.St ρ s → ∀ a b, (tI x).P (cut (vw s) F.X) a → (tI y).P (cut (vw s) F.X) b → ∀ (E : Value → Shared → Prop) (Q : Value → Shared → Prop), (∀ v s', Ext s s' → (tI (x - y)).P (cut (vw s') F.X) v → Q v s') → wpAny F.M F.A (inplaceOp .Sub a b) Q E s := by
  intro s S a b ha hb E Q k
  obtain ⟨t, rfl⟩ := ha.int_inv
  obtain ⟨u, rfl⟩ := hb.int_inv
  exact PyProof.Rows.isub_int (k _ _ (.toks' (Nat.le_succ _)) (.int _ _))
end Fm

abbrev pairD (h p : Str) : PyData := .tuple [.str h, .str p]
theorem shaped_pair {h p : Str} (o1 : PyData.strOk h = true) (o2 : PyData.strOk p = true) : SeqAt.shaped (pairD h p) = true := by
  simp [SeqAt.shaped, PyData.canLay0, PyData.canLayAll0, o1, o2, PyData.depth, PyData.depthAll]
/-- the covering path, closed by a slash -/
def pre (p : Str) : Str := if Txt.slice p (some (-1)) none != "/" then p ++ "/" else p
def suburi (h p h' p' : Str) : Bool := if PyData.eqv (pairD h p) (pairD h' p') then true else if h != h' then false else Txt.startswith p' (pre p)

theorem fn_suburi {w : World} {mg mb : Str → Option Value} {T : Ty} {h p h' p' : Str} (hp : p.length ≤ 1000) (hp' : p'.length ≤ 1000) (o1 : PyData.strOk h = true) (o2 : PyData.strOk p = true) (o3 : PyData.strOk h' = true) (o4 : PyData.strOk p' = true) : FnA w mg mb 1 64 [T, tD (pairD h p), tD (pairD h' p')] (tB (suburi h p h' p')) := by
  refine FnA.intro (nm := "is_suburi") (q := "HTTPPasswordMgr.is_suburi") (fun hp G => by
    obtain ⟨K, ok, X⟩ := G.kin
    obtain ⟨o, pm, doc, h1, h2⟩ := ok.methO (_, _, _, _) rfl
    exact ⟨o, pm, _, doc, X _ _ h1, h2, W.codeRec_of X ok.methC⟩) (xs := ["self", "base", "test"]) rfl ?_ (by decide) (by decide) ?_
  · intro pm cd doc vals hv
    obtain ⟨v, u, x, rfl⟩ := vals3 hv; rfl
  intro A cd s X hr s₁ S
  refine Fm.wp_if (test := _) S (Fm.Ts.cmp (Fm.Ev.name rfl) (Fm.Ev.name rfl) (Fm.Cm.eq_data (shaped_pair o1 o2) (shaped_pair o3 o4))) (fun hb s₂ S₂ _ => ?_) (fun hb s₂ S₂ _ => ?_)
  · refine Fm.wp_return S₂ .bool fun v s' S' _ hv => ?_
    rw [show suburi h p h' p' = true from by unfold suburi; rw [if_pos hb]]
    exact S'.fin hv
  refine Fm.wp_nil ?_
  refine Fm.wp_if S₂ (Fm.Ts.cmp (Fm.Ev.tup_at (Fm.Ev.name rfl)) (Fm.Ev.tup_at (Fm.Ev.name rfl)) Fm.Cm.ne_str) (fun hb2 s₃ S₃ _ => ?_) (fun hb2 s₃ S₃ _ => ?_)
  · refine Fm.wp_return S₃ .bool fun v s' S' _ hv => ?_
    rw [show suburi h p h' p' = false from by unfold suburi; rw [if_neg (by rw [hb]; exact Bool.false_ne_true), if_pos hb2]]
    exact S'.fin hv
  refine Fm.wp_nil ?_
  refine Fm.wp_assign S₃ (Fm.Ev.tup_at (Fm.Ev.name rfl)) fun s₄ S₄ _ => ?_
  have hval : suburi h p h' p' = Txt.startswith p' (pre p) := by unfold suburi; rw [if_neg (by rw [hb]; exact Bool.false_ne_true), if_neg (by rw [hb2]; exact Bool.false_ne_true)]
  refine Fm.wp_if S₄ (Fm.Ts.cmp (Fm.Ev.str_slice (Fm.Ev.name rfl) (.some (Fm.Ev.neg_int .int)) .none (by rw [sizeLine_eq]; omega)) .str Fm.Cm.ne_str) (fun hb3 s₅ S₅ _ => ?_) (fun hb3 s₅ S₅ _ => ?_)
  · refine Fm.wp_aug S₅ (T := tS p) rfl .str (Fm.iadd_str_op (by rw [sizeLine_eq]; have : (Str.ofString "/").length = 1 := by decide
                                                                 omega)) fun s₆ S₆ _ => ?_
    refine Fm.wp_nil ?_
    refine Fm.wp_return S₆ (Fm.Ev.startswith (Fm.Ev.tup_at (Fm.Ev.name rfl)) (Fm.Ev.name rfl)) fun v s' S' _ hv => ?_
    rw [hval, show pre p = p ++ "/" from by unfold pre; rw [if_pos hb3]]
    exact S'.fin hv
  · refine Fm.wp_nil ?_
    refine Fm.wp_return S₅ (Fm.Ev.startswith (Fm.Ev.tup_at (Fm.Ev.name rfl)) (Fm.Ev.name rfl)) fun v s' S' _ hv => ?_
    rw [hval, show pre p = p from by unfold pre; rw [if_neg (by rw [hb3]; exact Bool.false_ne_true)]]
    exact S'.fin hv
end Mine

/-! V1 -/
namespace Mine
open PySem PySem.Spec PyProof.Rows

def hasIn (c : Str) (x : Str) : Bool := !(Builtin.Str.occurrences x c 0 x.length 1).isEmpty
def valid (p : Str × Str) : Str × Str := if hasIn "[" p.2 then ("", "") else p
abbrev pD (p : Str × Str) : PyData := pairD p.1 p.2

theorem getD_map {α β : Type} {f : α → β} {l : List α} {i : Nat} {b : β} (h : i < l.length) : (l.map f).getD i b = f l[i] := by
  rw [List.getD_eq_getElem?_getD, List.getElem?_map, List.getElem?_eq_getElem h]; rfl
theorem take_succ_map {α β : Type} {f : α → β} {l : List α} {i : Nat} (h : i < l.length) : (l.take (i + 1)).map f = (l.take i).map f ++ [f l[i]] := by
  rw [List.take_succ_eq_append_getElem h, List.map_append]; rfl

theorem fn_valid {w : World} {mg mb : Str → Option Value} {ps : List (Str × Str)} (hn : ps.length ≤ 1000) : Fn w mg mb 1 "_post_parse_validation" [tD (.list (ps.map pD))] (tD (.list (ps.map fun p => pD (valid p)))) := by
  refine Fn.intro (List.mem_of_getElem? (i := 6) (show theDefs[6]? = some (_, _, _, _) from rfl)) (xs := ["parsed_email_header_tuples"]) rfl ?_ (by decide) (by decide) ?_
  · intro pm cd doc vals hv
    obtain ⟨v, rfl⟩ := vals1 hv; rfl
  intro A a cd s X hr s₁ S
  refine Fm.wp_newOwn S fun a₁ s₂ ha S₂ => ?_
  have S₂' := S₂.congrPn (pn := fun b => if b = a₁ then pnList ((ps.take 0).map fun p => pD (valid p)) else pnAny) (fun b hb => by
    rcases List.mem_cons.mp hb with q | q
    · subst q; simp [Fm.add]
    · exact nomatch q)
  refine Fm.wp_for (pn := fun i b => if b = a₁ then pnList ((ps.take i).map fun p => pD (valid p)) else pnAny) (ρi := fun i => [("accepted_values", tV (.ref a₁)), ("parsed_email_header_tuples", tD (.list (ps.map pD)))])
    S₂' (Fm.Src.list (Fm.Ev.name rfl)) ?_ ?_
  · intro I P G i hI hi s₃ S₃
    simp only [List.length_map] at hi
    rw [getD_map hi] at S₃
    have hIa : a₁ ≠ I := fun q => hI (q ▸ List.mem_cons_self ..)
    have aZ : a₁ ∈ I :: (a₁ :: ([] : List Addr)) := by simp
    have hpn : ∀ b ∈ [a₁], (if b = a₁ then pnList ((ps.take (i + 1)).map fun p => pD (valid p)) else pnAny) = if b = a₁ then pnList (((ps.take i).map fun p => pD (valid p)) ++ [pD (valid ps[i])]) else (if b = a₁ then pnList ((ps.take i).map fun p => pD (valid p)) else pnAny) := fun b hb => by
      rw [take_succ_map hi]; split <;> rfl
    have hsz : ((ps.take i).map fun p => pD (valid p)).length ≤ sizeLine := by rw [sizeLine_eq]; simp only [List.length_map, List.length_take]; omega
    refine Fm.wp_if S₃ (Fm.Ts.cmp .str (Fm.Ev.tup_at (Fm.Ev.name rfl)) Fm.Cm.in_str) (fun hb s₄ S₄ _ => ?_) (fun hb s₄ S₄ _ => ?_)
    · refine Fm.wp_assign S₄ (Fm.Ev.tuple (ds := [.str "", .str ""]) (.cons .str (.cons .str .nil))) fun s₅ S₅ _ => ?_
      refine Fm.wp_nil ?_
      have hv : pD (valid ps[i]) = .tuple [.str "", .str ""] := by unfold valid; rw [if_pos (show hasIn "[" ps[i].2 = true from hb)]
      refine Fm.wp_append (a := a₁) (d := pD (valid ps[i])) (ds := (ps.take i).map fun p => pD (valid p)) S₅ rfl aZ (by simp [Fm.add, Fm.withPn, hIa]) ((Fm.Ev.name rfl).to (congrArg tD hv.symm)) hsz fun s₆ S₆ => Fm.wp_nil ?_
      exact Fm.St.turn S₆ hI (List.mem_cons_self ..) hpn (sub_cons rfl (sub_cons rfl sub_nil))
    · refine Fm.wp_nil ?_
      have hv : pD (valid ps[i]) = pD ps[i] := by unfold valid; rw [if_neg (show ¬ hasIn "[" ps[i].2 = true from by unfold hasIn; rw [hb]; exact Bool.false_ne_true)]
      refine Fm.wp_append (a := a₁) (d := pD (valid ps[i])) (ds := (ps.take i).map fun p => pD (valid p)) S₄ rfl aZ (by simp [Fm.add, Fm.withPn, hIa]) ((Fm.Ev.name rfl).to (congrArg tD hv.symm)) hsz fun s₆ S₆ => Fm.wp_nil ?_
      exact Fm.St.turn S₆ hI (List.mem_cons_self ..) hpn (sub_cons rfl (sub_cons rfl sub_nil))
  · intro s₃ S₃
    refine Fm.wp_freeze (x := "accepted_values") (a := a₁) (Z' := []) (ds := ps.map fun p => pD (valid p)) S₃ rfl (by simp) (by simp [Fm.withPn]) rfl fun S₄ => ?_
    refine Fm.wp_return S₄ (Fm.Ev.name rfl) fun v s' S' _ hv => ?_
    exact S'.fin hv
end Mine

/-! C1 -/
namespace Mine
open PySem PySem.Spec PyProof.Rows
namespace Fm
variable {F : Fm} {ρ : List (Str × Ty)} {s s' : Shared}
theorem Gt.listNeg {ds : List PyData} {i : Int} {d : PyData} (h0 : i < 0) (hlo : -(2 ^ 63) ≤ i) (h1 : 0 ≤ i + ds.length) (hd : ds[(i + ds.length).toNat]? = some d) : F.Gt ρ (tD (.list ds)) (tI i) (tD d) := fun s S o j ho hj => by
  obtain ⟨a, vs, n, rfl, hl, hr⟩ := ho.list_inv
  obtain ⟨t, rfl⟩ := hj.int_inv
  obtain ⟨v, h1', h2⟩ := hr.get hd
  have hz := size_of hr
  exact ⟨_, _, (isList_of hl).typeIs, slot_list_getitem.lookup, fun E Q k => wpAny_getItem_list_neg (isList_of hl) h0 (by rw [hz]; omega) hlo (by rw [hz]; simpa using h1') (k v s (.refl _ _) h2)⟩
end Fm

abbrev sds (ps : List Str) : List PyData := ps.map .str
abbrev placeD (h : Str) (ps : List Str) : PyData := .tuple [.str h, .list (sds ps)]
def frontOf (ps : List Str) : List Str := if 1 < ps.length ∧ ps[ps.length - 1]? = some (Str.ofString "") then ps.take (ps.length - 1) else ps
def longer (ps qs : List Str) : Bool := decide (qs.length > (frontOf ps).length) && PyData.eqv (.list (sds (qs.take (frontOf ps).length))) (.list (sds (frontOf ps)))
def covers (h : Str) (ps : List Str) (h' : Str) (qs : List Str) : Bool := PyData.eqv (placeD h ps) (placeD h' qs) || (h == h' && longer ps qs)

theorem sl_map {α β : Type} (f : α → β) (ds : List α) (i j : Option Int) : sl (ds.map f) i j = (sl ds i j).map f := by
  unfold sl; simp [List.map_take, List.map_drop]
theorem sl_upto {α : Type} (ds : List α) (n : Nat) : sl ds none (some (n : Int)) = ds.take n := by
  unfold sl; simp only [Option.elim, clipAt_nat, List.drop_zero, Nat.sub_zero]
  rcases Nat.le_total n ds.length with h | h
  · rw [Nat.min_eq_left h]
  · rw [Nat.min_eq_right h, List.take_of_length_le (Nat.le_refl _), List.take_of_length_le h]
theorem sl_butLast {α : Type} (ds : List α) : sl ds none (some (-1)) = ds.take (ds.length - 1) := by
  unfold sl; simp only [Option.elim, List.drop_zero, Nat.sub_zero]
  rw [show clipAt ds.length (-1) = ds.length - 1 from clipAt_neg ds.length 1 (Nat.le_refl _)]
theorem canLayAll_strs {ps : List Str} (o : ∀ p ∈ ps, PyData.strOk p = true) : PyData.canLayAll0 (sds ps) = true := by
  induction ps with
  | nil => rfl
  | cons p ps ih => simp only [sds, List.map_cons, PyData.canLayAll0, PyData.canLay0, Bool.and_eq_true]; exact ⟨o p (by simp), ih fun q hq => o q (by simp [hq])⟩
theorem depthAll_strs (ps : List Str) : PyData.depthAll (sds ps) = 0 := by
  induction ps with
  | nil => rfl
  | cons p ps ih => simp only [sds, List.map_cons, PyData.depthAll, PyData.depth] at ih ⊢; rw [ih]; rfl
theorem shaped_strs {ps : List Str} (o : ∀ p ∈ ps, PyData.strOk p = true) : SeqAt.shaped (.list (sds ps)) = true := by
  unfold SeqAt.shaped; rw [PyData.canLay0, canLayAll_strs o, PyData.depth, depthAll_strs]; rfl
theorem shaped_place {h : Str} {ps : List Str} (o1 : PyData.strOk h = true) (o : ∀ p ∈ ps, PyData.strOk p = true) : SeqAt.shaped (placeD h ps) = true := by
  unfold SeqAt.shaped placeD; simp only [PyData.canLay0, PyData.canLayAll0, canLayAll_strs o, o1, PyData.depth, PyData.depthAll, depthAll_strs]; decide
theorem mem_front {ps : List Str} {p : Str} (h : p ∈ frontOf ps) : p ∈ ps := by
  unfold frontOf at h; split at h
  · exact List.mem_of_mem_take h
  · exact h
theorem len_front (ps : List Str) : (frontOf ps).length ≤ ps.length := by
  unfold frontOf; split
  · simp only [List.length_take]; omega
  · exact Nat.le_refl _

theorem fn_covers {w : World} {mg mb : Str → Option Value} {h : Str} {ps : List Str} {h' : Str} {qs : List Str} (hp : ps.length ≤ 1000) (hq : qs.length ≤ 1000) (o1 : PyData.strOk h = true) (o2 : ∀ p ∈ ps, PyData.strOk p = true) (o3 : PyData.strOk h' = true) (o4 : ∀ p ∈ qs, PyData.strOk p = true) :
    Fn w mg mb 1 "_law_covers" [tD (placeD h ps), tD (placeD h' qs)] (tB (covers h ps h' qs)) := by
  refine Fn.intro (List.mem_of_getElem? (i := 11) (show theDefs[11]? = some (_, _, _, _) from rfl)) (xs := ["base", "test"]) rfl ?_ (by decide) (by decide) ?_
  · intro pm cd doc vals hv
    obtain ⟨v, u, rfl⟩ := vals2 hv; rfl
  intro A a cd s X hr s₁ S
  have big : ∀ n : Nat, n ≤ 1000 → n ≤ sizeLine := fun n hn => by rw [sizeLine_eq]; omega
  have lm : ∀ l : List Str, (sds l).length = l.length := fun l => List.length_map ..
  have hf1 := len_front ps
  refine Fm.wp_assign (T := tD (.list (sds (frontOf ps)))) S ?_ fun s₂ S₂ _ => ?_
  · refine Fm.Ev.ite (b := decide (1 < ps.length) && (if 1 < ps.length then ps[ps.length - 1]? == some (Str.ofString "") else false)) ?_ (fun hb => ?_) (fun hb => ?_)
    · refine Fm.Ts.and (Fm.Ts.cmp (Fm.Ev.len_list (Fm.Ev.tup_at (Fm.Ev.name rfl)) (by rw [lm]; exact big _ hp)) .int Fm.Cm.gt_int |>.to (by rw [lm]; exact decide_eq_decide.mpr (by omega))) fun hb => Fm.Ts.and1 ?_
      have h1 : 1 < ps.length := of_decide_eq_true hb
      have hlt : ps.length - 1 < ps.length := by omega
      refine (Fm.Ts.cmp (T := tS ps[ps.length - 1]) (Fm.Ev.sub (Fm.Ev.tup_at (Fm.Ev.name rfl)) (Fm.Ev.neg_int .int) (Fm.Gt.listNeg (by decide) (by decide) (by rw [lm]; omega) ?_)) .str Fm.Cm.eq_str).to ?_
      · rw [lm, show ((-1 : Int) + ps.length).toNat = ps.length - 1 from by omega]
        simp [sds, List.getElem?_eq_getElem hlt]
      · rw [if_pos h1, List.getElem?_eq_getElem hlt]; rfl
    · have h1 : 1 < ps.length := by simp only [Bool.and_eq_true, decide_eq_true_eq] at hb; exact hb.1
      have h2 : ps[ps.length - 1]? = some (Str.ofString "") := by simp only [Bool.and_eq_true, decide_eq_true_eq, if_pos h1] at hb; exact eq_of_beq hb.2
      refine (Fm.Ev.list_slice (Fm.Ev.tup_at (Fm.Ev.name rfl)) .none (.some (Fm.Ev.neg_int .int)) (by rw [lm]; exact big _ hp)).to ?_
      rw [sl_map, sl_butLast]; unfold frontOf; rw [if_pos ⟨h1, h2⟩]
    · refine (Fm.Ev.tup_at (Fm.Ev.name rfl)).to ?_
      unfold frontOf
      rw [if_neg]
      rintro ⟨h1, h2⟩
      rw [if_pos h1, h2] at hb
      simp [h1] at hb
  refine Fm.wp_assign (T := tB (longer ps qs)) S₂ ?_ fun s₃ S₃ _ => ?_
  · refine Fm.Ev.and (Fm.Ev.cmp (Fm.Ev.len_list (Fm.Ev.tup_at (Fm.Ev.name rfl)) (by rw [lm]; exact big _ hq)) (Fm.Ev.len_list (Fm.Ev.name rfl) (by rw [lm]; exact big _ (by omega))) Fm.Cm.gt_int |>.to (by rw [lm, lm]; exact congrArg tB (decide_eq_decide.mpr (by omega)))) fun hb => Fm.Ev.bop1 ?_
    refine Fm.Ev.cmp (Fm.Ev.list_slice (Fm.Ev.tup_at (Fm.Ev.name rfl)) .none (.some (Fm.Ev.len_list (Fm.Ev.name rfl) (by rw [lm]; exact big _ (by omega)))) (by rw [lm]; exact big _ hq) |>.to (by rw [sl_map, lm, sl_upto])) (Fm.Ev.name rfl) (Fm.Cm.eq_data ?_ ?_)
    · exact shaped_strs fun p hp => o4 p (List.mem_of_mem_take hp)
    · exact shaped_strs fun p hp => o2 p (mem_front hp)
  refine Fm.wp_return S₃ (Fm.Ev.or (Fm.Ev.cmp (Fm.Ev.name rfl) (Fm.Ev.name rfl) (Fm.Cm.eq_data (shaped_place o1 o2) (shaped_place o3 o4))) fun _ => Fm.Ev.bop1 (Fm.Ev.and (Fm.Ev.cmp (Fm.Ev.tup_at (Fm.Ev.name rfl)) (Fm.Ev.tup_at (Fm.Ev.name rfl)) Fm.Cm.eq_str) fun _ => Fm.Ev.bop1 (Fm.Ev.name rfl))) fun v s' S' _ hv => S'.fin hv
end Mine

/-! H1 -/
namespace Mine
open PySem PySem.Spec PyProof.Rows
namespace Fm
variable {F : Fm} {ρ : List (Str × Ty)} {s s' : Shared}
theorem Ts.str {e : Expr} {x : Str} (h : F.Ev ρ e (tS x)) (hn : x.length ≤ sizeLine) (he : ∀ whole, isTrue e F.env whole = (do let v ← whole; standAt e.pos; holding [v] (truthy v)) := by intro _; rfl) : F.Ts ρ e ((x.length : Int) != 0) := fun s S E Q k =>
  isTrue_plain (h s S E _ fun v s' e' S' hv => by
    obtain ⟨t, rfl⟩ := hv.str_inv
    exact PySem.P.truthy_str (by rw [sizeLine_eq] at hn; omega) (k _ (e'.trans (Ext.toks' (by omega))) (S'.ext (Ext.toks' (by omega))))) (he _)
theorem Ev.strip {o : Expr} {apos pos : Pos} {x : Str} (ho : F.Ev ρ o (tS x)) (hn : x.length ≤ sizeLine)
    (hbase : attributeBase o "strip" F.env (eval o F.env) = eval o F.env := by rfl) (hline : (apos.endLine == pos.line) = true := by rfl) :
    F.Ev ρ (.Call (.Attribute o "strip" apos) [] [] pos) (tS (Txt.strip x)) :=
  Ev.strMeth PySem.F.slot_str_strip PySem.F.type_str_strip ho .nil (fun s S t vs hvs E Q k => by
    cases hvs
    exact wp_toks (SC.strip (fun t' tk ht => k _ _ (.toks' ht) (.str _ _)) hn)) hbase rfl hline rfl
theorem wp_assign2 {x y : Str} {px py pos : Pos} {e : Expr} {T : Ty} {rest : List Stmt} {E : Value → Shared → Prop} {Q : Flow → Shared → Prop} (S : F.St ρ s) (he : F.Ev ρ e T)
    (h : ∀ s', F.St ((y, T) :: (x, T) :: ρ) s' → F.Run rest Q E s')
    (hk : F.env.kindOf x = some .local := by rfl) (hk' : F.env.kindOf y = some .local := by rfl) (hT : ∀ s s' v, F.St ρ s → ExtB [F.env.locals] s s' → T.P (cut (vw s) F.X) v → T.P (cut (vw s') F.X) v) :
    F.Run (.Assign [.Name x px, .Name y py] e pos :: rest) Q E s :=
  .mk <| wpAny_execs_cons (wpAny_Assign_two (he s S E _ fun v s₁ e₁ S₁ hv => wpAny_assign_Name (wp_store S₁ hv hk fun s₂ S₂ e₂ => wpAny_assign_Name (wp_store S₂ (hT _ _ _ S₁ e₂ hv) hk' fun s₃ S₃ _ => (h s₃ S₃).wp))))
end Fm

abbrev chr (c : Nat) : Str := ⟨#[c]⟩
structure PS where
  res : List Str
  part : Str
  esc : Bool
  quo : Bool
def PS.step (p : PS) (c : Nat) : PS :=
  if p.esc then ⟨p.res, p.part ++ chr c, false, p.quo⟩
  else if p.quo then (if chr c == "\\" then ⟨p.res, p.part, true, p.quo⟩ else if chr c == "\"" then ⟨p.res, p.part ++ chr c, p.esc, false⟩ else ⟨p.res, p.part ++ chr c, p.esc, p.quo⟩)
  else if chr c == "," then ⟨p.res ++ [p.part], "", p.esc, p.quo⟩
  else if chr c == "\"" then ⟨p.res, p.part ++ chr c, p.esc, true⟩ else ⟨p.res, p.part ++ chr c, p.esc, p.quo⟩
def psAt (x : Str) (i : Nat) : PS := (x.cps.toList.take i).foldl PS.step ⟨[], "", false, false⟩
theorem psAt_succ {x : Str} {i : Nat} (h : i < x.length) : psAt x (i + 1) = (psAt x i).step (x.cps.toList.getD i 0) := by
  have h' : i < x.cps.toList.length := by simpa [Str.length] using h
  unfold psAt
  rw [List.take_succ_eq_append_getElem h', List.foldl_append, List.getD_eq_getElem?_getD, List.getElem?_eq_getElem h']; rfl
def PS.fin (p : PS) : List Str := if (p.part.length : Int) != 0 then p.res ++ [p.part] else p.res
def parsed (x : Str) : List Str := (psAt x x.length).fin.map Txt.strip

theorem len_chr (x : Str) (c : Nat) : (x ++ chr c).length = x.length + 1 := Str.length_append ..
theorem psAt_bound {x : Str} : ∀ {i : Nat}, i ≤ x.length → (psAt x i).part.length ≤ i ∧ (psAt x i).res.length ≤ i ∧ ∀ p ∈ (psAt x i).res, p.length ≤ i := by
  intro i
  induction i with
  | zero => intro _; exact ⟨Nat.le_refl _, Nat.le_refl _, by simp [psAt]⟩
  | succ i ih =>
    intro hi
    obtain ⟨h1, h2, h3⟩ := ih (by omega)
    rw [psAt_succ (by omega)]
    have h3' : ∀ p ∈ (psAt x i).res, p.length ≤ i + 1 := fun p hp => Nat.le_succ_of_le (h3 p hp)
    have e0 : (Str.ofString "").length = 0 := by decide
    unfold PS.step
    (repeat' split) <;> simp only [len_chr, List.length_append, List.length_singleton, e0] <;> refine ⟨by omega, by omega, ?_⟩ <;> first
      | exact h3'
      | (intro p hp; rcases List.mem_append.mp hp with q | q
         · exact h3' p q
         · simp at q; subst q; omega)

theorem fn_http {w : World} {mg mb : Str → Option Value} {x : Str} (hx : x.length ≤ 100000) : Fn w mg mb 1 "parse_http_list" [tS x] (tD (.list (sds (parsed x)))) := by
  refine Fn.intro (List.mem_of_getElem? (i := 2) (show theDefs[2]? = some (_, _, _, _) from rfl)) (xs := ["s"]) rfl ?_ (by decide) (by decide) ?_
  · intro pm cd doc vals hv
    obtain ⟨v, rfl⟩ := vals1 hv; rfl
  intro A a cd s X hr s₁ S
  refine Fm.wp_newOwn S fun a₁ s₂ ha S₂ => ?_
  refine Fm.wp_assign S₂ .str fun s₃ S₃ _ => ?_
  refine Fm.wp_assign2 S₃ .bool (fun s₄ S₄ => ?_) rfl rfl (fun _ _ _ _ _ h => by obtain rfl := h.bool_inv; exact .bool _)
  let ρP : PS → List (Str × Ty) := fun p => [("quote", tB p.quo), ("escape", tB p.esc), ("part", tS p.part), ("res", tV (.ref a₁)), ("s", tS x)]
  let pnP : PS → Addr → Pn := fun p b => if b = a₁ then pnList (sds p.res) else pnAny
  have S₅ := S₄.congrPn (pn := pnP (psAt x 0)) (fun b hb => by
    rcases List.mem_cons.mp hb with q | q
    · subst q; simp [Fm.add, pnP, psAt]
    · exact nomatch q)
  refine Fm.wp_for (pn := fun i => pnP (psAt x i)) (ρi := fun i => ρP (psAt x i)) S₅ (Fm.Src.str (Fm.Ev.name rfl)) ?_ ?_
  · intro I P G i hI hi s₆ S₆
    obtain ⟨b1, b2, b3⟩ := psAt_bound (x := x) (i := i) (by omega)
    generalize hc : x.cps.toList.getD i 0 = c at S₆
    have hst := psAt_succ hi
    rw [hc] at hst
    generalize psAt x i = p at *
    generalize psAt x (i + 1) = p' at *
    have hIa : a₁ ≠ I := fun q => hI (q ▸ List.mem_cons_self ..)
    have aZ : a₁ ∈ I :: (a₁ :: ([] : List Addr)) := by simp
    have hsz : p.part.length + (chr c).length ≤ sizeLine := by rw [sizeLine_eq]; show p.part.length + 1 ≤ _; omega
    have pn0 : p'.res = p.res → ∀ b ∈ [a₁], pnP p' b = pnP p b := fun e b _ => by simp only [pnP, e]
    refine Fm.wp_if S₆ (Fm.Ts.ev (Fm.Ev.name rfl)) (fun hb s₇ S₇ _ => ?_) (fun hb s₇ S₇ _ => ?_)
    · have e : p' = ⟨p.res, p.part ++ chr c, false, p.quo⟩ := by rw [hst]; unfold PS.step; rw [if_pos hb]
      refine Fm.wp_aug S₇ (T := tS p.part) rfl (Fm.Ev.name rfl) (Fm.iadd_str_op hsz) fun s₈ S₈ _ => ?_
      refine Fm.wp_assign S₈ .bool fun s₉ S₉ _ => ?_
      refine Fm.wp_continue ?_
      have := Fm.St.turn0 (p' := pnP p') (ρ := ρP p') S₉ hI (pn0 (by rw [e])) (by rw [e]; exact sub_cons rfl (sub_cons rfl (sub_cons rfl (sub_cons rfl (sub_cons rfl sub_nil)))))
      exact this
    refine Fm.wp_nil ?_
    refine Fm.wp_if S₇ (Fm.Ts.ev (Fm.Ev.name rfl)) (fun hb2 s₈ S₈ _ => ?_) (fun hb2 s₈ S₈ _ => ?_)
    · refine Fm.wp_if S₈ (Fm.Ts.cmp (Fm.Ev.name rfl) .str Fm.Cm.eq_str) (fun hb3 s₉ S₉ _ => ?_) (fun hb3 s₉ S₉ _ => ?_)
      · have e : p' = ⟨p.res, p.part, true, p.quo⟩ := by rw [hst]; unfold PS.step; rw [hb, hb2, hb3]; rfl
        refine Fm.wp_assign S₉ .bool fun s10 S10 _ => Fm.wp_continue ?_
        have := Fm.St.turn0 (p' := pnP p') (ρ := ρP p') S10 hI (pn0 (by rw [e])) (by rw [e]; exact sub_cons rfl (sub_cons rfl (sub_cons rfl (sub_cons rfl (sub_cons rfl sub_nil)))))
        exact this
      · refine Fm.wp_if S₉ (Fm.Ts.cmp (Fm.Ev.name rfl) .str Fm.Cm.eq_str) (fun hb4 s10 S10 _ => ?_) (fun hb4 s10 S10 _ => ?_)
        · have e : p' = ⟨p.res, p.part ++ chr c, p.esc, false⟩ := by rw [hst]; unfold PS.step; rw [hb, hb2, hb3, hb4]; rfl
          refine Fm.wp_assign S10 .bool fun s11 S11 _ => Fm.wp_nil (Fm.wp_nil ?_)
          refine Fm.wp_aug S11 (T := tS p.part) rfl (Fm.Ev.name rfl) (Fm.iadd_str_op hsz) fun s12 S12 _ => Fm.wp_continue ?_
          have := Fm.St.turn0 (p' := pnP p') (ρ := ρP p') S12 hI (pn0 (by rw [e])) (by rw [e]; exact sub_cons rfl (sub_cons rfl (sub_cons rfl (sub_cons rfl (sub_cons rfl sub_nil)))))
          exact this
        · have e : p' = ⟨p.res, p.part ++ chr c, p.esc, p.quo⟩ := by rw [hst]; unfold PS.step; rw [hb, hb2, hb3, hb4]; rfl
          refine Fm.wp_nil (Fm.wp_nil ?_)
          refine Fm.wp_aug S10 (T := tS p.part) rfl (Fm.Ev.name rfl) (Fm.iadd_str_op hsz) fun s12 S12 _ => Fm.wp_continue ?_
          have := Fm.St.turn0 (p' := pnP p') (ρ := ρP p') S12 hI (pn0 (by rw [e])) (by rw [e]; exact sub_cons rfl (sub_cons rfl (sub_cons rfl (sub_cons rfl (sub_cons rfl sub_nil)))))
          exact this
    refine Fm.wp_nil ?_
    refine Fm.wp_if S₈ (Fm.Ts.cmp (Fm.Ev.name rfl) .str Fm.Cm.eq_str) (fun hb3 s₉ S₉ _ => ?_) (fun hb3 s₉ S₉ _ => ?_)
    · have e : p' = ⟨p.res ++ [p.part], "", p.esc, p.quo⟩ := by rw [hst]; unfold PS.step; rw [hb, hb2, hb3]; rfl
      refine Fm.wp_append (a := a₁) (ds := sds p.res) S₉ rfl aZ (by simp [Fm.add, Fm.withPn, hIa, pnP]) (Fm.Ev.name rfl) (by rw [sizeLine_eq, List.length_map]; omega) fun s10 S10 => ?_
      refine Fm.wp_assign S10 .str fun s11 S11 _ => Fm.wp_continue ?_
      have := Fm.St.turn (p' := pnP p') (ρ := ρP p') S11 hI (List.mem_cons_self ..) (fun b hb => by simp only [pnP, e, sds, List.map_append]; split <;> rfl) (by rw [e]; exact sub_cons rfl (sub_cons rfl (sub_cons rfl (sub_cons rfl (sub_cons rfl sub_nil)))))
      exact this
    refine Fm.wp_nil ?_
    refine Fm.wp_if S₉ (Fm.Ts.cmp (Fm.Ev.name rfl) .str Fm.Cm.eq_str) (fun hb4 s10 S10 _ => ?_) (fun hb4 s10 S10 _ => ?_)
    · have e : p' = ⟨p.res, p.part ++ chr c, p.esc, true⟩ := by rw [hst]; unfold PS.step; rw [hb, hb2, hb3, hb4]; rfl
      refine Fm.wp_assign S10 .bool fun s11 S11 _ => Fm.wp_nil ?_
      refine Fm.wp_aug S11 (T := tS p.part) rfl (Fm.Ev.name rfl) (Fm.iadd_str_op hsz) fun s12 S12 _ => Fm.wp_nil ?_
      have := Fm.St.turn0 (p' := pnP p') (ρ := ρP p') S12 hI (pn0 (by rw [e])) (by rw [e]; exact sub_cons rfl (sub_cons rfl (sub_cons rfl (sub_cons rfl (sub_cons rfl sub_nil)))))
      exact this
    · have e : p' = ⟨p.res, p.part ++ chr c, p.esc, p.quo⟩ := by rw [hst]; unfold PS.step; rw [hb, hb2, hb3, hb4]; rfl
      refine Fm.wp_nil ?_
      refine Fm.wp_aug S10 (T := tS p.part) rfl (Fm.Ev.name rfl) (Fm.iadd_str_op hsz) fun s12 S12 _ => Fm.wp_nil ?_
      have := Fm.St.turn0 (p' := pnP p') (ρ := ρP p') S12 hI (pn0 (by rw [e])) (by rw [e]; exact sub_cons rfl (sub_cons rfl (sub_cons rfl (sub_cons rfl (sub_cons rfl sub_nil)))))
      exact this
  · intro s₆ S₆
    obtain ⟨b1, b2, b3⟩ := psAt_bound (x := x) (i := x.length) (Nat.le_refl _)
    have hfin : ∀ q ∈ (psAt x x.length).fin, q.length ≤ sizeLine := fun q hq => by
      rw [sizeLine_eq]
      unfold PS.fin at hq
      split at hq
      · rcases List.mem_append.mp hq with h | h
        · have := b3 q h; omega
        · simp at h; subst h; omega
      · have := b3 q hq; omega
    have hlen : (psAt x x.length).fin.length ≤ sizeLine := by
      rw [sizeLine_eq]; unfold PS.fin; split <;> (try simp only [List.length_append, List.length_singleton]) <;> omega
    have hpar : parsed x = (psAt x x.length).fin.map Txt.strip := rfl
    rw [hpar]
    generalize psAt x x.length = p at *
    refine Fm.wp_if S₆ (Fm.Ts.str (Fm.Ev.name rfl) (by rw [sizeLine_eq]; omega)) (fun hb s₇ S₇ _ => ?_) (fun hb s₇ S₇ _ => ?_)
    · refine Fm.wp_append (a := a₁) (ds := sds p.res) S₇ rfl (by simp [Fm.withPn, Fm.add]) (by simp [Fm.withPn, pnP]) (Fm.Ev.name rfl) (by rw [sizeLine_eq, List.length_map]; omega) fun s₈ S₈ => Fm.wp_nil ?_
      refine Fm.St.on S₈ ?_
      refine Fm.wp_freeze (x := "res") (a := a₁) (Z' := []) (ds := sds p.fin) S₈ rfl (by simp) (by simp [Fm.setPin, PS.fin, hb]) rfl fun S₉ => ?_
      refine Fm.wp_return S₉ (Fm.Ev.comp (n := (sds p.fin).length) (cl := []) (ρ' := []) (ρt := fun i => [("part", tD ((sds p.fin).getD i .none))]) (b := fun _ => true) (e := fun i => .str (Txt.strip (p.fin.getD i ""))) ⟨Fm.Src.list (Fm.Ev.name rfl), by rw [List.length_map]; exact hlen, rfl, .nil, fun _ => .nil, fun _ _ _ _ _ _ _ => Fm.Asg.name, fun _ _ _ _ _ _ _ => .nil, fun _ _ _ _ _ i hi _ => ?_, fun _ _ _ _ h => (nomatch h), rfl, by decide, fun _ => rfl, fun _ => rfl, fun _ _ => rfl⟩) fun v s' S' _ hv => ?_
      · rw [List.length_map] at hi
        rw [getD_map' _ _ _ (Str.ofString "") _ hi]
        exact Fm.Ev.strip (Fm.Ev.name rfl) (hfin _ (getD_mem _ _ _ hi))
      · rw [Fm.gath_true, List.length_map, Fm.map_range_eq p.fin "" (fun x => PyData.str (Txt.strip x)) _ (fun i hi => rfl)] at hv
        rw [show sds (p.fin.map Txt.strip) = p.fin.map (fun x => PyData.str (Txt.strip x)) from by simp [sds]]
        exact S'.fin hv
    · refine Fm.wp_nil ?_
      refine Fm.wp_freeze (x := "res") (a := a₁) (Z' := []) (ds := sds p.fin) S₇ rfl (by simp) (by simp [Fm.withPn, pnP, PS.fin, hb]) rfl fun S₉ => ?_
      refine Fm.wp_return S₉ (Fm.Ev.comp (n := (sds p.fin).length) (cl := []) (ρ' := []) (ρt := fun i => [("part", tD ((sds p.fin).getD i .none))]) (b := fun _ => true) (e := fun i => .str (Txt.strip (p.fin.getD i ""))) ⟨Fm.Src.list (Fm.Ev.name rfl), by rw [List.length_map]; exact hlen, rfl, .nil, fun _ => .nil, fun _ _ _ _ _ _ _ => Fm.Asg.name, fun _ _ _ _ _ _ _ => .nil, fun _ _ _ _ _ i hi _ => ?_, fun _ _ _ _ h => (nomatch h), rfl, by decide, fun _ => rfl, fun _ => rfl, fun _ _ => rfl⟩) fun v s' S' _ hv => ?_
      · rw [List.length_map] at hi
        rw [getD_map' _ _ _ (Str.ofString "") _ hi]
        exact Fm.Ev.strip (Fm.Ev.name rfl) (hfin _ (getD_mem _ _ _ hi))
      · rw [Fm.gath_true, List.length_map, Fm.map_range_eq p.fin "" (fun x => PyData.str (Txt.strip x)) _ (fun i hi => rfl)] at hv
        rw [show sds (p.fin.map Txt.strip) = p.fin.map (fun x => PyData.str (Txt.strip x)) from by simp [sds]]
        exact S'.fin hv
end Mine

/-! K1 -/
namespace Mine
open PySem PySem.Spec PyProof.Rows

def eqSplit (x : Str) : List Str := Txt.splitMax x "=" 1
def chAt (v : Str) (i : Nat) : Str := chr (v.cps.toList.getD i 0)
def quoted (v : Str) : Bool := chAt v 0 == "\"" && chAt v (v.length - 1) == "\""
def unq (v : Str) : Str := if quoted v then Txt.slice v (some 1) (some (-1)) else v
def kvStep (acc : List (Str × Str)) (x : Str) : List (Str × Str) := match eqSplit x with
  | [k, v] => put acc k (unq v)
  | _ => acc
def kvAt (xs : List Str) (i : Nat) : List (Str × Str) := (xs.take i).foldl kvStep []
def kvAll (xs : List Str) : List (Str × Str) := xs.foldl kvStep []
theorem kvAt_succ {xs : List Str} {i : Nat} (h : i < xs.length) : kvAt xs (i + 1) = kvStep (kvAt xs i) (xs.getD i "") := by
  unfold kvAt
  rw [List.take_succ_eq_append_getElem h, List.foldl_append, List.getD_eq_getElem?_getD, List.getElem?_eq_getElem h]; rfl
theorem put_len (l : List (Str × Str)) (k v : Str) : (put l k v).length ≤ l.length + 1 := by
  unfold put; split
  · rw [List.length_map]; omega
  · simp
theorem kvStep_len (l : List (Str × Str)) (x : Str) : (kvStep l x).length ≤ l.length + 1 := by
  unfold kvStep; split
  · exact put_len ..
  · omega
theorem kvAt_len (xs : List Str) : ∀ i, (kvAt xs i).length ≤ i := by
  intro i
  induction i with
  | zero => simp [kvAt]
  | succ i ih =>
    by_cases h : i < xs.length
    · rw [kvAt_succ h]; have := kvStep_len (kvAt xs i) (xs.getD i ""); omega
    · have : kvAt xs (i + 1) = kvAt xs i := by unfold kvAt; rw [List.take_of_length_le (by omega), List.take_of_length_le (by omega)]
      rw [this]; omega

def Good (x : Str) : Prop := ∃ k v, eqSplit x = [k, v] ∧ 0 < v.length ∧ v.length ≤ 1000
def Bad (cls : String) (x : Str) : Prop := (cls = "ValueError" ∧ ∃ k, eqSplit x = [k]) ∨ (cls = "IndexError" ∧ ∃ k, eqSplit x = [k, Str.ofString ""])
def pnFalse : Pn := ⟨fun _ _ => False, fun _ _ _ _ h => h⟩

theorem keqv_run {w : World} {mg mb : Str → Option Value} {A : Around} {a : Addr} {cd : Value} {s s₁ : Shared} {X : List Addr} {xs : List Str} {j : Nat} {cls : String} {E : Value → Shared → Prop} {params : Arguments} {body : List Stmt} {scope : Scope}
    (hd : theDefs[1]? = some (Str.ofString "parse_keqv_list", params, body, scope)) (hlen : xs.length ≤ 1000) (hxl : ∀ x ∈ xs, x.length ≤ 1000)
    (hgood : ∀ i, i < j → i < xs.length → Good (xs.getD i "")) (hbad : j < xs.length → Bad cls (xs.getD j ""))
    (hE : ∀ e s', j < xs.length → (Fm.fm w mg mb 0 A "parse_keqv_list" scope a cd s X).Rz cls e s' → notedBy (model PP w) (Fm.fm w mg mb 0 A "parse_keqv_list" scope a cd s X).A (Fm.fm w mg mb 0 A "parse_keqv_list" scope a cd s X).env (cameBackBy (model PP w) (Fm.fm w mg mb 0 A "parse_keqv_list" scope a cd s X).A (Fm.fm w mg mb 0 A "parse_keqv_list" scope a cd s X).env E) e s')
    (S : (Fm.fm w mg mb 0 A "parse_keqv_list" scope a cd s X).St [("l", tD (.list (sds xs)))] s₁) :
    (Fm.fm w mg mb 0 A "parse_keqv_list" scope a cd s X).Run body (fun fl s' => ∃ v, fl = .ret v ∧ xs.length ≤ j ∧ Ext s s' ∧ (tDc w (kvAll xs)).P (cut (vw s') X) v) E s₁ := by
  have e := hd.symm.trans (show theDefs[1]? = some (_, _, _, _) from rfl)
  injection e with e; injection e with _ e; injection e with e1 e; injection e with e2 e3
  subst e1 e2 e3
  refine Fm.wp_newDict S fun a₁ s₂ ha hm S₂ => ?_
  let pnK : Nat → Addr → Pn := fun i b => if b = a₁ then (if i ≤ j then pnDict w (kvAt xs i) else pnFalse) else pnAny
  have S₃ := S₂.congrPn (pn := pnK 0) (fun b hb => by
    rcases List.mem_cons.mp hb with q | q
    · subst q; simp [Fm.add, pnK, kvAt]; rfl
    · exact nomatch q)
  refine Fm.wp_forE (pn := pnK) (ρi := fun _ => [("parsed", tV (.ref a₁)), ("l", tD (.list (sds xs)))]) (E' := fun e s' => j < xs.length ∧ (Fm.fm w mg mb 0 A "parse_keqv_list" _ a cd s X).Rz cls e s') S₃ (Fm.Src.list (Fm.Ev.name rfl)) ?_ (fun e s' h => hE e s' h.1 h.2) ?_
  · intro I P G i hI hi s₄ S₄
    rw [List.length_map] at hi
    have hIa : a₁ ≠ I := fun q => hI (q ▸ List.mem_cons_self ..)
    by_cases hij : i ≤ j
    · have hgd : (sds xs).getD i .none = .str (xs.getD i "") := getD_map' _ _ _ (Str.ofString "") _ hi
      have hxi : (xs.getD i (Str.ofString "")).length ≤ 1000 := hxl _ (getD_mem _ _ _ hi)
      rw [hgd] at S₄
      have hcases : (i = j ∧ Bad cls (xs.getD i "")) ∨ (i < j ∧ Good (xs.getD i "")) := by
        rcases Nat.lt_or_eq_of_le hij with h | h
        · exact .inr ⟨h, hgood i h hi⟩
        · exact .inl ⟨h, h ▸ hbad (h ▸ hi)⟩
      generalize hx : xs.getD i (Str.ofString "") = x at *
      have hz : x.length + 2 ≤ sizeLine := by rw [sizeLine_eq]; omega
      rcases hcases with ⟨hj, hb⟩ | ⟨hj, hg⟩
      · rcases hb with ⟨rfl, k, hk⟩ | ⟨rfl, k, hk⟩
        · exact Fm.wp_assignShort (d := .str k) S₄ (Fm.Ev.to (Fm.Ev.splitMax (Fm.Ev.name rfl) .str hz) (by rw [show Txt.splitMax x "=" 1 = [k] from hk]; rfl)) fun e s' h => ⟨hj ▸ hi, h⟩
        · refine Fm.wp_assignL (xs := [("k", _), ("v", _)]) (ds := [.str k, .str ""]) S₄ (Fm.Ev.to (Fm.Ev.splitMax (Fm.Ev.name rfl) .str hz) (by rw [show Txt.splitMax x "=" 1 = [k, Str.ofString ""] from hk]; rfl)) rfl fun s₅ S₅ => ?_
          exact Fm.wp_ifShort (x := "") S₅ (Fm.Ev.name rfl) (by decide) (by decide) fun e s' h => ⟨hj ▸ hi, h⟩
      · obtain ⟨k, v, hk, hv0, hv1⟩ := hg
        refine Fm.wp_assignL (xs := [("k", _), ("v", _)]) (ds := [.str k, .str v]) S₄ (Fm.Ev.to (Fm.Ev.splitMax (Fm.Ev.name rfl) .str hz) (by rw [show Txt.splitMax x "=" 1 = [k, v] from hk]; rfl)) rfl fun s₅ S₅ => ?_
        have hc0 : (seqIndex? (0 : Int) v.length).bind (v.cps[·]?) = some (v.cps.toList.getD 0 0) := StrLaws.at_nonneg (by decide) (by
          have : 0 < v.cps.size := hv0
          rw [Int.toNat_zero, List.getD_eq_getElem?_getD, Array.getElem?_toList, Array.getElem?_eq_getElem this]; rfl)
        have hc1 : (seqIndex? (-1 : Int) v.length).bind (v.cps[·]?) = some (v.cps.toList.getD (v.length - 1) 0) := StrLaws.at_neg (by decide) (by omega) (by
          have : v.length - 1 < v.cps.size := by show v.cps.size - 1 < _; have : 0 < v.cps.size := hv0; omega
          rw [show ((-1 : Int) + (v.length : Int)).toNat = v.length - 1 from by omega, List.getD_eq_getElem?_getD, Array.getElem?_toList, Array.getElem?_eq_getElem this]; rfl)
        refine Fm.wp_ifAdd (x := "v") (T := tS (unq v)) (b := quoted v) S₅ (Fm.Ts.and (b := chAt v 0 == "\"") (c := chAt v (v.length - 1) == "\"") (Fm.Ts.cmp (Fm.Ev.sub (Fm.Ev.name rfl) .int (Fm.Gt.str (by decide) hc0)) .str Fm.Cm.eq_str) fun _ => Fm.Ts.and1 (Fm.Ts.cmp (Fm.Ev.sub (Fm.Ev.name rfl) (Fm.Ev.neg_int .int) (Fm.Gt.str (by decide) hc1)) .str Fm.Cm.eq_str)) (fun hb s₆ S₆ => ?_) (fun hb s₆ S₆ => ?_) fun s₆ S₆ => ?_
        · rw [show unq v = Txt.slice v (some 1) (some (-1)) from by unfold unq; rw [if_pos hb]]
          exact Fm.wp_assign S₆ (Fm.Ev.str_slice (Fm.Ev.name rfl) (.some .int) (.some (Fm.Ev.neg_int .int)) (by rw [sizeLine_eq]; omega)) fun s₇ S₇ _ => Fm.wp_nil ⟨rfl, S₇⟩
        · rw [show unq v = v from by unfold unq; rw [if_neg (by rw [hb]; exact Bool.false_ne_true)]]
          exact Fm.wp_nil ⟨rfl, S₆.weaken (sub_cons rfl fun _ _ h => h)⟩
        refine Fm.wp_putDict (a := a₁) (kvs := kvAt xs i) S₆ rfl (by simp [Fm.add, Fm.withPn]) (by simp [Fm.add, Fm.withPn, hIa, pnK, hij]; rfl) (Fm.Ev.name rfl) (Fm.Ev.name rfl) (by rw [sizeLine_eq]; have := kvAt_len xs i; omega) fun s₇ S₇ => Fm.wp_nil ?_
        have hstep : kvAt xs (i + 1) = put (kvAt xs i) k (unq v) := by rw [kvAt_succ hi, show xs.getD i "" = x from hx]; unfold kvStep; rw [hk]
        have := Fm.St.turn (p' := pnK (i + 1)) (ρ := [("parsed", tV (.ref a₁)), ("l", tD (.list (sds xs)))]) S₇ hI (List.mem_cons_self ..) (fun b hb => by
          have : i + 1 ≤ j := hj
          simp only [pnK, this, hij, if_true, hstep]
          split <;> rfl) (sub_cons rfl (sub_cons rfl sub_nil))
        exact this
    · exfalso
      obtain ⟨o, _, hP⟩ := S₄.pinned a₁ (by simp [Fm.add, Fm.withPn])
      simp [Fm.add, Fm.withPn, hIa, pnK, hij, pnFalse] at hP
  · intro s₄ S₄
    have hl9 : (sds xs).length = xs.length := List.length_map ..
    rw [hl9] at S₄ ⊢
    by_cases hij : xs.length ≤ j
    · refine Fm.wp_return S₄ (Fm.Ev.name rfl) fun v s' S' _ hv => ?_
      have hv : v = .ref a₁ := hv
      subst hv
      obtain ⟨o, ho, hP⟩ := S'.pinned a₁ (by simp [Fm.add, Fm.withPn])
      obtain ⟨l, h1, h2⟩ : ∃ l, o.IsDictOf (PySem.strKind PP w) l ∧ SV l (kvAt xs xs.length) := by simpa [Fm.add, Fm.withPn, pnK, hij, pnDict] using hP
      have hall : kvAt xs xs.length = kvAll xs := by unfold kvAt kvAll; rw [List.take_length]
      rw [hall] at h2
      refine ⟨_, rfl, hij, S'.base, a₁, o, rfl, cut_mk (fun q => ?_) ho, hm, l, h1, h2⟩
      obtain ⟨o', ho'⟩ := S'.domX a₁ q
      rw [(S'.pinNew a₁ (by simp [Fm.add, Fm.withPn])).2] at ho'
      cases ho'
    · exfalso
      obtain ⟨o, _, hP⟩ := S₄.pinned a₁ (by simp [Fm.add, Fm.withPn])
      simp [Fm.add, Fm.withPn, pnK, hij, pnFalse] at hP
end Mine

/-! K2 -/
namespace Mine
open PySem PySem.Spec PyProof.Rows

theorem fn_keqv {w : World} {mg mb : Str → Option Value} {xs : List Str} (hlen : xs.length ≤ 1000) (hxl : ∀ x ∈ xs, x.length ≤ 1000) (hgood : ∀ x ∈ xs, Good x) : Fn w mg mb 1 "parse_keqv_list" [tD (.list (sds xs))] (tDc w (kvAll xs)) := by
  refine Fn.intro (List.mem_of_getElem? (i := 1) (show theDefs[1]? = some (_, _, _, _) from rfl)) (xs := ["l"]) rfl ?_ (by decide) (by decide) ?_
  · intro pm cd doc vals hv
    obtain ⟨v, rfl⟩ := vals1 hv; rfl
  intro A a cd s X hr s₁ S
  refine .mk (wpAny_mono (keqv_run (j := xs.length) (cls := "") rfl hlen hxl (fun i h1 h2 => hgood _ (getD_mem _ _ _ h2)) (fun h => absurd h (Nat.lt_irrefl _)) (fun e s' h _ => absurd h (Nat.lt_irrefl _)) S).wp (fun fl s' h => ?_) fun _ _ h => h)
  obtain ⟨v, rfl, _, h1, h2⟩ := h
  exact ⟨v, rfl, h1, h2⟩

abbrev kvD (kvs : List (Str × Str)) : PyData := .list (kvs.map fun p => pairD p.1 p.2)

namespace Fm
variable {F : Fm} {ρ : List (Str × Ty)} {s s' : Shared}
/-- list(d.items()) -/
theorem wp_itemsList {kvs : List (Str × Str)} {v : Value} (S : F.St ρ s) (hv : (tDc F.w kvs).P (cut (vw s) F.X) v) (hn : kvs.length ≤ sizeLine) {E : Value → Shared → Prop} {Q : Value → Shared → Prop} (k : ∀ v s', Ext s s' → Rd (cut (vw s') F.X) v (kvD kvs) → Q v s') :
    wpAny F.M F.A (PySem.call (.builtin "dict.items") [v]) (fun r s₁ => wpAny F.M F.A (PySem.call (.type "list") [r]) Q E s₁) E s := by
  obtain ⟨a, o, rfl, ho, hm, l, hd, hl⟩ := hv
  have hdo : s.heap.DictOf (PySem.strKind PP F.w) a l := Heap.dictOf_iff.mpr ⟨o, (cut_of ho).2, hd⟩
  refine call_meetsIn PySem.F.slot_dict_items hdo.typeIs PySem.F.entry_dict_items (PySem.F.args_dict_items_1 _) (meets_dict_items (PySem.strKind PP F.w) a hm) ⟨⟨l, hdo⟩, ?_⟩
  obtain ⟨ep, hat⟩ := W.KdkAt.of hd
  show wpAny F.M F.A (PySem.call (.type "list") [.ref s.heap.objs.size]) Q E { s with heap := s.heap.push { cls := .type "dict_items", data := .fields #[.ref a] } }
  refine wp_toks (W.kdx_call (knd := PySem.strKind PP F.w) (kvs := l) (ep := ep) S.room.1 ⟨_, Heap.get?_push_size _ rfl, rfl, rfl⟩ (hat.dictAt (Heap.get?_push_of_some _ (cut_of ho).2)) (by rw [hl.length]; exact hn) fun h' tk acc c as hk hS hal hG hacc ht => ?_)
  have ex : Ext s { s with heap := h', toks := tk } := Ext.mk' (fun b o q => hk b o (Heap.get?_push_of_some _ q)) ht
  have nX : ∀ b, s.heap.objs.size ≤ b → b ∉ F.X := fun b hb q => by
    obtain ⟨o, ho⟩ := S.domAll b q
    exact absurd (Heap.lt_size ho) (Nat.not_lt.mpr hb)
  have hsz : (s.heap.push { cls := .type "dict_items", data := .fields #[.ref a] }).objs.size = s.heap.objs.size + 1 := Heap.size_push ..
  refine k _ _ ex ?_
  refine .list (vs := acc) (n := c) (cut_mk (nX _ ?_) hS) ?_
  · show s.heap.objs.size ≤ (s.heap.push { cls := .type "dict_items", data := .fields #[.ref a] }).objs.size
    rw [hsz]; exact Nat.le_succ _
  · rw [hacc]
    have key : ∀ (as : List Addr) (kvs : List (Str × Str)), as.length = kvs.length → (∀ (j : Nat) (b : Addr), as[j]? = some b → ∃ k v t u, kvs[j]? = some (k, v) ∧ cut (fun b => h'.get? b) F.X b = some { cls := .type "tuple", data := .seq #[.str k t, .str v u] }) → RdAll (cut (fun b => h'.get? b) F.X) (as.map Value.ref) (kvs.map fun p => pairD p.1 p.2) := by
      intro as
      induction as with
      | nil => intro kvs hl _; cases kvs with
        | nil => exact .nil
        | cons _ _ => simp at hl
      | cons b as ih =>
        intro kvs hl h
        cases kvs with
        | nil => simp at hl
        | cons p kvs =>
          obtain ⟨k, v, t, u, e1, e2⟩ := h 0 b rfl
          simp only [List.getElem?_cons_zero, Option.some.injEq] at e1
          subst e1
          refine .cons (.tuple e2 (.cons (.str _ _) (.cons (.str _ _) .nil))) (ih kvs (by simpa using hl) fun j b hj => ?_)
          obtain ⟨k, v, t, u, e1, e2⟩ := h (j + 1) b (by simpa using hj)
          exact ⟨k, v, t, u, by simpa using e1, e2⟩
    refine key as kvs (by rw [hal, hl.length]) fun j b hj => ?_
    obtain ⟨kv, k, x, h1, h2, h3⟩ := hG.pairs j b hj
    obtain ⟨v, u, h4, h5⟩ := hl.get h1
    obtain ⟨t, rfl⟩ := Value.isStrOf_shape h2
    subst h5
    have hb : s.heap.objs.size ≤ b := Nat.le_of_lt (Nat.lt_of_le_of_lt (by show s.heap.objs.size ≤ (s.heap.push { cls := .type "dict_items", data := .fields #[.ref a] }).objs.size; rw [hsz]; exact Nat.le_succ _) (hG.above b (List.mem_of_getElem? hj)))
    exact ⟨k, v, t, u, h4, cut_mk (nX b hb) h3⟩
end Fm
end Mine

/-! Fw14 -/
namespace Mine
open PySem PySem.Spec PyProof.Rows

theorem keys_none : typeLookup (.type "list") "keys" = pure none := am_miss_of_fast (by kernel_rfl)

theorem wp_keysMiss {w : World} {A : Around} {E : Value → Shared → Prop} {s : Shared} {a : Addr} {xs : Array Value} {k : Nat} {Q : Option Value → Shared → Prop} (hx : s.heap.get? a = some ⟨.type "list", none, .seq xs k, #[]⟩) (hA : A.handled = none)
    (h : ∀ h' tk, (∀ b o, s.heap.get? b = some o → h'.get? b = some o) → Q none { s with heap := h', toks := tk }) : wpAny (model PP w) A (getAttr? (.ref a) "keys") Q E s := by
  obtain ⟨hp, g, d, tk, os⟩ := s
  have hT : ∀ tk', (⟨hp, g, d, tk', os⟩ : Shared).TypeIs (.ref a) "list" := fun _ => ⟨_, hx, rfl⟩
  have f1 := sub_AttributeError
  have f3 := PySem.F.slot_list_getattribute.lookup
  have f4 := PySem.F.slot_list_getattribute.bind (.ref a)
  have f5 := am_list_getattr_none
  unfold getAttr? getAttrBy? getAttrBy
  repeat (any_goals (first | assumption | exact hT _ | ((with_reducible show wpAny _ _ (call (Value.builtin "list.__getattribute__") _ _) _ _ _); refine call_meets PySem.F.slot_list_getattribute (hT _) am_entry_list_getattribute (PySem.F.args_list_getattribute_2 _ _) (meets_getattribute_miss_list a xs k #[] "keys" _ keys_none (by decide) (by size_fits)) ⟨hx, hA, fun h' tk' e hx' => ?_⟩) | wp_step))
  obtain ⟨t', u', he⟩ := hx'.there
  show wpAny _ _ (getattributeRaised _ _ _ _ _ _ _) _ _ _
  unfold getattributeRaised
  repeat (any_goals (first | assumption | wp_step))
  exact h _ _ hx'.keeps
end Mine

/-! Fw15 -/
namespace Mine
open PySem PySem.Spec PyProof.Rows

theorem entry_dictLoop : entryFor table "dict.update.loop" = some Builtin.«dict.update.loop» := entryFor_of_tree (by kernel_rfl)
theorem quiet_dictLoop (args : Args) : (Code.builtin "dict.update.loop" args).quiet = true := Code.quiet_builtin _ (by decide +kernel)
def putAll (ps : List (Str × Str)) (acc : List (Str × Str)) : List (Str × Str) := ps.foldl (fun acc p => put acc p.1 p.2) acc
theorem put_len' (l : List (Str × Str)) (k v : Str) : (put l k v).length ≤ l.length + 1 := by
  unfold put; split
  · rw [List.length_map]; omega
  · simp

/-- the rest of the pairs goes into the dict -/
theorem dict_loop {w : World} {A : Around} {d it l : Addr} {vs : Array Value} {V : View} (hh : A.handled = none) : ∀ (ps : List (Str × Str)) (i : Nat) (acc : List (Str × Str)) (kvl : List (Str × Value)) (s : Shared), RdAll V (vs.toList.drop i) (ps.map pD) → i + ps.length = vs.size → (∀ b o, V b = some o → s.heap.get? b = some o ∧ b ≠ d ∧ b ≠ it) → d ≠ it →
    l ≠ d → l ≠ it → s.heap.IsList l vs → s.heap.IsListIter it l i → s.heap.DictOf (PySem.strKind PP w) d kvl → SV kvl acc → acc.length + ps.length ≤ sizeLine → ∀ (Q : Value → Shared → Prop) (E : Value → Shared → Prop),
    (∀ h' tk kvl', (∀ b o, b ≠ d → b ≠ it → s.heap.get? b = some o → h'.get? b = some o) → s.toks ≤ tk → h'.DictOf (PySem.strKind PP w) d kvl' → SV kvl' (putAll ps acc) → Q .none { s with heap := h', toks := tk }) →
    codeAny (model PP w) A (.builtin "dict.update.loop" ⟨[.ref d, .ref it, rawInt i, .none], []⟩) (wants Q E) s := by
  intro ps
  induction ps with
  | nil =>
    intro i acc kvl s hr hlen hV hdi hld hli hl hit hd hsv hsz Q E k
    refine codeAny_builtin entry_dictLoop ?_
    show wpAny _ _ (pyNext (.ref it) >>= _) _ _ _
    have hiv : vs[i]? = none := by simp at hlen; simp [hlen]
    refine wpAny_bind (wpAny_pyNext_list_end (A := A.under _) hh hit hl hiv fun h' he => ?_)
    show wpAny _ _ (Builtin.Dict.addKeywords d [] >>= _) _ _ _
    refine wpAny_bind (wpAny_pure (wpAny_pure ?_))
    exact k h' s.toks kvl (fun b o _ hb q => he b o hb q) (Nat.le_refl _) (hd.extBut he hdi) hsv
  | cons p ps ih =>
    intro i acc kvl s hr hlen hV hdi hld hli hl hit hd hsv hsz Q E k
    have hi : i < vs.size := by simp at hlen; omega
    have hdrop : vs.toList.drop i = vs[i] :: vs.toList.drop (i + 1) := by rw [List.drop_eq_getElem_cons (by simpa using hi)]; simp
    rw [hdrop] at hr
    cases hr with
    | cons h1 h2 =>
    obtain ⟨t, us, n, ht, hT, hus⟩ := h1.tuple_inv
    obtain ⟨u1, u2, rfl⟩ : ∃ u1 u2, us = #[.str p.1 u1, .str p.2 u2] := by
      obtain ⟨us⟩ := us
      cases hus with
      | cons a b => cases b with
        | cons c e =>
          cases e
          obtain ⟨u1, rfl⟩ := a.str_inv
          obtain ⟨u2, rfl⟩ := c.str_inv
          exact ⟨u1, u2, rfl⟩
    refine codeAny_builtin entry_dictLoop ?_
    show wpAny _ _ (pyNext (.ref it) >>= _) _ _ _
    refine wpAny_bind (wpAny_pyNext_list_item (x := .ref t) hit hl (by rw [← ht]; simp [hi]) fun h₁ hit₁ hs₁ => ?_)
    dsimp only
    obtain ⟨hT0, htd, hti⟩ := hV t _ hT
    have hT1 : h₁.get? t = some ⟨.type "tuple", none, .seq #[.str p.1 u1, .str p.2 u2] n, #[]⟩ := (hs₁.2 t hti).trans hT0
    refine wpAny_bind (wpAny_holding (wpAny_bind (wpAny_tryCatch ?_)))
    unfold Builtin.Dict.pairItems
    refine wpAny_bind (wpAny_typeOf (T := "tuple") ⟨_, hT1, rfl⟩ ?_)
    rw [if_pos (by decide)]
    refine wpAny_bind (wpAny_seqItems hT1 rfl (wpAny_pure ?_))
    show wpAny _ _ (holding _ (dictSet d _ _)) _ _ _
    have hd₁ : h₁.DictOf (PySem.strKind PP w) d kvl := hd.sameBut hs₁ hdi
    refine wpAny_holding (wpAny_dictSet_pairs (hsz := by rw [hsv.length]; simp at hsz; omega) (PySem.strKind_is PP w p.1 u1) hd₁ fun h₂ hd₂ hs₂ => ?_)
    refine wpAny_pure ⟨quiet_dictLoop _, ?_⟩
    have hk : ∀ b o, b ≠ d → b ≠ it → s.heap.get? b = some o → h₂.get? b = some o := fun b o hb hb' q => (hs₂.2 b hb).trans ((hs₁.2 b hb').trans q)
    have hit₂ : h₂.IsListIter it l (i + 1) := by obtain ⟨o, ho, r⟩ := hit₁; exact ⟨o, (hs₂.2 it (Ne.symm hdi)).trans ho, r⟩
    have hl₂ : h₂.IsList l vs := by obtain ⟨o, ho, r⟩ := hl; exact ⟨o, hk l o hld hli ho, r⟩
    have := ih (i + 1) (put acc p.1 p.2) (stored kvl p.1 (.str p.2 u2)) { s with heap := h₂, toks := s.toks + 1 } h2 (by simp at hlen; omega) (fun b o q => ⟨hk b o (hV b o q).2.1 (hV b o q).2.2 (hV b o q).1, (hV b o q).2⟩) hdi hld hli hl₂ hit₂ hd₂ (hsv.stored p.1 p.2 u2) (by have := put_len' acc p.1 p.2; simp at hsz; omega) Q E
      (fun h' tk kvl' hk' ht' hd' hs' => k h' tk kvl' (fun b o hb hb' q => hk' b o hb hb' (hk b o hb hb' q)) (Nat.le_of_succ_le ht') hd' hs')
    have e : (rawInt ((i : Int) + 1)) = rawInt ((i + 1 : Nat) : Int) := by push_cast; rfl
    show codeAny _ A (.builtin "dict.update.loop" ⟨[.ref d, .ref it, rawInt ((i : Int) + 1), .none], []⟩) _ _
    rw [e]
    exact this

namespace Fm
variable {F : Fm} {ρ : List (Str × Ty)} {s s' : Shared}

theorem wp_dictPairs {ps : List (Str × Str)} {v : Value} (S : F.St ρ s) (hv : Rd (cut (vw s) F.X) v (.list (ps.map pD))) (hn : ps.length ≤ sizeLine) {E : Value → Shared → Prop} {Q : Value → Shared → Prop}
    (k : ∀ v s', Ext s s' → (tDc F.w (putAll ps [])).P (cut (vw s') F.X) v → Q v s') : wpAny F.M F.A (PySem.call (.type "dict") [v]) Q E s := by
  obtain ⟨l, vs, n, rfl, hl, hr⟩ := hv.list_inv
  have hl0 := (cut_of hl).2
  refine callType_codes (Q₁ := fun obj s₁ => obj = .ref s.heap.objs.size ∧ s₁ = { s with heap := s.heap.push { cls := .type "dict", data := .dict #[] } }) PySem.F.kt_called_dict (PySem.F.kt_typeCall_dict_1 _) PySem.F.entry_dict_init (kt_code_dict_new _ ⟨rfl, rfl⟩) ?_
  rintro obj s₁ ⟨rfl, rfl⟩
  have hnew : (s.heap.push { cls := .type "dict", data := .dict #[] }).DictOf (PySem.strKind PP F.w) s.heap.objs.size [] := Heap.DictOf.new s.heap
  have hl1 : (s.heap.push { cls := .type "dict", data := .dict #[] }).get? l = some ⟨.type "list", none, .seq vs n, #[]⟩ := Heap.get?_push_of_some _ hl0
  refine ⟨hnew.typeIs, PySem.F.args_dict_init_2 _ _, ?_⟩
  unfold Builtin.«dict.__init__»
  refine wpAny_bind ?_
  unfold Builtin.Dict.selfAndRest
  refine wpAny_bind (wpAny_notOrdered_dict hnew.typeIs ?_)
  show wpAny _ _ (pure (s.heap.objs.size, [Value.ref l])) _ _ _
  refine wpAny_pure ?_
  show wpAny _ _ (Builtin.Dict.updateFrom "dict.__init__" s.heap.objs.size (.ref l) [] .none) _ _ _
  unfold Builtin.Dict.updateFrom
  refine wpAny_bind (wpAny_typeOf (T := "list") ⟨_, hl1, rfl⟩ ?_)
  rw [if_pos (by decide)]
  refine wpAny_bind (wp_toks (wp_keysMiss hl1 S.room.1 fun h₂ tk hk₂ ht₂ => ?_))
  dsimp only [Option.isNone]
  rw [if_pos rfl]
  refine wpAny_bind (wpAny_rule ?_)
  have hl2 : h₂.get? l = some ⟨.type "list", none, .seq vs n, #[]⟩ := hk₂ _ _ hl1
  refine wpAny_bind (wpAny_pyIter_list ⟨_, hl2, rfl, n, rfl⟩ ?_)
  refine wpAny_pure ⟨quiet_dictLoop _, ?_⟩
  have hd2 : h₂.DictOf (PySem.strKind PP F.w) s.heap.objs.size [] := by obtain ⟨o, es, ep, ho, r⟩ := hnew; exact ⟨o, es, ep, hk₂ _ _ ho, r⟩
  have sz : s.heap.objs.size < h₂.objs.size := by obtain ⟨o, _, _, ho, _⟩ := hd2; exact Heap.lt_size ho
  have low : ∀ b o, s.heap.get? b = some o → b ≠ s.heap.objs.size ∧ b ≠ h₂.objs.size := fun b o q => ⟨Nat.ne_of_lt (Heap.lt_size q), Nat.ne_of_lt (Nat.lt_trans (Heap.lt_size q) sz)⟩
  have hsz := size_of hr
  refine dict_loop (A := F.A.in1) (V := cut (vw s) F.X) (vs := vs) (l := l) S.room.1 ps 0 [] [] { s with heap := h₂.push { cls := .type "list_iterator", data := .fields #[.ref l, .int 0 0] }, toks := tk } (by simpa using hr) (by rw [hsz, List.length_map]; omega) (fun b o q => ?_) (Nat.ne_of_lt sz) (low l _ hl0).1 (low l _ hl0).2 ⟨_, Heap.get?_push_of_some _ hl2, rfl, n, rfl⟩ ⟨_, Heap.get?_push_size _ rfl, rfl, rfl⟩ (hd2.push _) .nil (by simpa using hn) (fun r s₂ => r = Value.none ∧ Q (Value.ref s.heap.objs.size) s₂) E fun h' tk' kvl' hk' htk' hd' hsv' => ⟨rfl, ?_⟩
  · exact ⟨Heap.get?_push_of_some _ (hk₂ _ _ (Heap.get?_push_of_some _ (cut_of q).2)), low b o (cut_of q).2⟩
  have keep : ∀ b o, s.heap.get? b = some o → h'.get? b = some o := fun b o q => hk' b o (low b o q).1 (low b o q).2 (Heap.get?_push_of_some _ (hk₂ _ _ (Heap.get?_push_of_some _ q)))
  have ex : Ext s { s with heap := h', toks := tk' } := Ext.mk' keep (Nat.le_trans ht₂ htk')
  obtain ⟨o, ho, hdd⟩ := Heap.dictOf_iff.mp hd'
  refine k _ _ ex ⟨s.heap.objs.size, o, rfl, cut_mk S.new ho, ?_, kvl', hdd, hsv'⟩
  have := modules_low S.g.nolimit
  have h9 : s.heap.objs.size ≠ sysModules := Nat.ne_of_gt this
  simpa using h9
theorem Ev.dictPairs {np pos : Pos} {e : Expr} {ps : List (Str × Str)} (h : F.Ev ρ e (tD (.list (ps.map pD)))) (hn : ps.length ≤ sizeLine)
    (hk : F.env.kindOf "dict" = some .globalImplicit := by rfl) (he : starEach [e] F.env = (false, eval e F.env) :: starEach [] F.env := by rfl) : F.Ev ρ (.Call (.Name "dict" np) [e] [] pos) (tDc F.w (putAll ps [])) :=
  Ev.tcall (T := "dict") PyProof.Rows.boot_dict (Evs.cons h .nil he) (fun s S vs hvs E Q k => by
    cases hvs with
    | cons h1 h2 => cases h2; exact wp_dictPairs S h1 hn k) (hk := hk) (hs := he)
end Fm
end Mine

/-! Fw16 -/
namespace Mine
open PySem PySem.Spec PyProof.Rows
namespace Fm
variable {F : Fm} {ρ : List (Str × Ty)} {s s' : Shared}

/-- what stands behind a comprehension -/
structure CDone (F : Fm) (es : List PyData) (s : Shared) (C D : Addr) (s' : Shared) : Prop where
  ext : Ext s s'
  new : s.heap.get? C = none
  ne : C ≠ D
  ns : ∃ m, s'.heap.Ns C m
  rd : Rd (cut (vw s') (F.Y ++ ((C :: F.Z) ++ F.Xo))) (.ref D) (.list es)

def Cmp (F : Fm) (ρ : List (Str × Ty)) (elt : Expr) (gens : List Comprehension) (scope : Scope) (pos : Pos) (es : List PyData) : Prop :=
  ∀ s, F.St ρ s → ∀ (E : Value → Shared → Prop) (use : Option (Value → Sem Unit)) (Q : Value → Shared → Prop), (∀ C D s', F.CDone es s C D s' → compPost F.M F.A E use Q (.ref D) C (.ok .next) s') →
    wpAny F.M F.A (comprehension (.ListComp elt gens scope pos) scope F.env (firstIterPos gens pos) (newList []) (firstAsync gens) (firstIter gens F.env) use) Q E s

theorem Ev.ofCmp {elt : Expr} {gens : List Comprehension} {scope : Scope} {pos : Pos} {es : List PyData} (c : F.Cmp ρ elt gens scope pos es) : F.Ev ρ (.ListComp elt gens scope pos) (tD (.list es)) := fun s S E Q k => by
  rw [eval_ListComp]
  refine c s S E Option.none Q fun C D s' d => ?_
  obtain ⟨e', hC, hCD, ⟨m, hm⟩, hr⟩ := d
  refine ⟨m, hm, fun h' hsb => ?_⟩
  have keep : ∀ b o, b ≠ C → s'.heap.get? b = some o → h'.get? b = some o := fun b o hb h => (hsb.2 b hb).trans h
  have ex : Ext s { s' with heap := h' } := ⟨fun b o _ h => keep b o (fun q => by rw [q, hC] at h; cases h) (e'.all b o h), fun b o h => ⟨o, keep b o (fun q => by rw [q, hC] at h; cases h) (e'.all b o h)⟩, e'.os, e'.gens, e'.toks⟩
  refine k _ _ ex (S.ext ex) (Rd.mono (fun b o h => ?_) hr)
  have hb := cut_of h
  have hbC : b ≠ C := fun q => hb.1 (by simp [q])
  refine cut_mk (fun q => hb.1 ?_) (keep b o hbC hb.2)
  simp only [Fm.X, List.mem_append, List.mem_cons] at q ⊢
  rcases q with q | q | q
  · exact .inl q
  · exact .inr (.inl (.inr q))
  · exact .inr (.inr q)

theorem wp_assignCmp {elt : Expr} {gens : List Comprehension} {scope : Scope} {pos : Pos} {es : List PyData} {y : Str} {py spos : Pos} {rest : List Stmt} {E : Value → Shared → Prop} {Q : Flow → Shared → Prop} (c : F.Cmp ρ elt gens scope pos es) (S : F.St ρ s)
    (h : ∀ s', F.St ((y, tD (.list es)) :: ρ) s' → F.Run rest Q E s')
    (hk : F.env.kindOf y = some .local := by rfl)
    (hsw : swapsWith (.ListComp elt gens scope pos) (some (.Name y py)) spos.line F.env = pure true := by rfl) :
    F.Run (.Assign [.Name y py] (.ListComp elt gens scope pos) spos :: rest) Q E s := by
  refine .mk <| wpAny_execs_cons ?_
  rw [exec_Assign_Name_used _ _ _ _ hsw]
  refine wpAny_bind (wpAny_standAt (wpAny_bind ?_))
  show wpAny _ F.A (do let _ ← comprehension (.ListComp elt gens scope pos) scope F.env _ (newList []) (firstAsync gens) (firstIter gens F.env) (some (assign (.Name y py) F.env))) _ _ s
  refine wpAny_bind (wpAny_mono (c s S E (some (assign (.Name y py) F.env)) (fun _ s' => wpAny F.M F.A (execs rest F.env) Q E s') fun C D s' d => ?_) (fun _ s' hq => wpAny_pure (wpAny_pure hq)) fun _ _ e => e)
  obtain ⟨e', hC, hCD, ⟨m, hm⟩, hr⟩ := d
  show wpAny F.M F.A (assign (.Name y py) F.env (.ref D)) _ _ _
  have hCZ : C ∉ F.Z := fun h => by obtain ⟨o, q, _⟩ := S.pinned C h; rw [hC] at q; cases q
  have S₁ : (F.add C pnAny).St ρ s' := S.pin e' hC (let ⟨o, _, _, ho, _⟩ := hm; ⟨o, ho, trivial⟩) trivial
  refine wpAny_assign_Name (wp_store (F := F.add C pnAny) (T := tD (.list es)) S₁ hr hk fun s₂ S₂ e₂ => ?_)
  have hCL : C ≠ F.env.locals := S₁.ne_loc (List.mem_cons_self ..)
  refine ⟨m, hm.at fun o h => e₂.keep _ o (fun q => hCL (List.mem_singleton.mp q)) h, fun h' hsb => (h { s₂ with heap := h' } (S₂.leave (s' := { s₂ with heap := h' }) hCZ (fun b o hb q => (hsb.2 b hb).trans q) rfl (.refl _) (Nat.le_refl _))).wp⟩

/-- the state of a comprehension's frame -/
theorem comp_StG {scope : Scope} {cells : List (Str × Addr)} {C : Addr} {own Z : List Addr} {pn : Addr → Pn} {gh : Gp} {s₂ : Shared} {ρ' : List (Str × Ty)} (S : F.St ρ s) (ex : Ext s s₂) (hkind : scope.kind = .function)
    (nY : ∀ y ∈ C :: own, s.heap.get? y = none ∧ ∃ o, s₂.heap.get? y = some o) (hC : ∃ m, s₂.heap.Ns C m)
    (hcells : ∀ x c, cells.lookup x = some c → (∃ v, s₂.heap.IsCell c v) ∧ (c ∈ C :: own ∨ ∃ o, s.heap.get? c = some o)) (hap : cells.Pairwise fun x y => x.2 ≠ y.2)
    (nZ : ∀ a ∈ Z, a ∉ C :: own ∧ s.heap.get? a = none) (hZ : ∀ a ∈ Z, ∃ o, s₂.heap.get? a = some o ∧ (pn a).P (cut (vw s₂) ((C :: own) ++ (Z ++ F.X))) o)
    (hG : gh.P (cut (vw s₂) ((C :: own) ++ (Z ++ F.X)))) (hfv : Fv F (compEnvC scope cells C F.env) ρ ρ') :
    (F.cf scope cells C own s Z pn gh).St ρ' s₂ := by
  have le : Le (cut (vw s) F.X) (cut (vw s₂) ((C :: own) ++ (Z ++ F.X))) := by
    intro b o h
    have hb := cut_of h
    have h9 : s.heap.get? b = some o := hb.2
    refine cut_mk (fun q => ?_) (ex.all _ _ hb.2)
    rcases List.mem_append.mp q with q | q
    · rw [(nY b q).1] at h9; cases h9
    · rcases List.mem_append.mp q with q | q
      · rw [(nZ b q).2] at h9; cases h9
      · exact hb.1 q
  exact ⟨ex, fun y hy => (nY y hy).1, fun y hy => (nY y hy).2, S.domAll, S.g, S.room, S.toks, hkind, S.glob, S.bns, by simp [cf, compEnvC], hC, fun x c hc => (hcells x c hc).1, hap, fun x c hc => (hcells x c hc).2, nZ, hZ, hG, hfv.has S ex.all le⟩

section
variable {elt target iter : Expr} {ifs : List Expr} {scope : Scope} {pos : Pos} {cl : List (Str × Addr)} {n : Nat} {Pv : Nat → Ty} {ρ' : List (Str × Ty)} {ρt : Nat → List (Str × Ty)} {b : Nat → Bool} {e : Nat → PyData}

theorem Cmp.plain (c : F.Cq ρ elt target iter ifs scope cl n Pv ρ' ρt b e) (hs : ∀ x, foldedSetIterable iter F.env x = pure x := by intro _; rfl) : F.Cmp ρ elt [⟨target, iter, ifs, 0⟩] scope pos (gath n b e) := fun s S E use Q h =>
  comp_core c S hs fun C D s' S' => by
    obtain ⟨e', hC, hCD, hm, hr⟩ := comp_done S S'
    exact h C D s' ⟨e', hC, hCD, hm, hr⟩

/-- what a comprehension with one cell of its own asks -/
structure CqC (F : Fm) (ρ : List (Str × Ty)) (y : Str) (elt target iter : Expr) (ifs : List Expr) (scope : Scope) (cl : List (Str × Addr)) (n : Nat) (Pv : Nat → Ty) (ρ' : List (Str × Ty)) (ρt : Nat → List (Str × Ty)) (b : Nat → Bool) (e : Nat → PyData) : Prop where
  src : F.Src ρ iter n Pv
  size : n ≤ sizeLine
  clos : closureFor scope F.env = pure cl
  clok : ClOk F.env cl
  fv : ∀ C, Fv F (compEnvC scope ((y, C + 1) :: cl) C F.env) ρ ρ'
  asg : ∀ C s2 Z pn G i, i < n → (F.cf scope ((y, C + 1) :: cl) C [C + 1] s2 Z pn G).Asg ρ' target (Pv i) (ρt i)
  test : ∀ C s2 Z pn G i, i < n → (F.cf scope ((y, C + 1) :: cl) C [C + 1] s2 Z pn G).Tests (ρt i) ifs (b i)
  elt : ∀ C s2 Z pn G i, i < n → b i = true → (F.cf scope ((y, C + 1) :: cl) C [C + 1] s2 Z pn G).Ev (ρt i) elt (tD (e i))
  back : ∀ i x T, i < n → ρ'.lookup x = some T → (ρt i).lookup x = some T
  kind : scope.kind = .function
  names : ∀ x ∈ scope.names, x.2 = .local → scope.names.lookup x.1 = some .local
  onecell : ∀ m, cellsFrom m scope.names cl = (y, m) :: cl
  onepush : ∀ h, pushCells h scope.names = h.push { cls := .type "cell", data := .cell none }
  let_ : ∀ I v, letOwnedTupleGo target (.ref I) v = pure ()

theorem Cmp.cell {y : Str} (c : F.CqC ρ y elt target iter ifs scope cl n Pv ρ' ρt b e) (hs : ∀ x, foldedSetIterable iter F.env x = pure x := by intro _; rfl) : F.Cmp ρ elt [⟨target, iter, ifs, 0⟩] scope pos (gath n b e) := fun s S E use Q h => by
  refine wpAny_comprehension_free (cl := cl) rfl hs c.clos c.kind c.names ?_
  refine c.src s S E _ fun I s₁ G K e₁ hI wk hK hG => ?_
  refine wpAny_newObj_type ?_
  refine wp_compEnv ?_
  rw [c.onecell, c.onepush]
  have hC : (s₁.heap.push { cls := .type "list", data := .seq ([] : List Value).toArray }).objs.size = s₁.heap.objs.size + 1 := Heap.size_push ..
  have hC2 : ((s₁.heap.push { cls := .type "list", data := .seq ([] : List Value).toArray }).push { cls := .type "dict", data := .dict #[] }).objs.size = s₁.heap.objs.size + 1 + 1 := by rw [Heap.size_push, hC]
  obtain ⟨oI, hoI, hK0⟩ := id hK
  have hIlt : I < s₁.heap.objs.size := Heap.lt_size hoI
  have hDI : s₁.heap.objs.size ≠ I := Nat.ne_of_gt hIlt
  have big : ∀ n, s₁.heap.objs.size ≤ n → s.heap.get? n = none := fun n hn => by
    cases e : s.heap.get? n with
    | none => rfl
    | some o => exact absurd (Heap.lt_size (e₁.all _ _ e)) (Nat.not_lt.mpr hn)
  let h₃ := ((s₁.heap.push { cls := .type "list", data := .seq ([] : List Value).toArray }).push { cls := .type "dict", data := .dict #[] }).push { cls := .type "cell", data := .cell none }
  have k3 : ∀ b o, s₁.heap.get? b = some o → h₃.get? b = some o := fun b o e => Heap.get?_push_of_some _ (Heap.get?_push_of_some _ (Heap.get?_push_of_some _ e))
  have ex : Ext s { s₁ with heap := h₃ } := e₁.trans (ext_of_keep k3)
  have hD3 : h₃.get? s₁.heap.objs.size = some { cls := .type "list", data := .seq ([] : List Value).toArray } := Heap.get?_push_of_some _ (Heap.get?_push_of_some _ (Heap.get?_push_size _ rfl))
  have hC3 : h₃.Ns (s₁.heap.objs.size + 1) fun _ => none := by
    have := Heap.Ns.new (s₁.heap.push { cls := .type "list", data := .seq ([] : List Value).toArray }) (.type "dict")
    rw [hC] at this; exact this.keeps fun b o e => Heap.get?_push_of_some _ e
  have hc3 : h₃.get? (s₁.heap.objs.size + 1 + 1) = some { cls := .type "cell", data := .cell none } := by rw [← hC2]; exact Heap.get?_push_size _ rfl
  have St' : (F.cf scope ((y, s₁.heap.objs.size + 1 + 1) :: cl) (s₁.heap.objs.size + 1) [s₁.heap.objs.size + 1 + 1] s [I, s₁.heap.objs.size] (fun a => if a = I then pnO (K 0) else pnList []) G).St ρ' { s₁ with heap := h₃ } := by
    refine comp_StG S ex c.kind (fun z hz => ?_) ⟨_, hC3⟩ (fun x cc hx => ?_) ?_ (fun a ha => ?_) (fun a ha => ?_) ?_ (c.fv _)
    · rcases List.mem_cons.mp hz with q | q
      · subst q; obtain ⟨o, _, _, ho, _⟩ := id hC3; exact ⟨big _ (Nat.le_succ _), o, ho⟩
      · have : z = s₁.heap.objs.size + 1 + 1 := by simpa using q
        subst this; exact ⟨big _ (by omega), _, hc3⟩
    · rw [List.lookup_cons] at hx
      cases hb : x == y with
      | true => rw [hb] at hx; cases hx; exact ⟨⟨none, _, hc3, rfl⟩, .inl (by simp)⟩
      | false =>
        rw [hb] at hx
        have hx := c.clok.mem _ _ (PySem.mem_of_lookup hx)
        obtain ⟨v, o, ho, hd⟩ := S.cells x cc hx
        exact ⟨⟨v, o, ex.all _ _ ho, hd⟩, .inr ⟨o, ho⟩⟩
    · refine List.pairwise_cons.mpr ⟨fun p hp q => ?_, c.clok.apart S.apart⟩
      obtain ⟨x, cc⟩ := p
      obtain ⟨v, o, ho, hd⟩ := S.cells x cc (c.clok.mem _ _ hp)
      have q : s₁.heap.objs.size + 1 + 1 = cc := q
      rw [← q, big _ (by omega)] at ho; cases ho
    · rcases List.mem_cons.mp ha with q | q
      · subst q
        refine ⟨fun h => ?_, hI⟩
        rcases List.mem_cons.mp h with q | q
        · exact absurd hIlt (by rw [q]; exact Nat.not_lt.mpr (Nat.le_succ _))
        · have : a = s₁.heap.objs.size + 1 + 1 := by simpa using q
          exact absurd hIlt (by rw [this]; exact Nat.not_lt.mpr (Nat.le_trans (Nat.le_succ _) (Nat.le_succ _)))
      · have : a = s₁.heap.objs.size := by simpa using q
        subst this
        refine ⟨fun h => ?_, big _ (Nat.le_refl _)⟩
        rcases List.mem_cons.mp h with q | q
        · exact absurd q (Nat.ne_of_lt (Nat.lt_succ_self _))
        · have q : s₁.heap.objs.size = s₁.heap.objs.size + 1 + 1 := by simpa using q
          exact absurd q (Nat.ne_of_lt (Nat.lt_trans (Nat.lt_succ_self _) (Nat.lt_succ_self _)))
    · rcases List.mem_cons.mp ha with q | q
      · subst q; exact ⟨oI, k3 _ _ hoI, by simp only [if_true]; exact hK0⟩
      · have : a = s₁.heap.objs.size := by simpa using q
        subst this; exact ⟨_, hD3, by simp only [hDI, if_false]; exact ⟨_, _, rfl, .nil⟩⟩
    · refine G.mono _ _ ?_ hG
      intro b o h
      have hb := cut_of h
      refine cut_mk (fun q => ?_) (k3 _ _ hb.2)
      have hlt : b < s₁.heap.objs.size := Heap.lt_size hb.2
      rcases List.mem_append.mp q with q | q
      · rcases List.mem_cons.mp q with q | q
        · exact absurd hlt (by rw [q]; exact Nat.not_lt.mpr (Nat.le_succ _))
        · have : b = s₁.heap.objs.size + 1 + 1 := by simpa using q
          exact absurd hlt (by rw [this]; exact Nat.not_lt.mpr (Nat.le_trans (Nat.le_succ _) (Nat.le_succ _)))
      · rcases List.mem_append.mp q with q | q
        · rcases List.mem_cons.mp q with q | q
          · exact hb.1 (by simp [q])
          · have : b = s₁.heap.objs.size := by simpa using q
            exact absurd hlt (by rw [this]; exact Nat.lt_irrefl _)
        · refine hb.1 ?_
          simp only [Fm.X, List.mem_append, List.mem_cons] at q ⊢
          rcases q with q | q | q
          · exact .inl q
          · exact .inr (.inl (.inr q))
          · exact .inr (.inr q)
  have done : ∀ s', (F.cf scope ((y, s₁.heap.objs.size + 1 + 1) :: cl) (s₁.heap.objs.size + 1) [s₁.heap.objs.size + 1 + 1] s [s₁.heap.objs.size] (fun _ => pnList (gath n b e)) gpTrue).St ρ' s' → compPost F.M F.A E use Q (.ref s₁.heap.objs.size) (s₁.heap.objs.size + 1) (.ok .next) s' := fun s' S' => by
    obtain ⟨e', hC, hCD, hm, hr⟩ := comp_done S S'
    exact h _ _ s' ⟨e', hC, hCD, hm, hr⟩
  have loop : codeAny F.M F.A (.compLoop (.ListComp elt [⟨target, iter, ifs, 0⟩] scope pos) 0 (.ref I) (.ref s₁.heap.objs.size) (compEnvC scope ((y, s₁.heap.objs.size + 1 + 1) :: cl) (s₁.heap.objs.size + 1) F.env)) (compPost F.M F.A E use Q (.ref s₁.heap.objs.size) (s₁.heap.objs.size + 1)) { s₁ with heap := h₃ } :=
    comp_loop hDI c.size St' wk (fun i pn hi => c.asg _ _ _ _ _ i hi) (fun i pn hi => c.test _ _ _ _ _ i hi) (fun i pn hi hb => c.elt _ _ _ _ _ i hi hb) c.back done (c.let_ I)
  have start : codeAny F.M F.A (.compStart (.ListComp elt [⟨target, iter, ifs, 0⟩] scope pos) 0 (.ref I) (.ref s₁.heap.objs.size) (compEnvC scope ((y, s₁.heap.objs.size + 1 + 1) :: cl) (s₁.heap.objs.size + 1) F.env)) (compPost F.M F.A E use Q (.ref s₁.heap.objs.size) (s₁.heap.objs.size + 1)) { s₁ with heap := h₃ } := by
    refine codeAny_compStart_list loop (wk.self 0 _ (G.mono _ _ (cut_le _ _) St'.ghost) ?_ _ _ loop)
    obtain ⟨o, h1, h2⟩ := St'.pinned I (List.mem_cons_self ..)
    exact ⟨o, h1, by simpa [cf, pnO] using h2⟩
  dsimp only
  rw [hC]
  exact start
end
end Fm
end Mine

/-! G1 -/
namespace Mine
open PySem PySem.Spec PyProof.Rows

section
variable {M : Model} {A : Around} {R : GenEnd} {Y : Protocol} {n : Nat} {s₀ : Shared} {c : Code} {fs : List Frame} {s : Shared} {env : Env}
  {K : Flow → Sem Fin} {H : Value → Sem Fin} {gd : Bool → Bool} {lv : List Value → List Value}

theorem seg_If {test : Expr} {body orelse : List Stmt} {pos : Pos}
    (h : wpAny M (A.over c fs) (isTrue test env (eval test env)) (fun b s' => Seg M A R Y n s₀ c ((execs (if b = true then body else orelse) env).wrap K H gd lv) fs s') (fun x s' => Seg M A R Y n s₀ c (H x) fs s') s) :
    Seg M A R Y n s₀ c ((exec (.If test body orelse pos) env).wrap K H gd lv) fs s := by
  rw [exec_If]
  show Seg M A R Y n s₀ c (.at pos fun _ => (isTrue test env (eval test env) >>= fun b => if b = true then execs body env else execs orelse env).wrap K H gd lv) fs s
  refine seg_at ?_
  rw [Sem.bind_eq_wrap', Sem.wrap_wrap]
  refine seg_wrap (wpAny_mono h (fun b s' h' => ?_) fun _ _ x => x)
  cases b <;> exact h'

theorem seg_stmt {st : Stmt} (h : wpAny M (A.over c fs) (exec st env) (fun f s' => Seg M A R Y n s₀ c (K f) fs s') (fun x s' => Seg M A R Y n s₀ c (H x) fs s') s) :
    Seg M A R Y n s₀ c ((exec st env).wrap K H gd lv) fs s := seg_wrap h

/-- what stands behind a loop that runs as a code of its own -/
abbrev behind (env : Env) (K : Flow → Sem Fin) (H : Value → Sem Fin) (gd : Bool → Bool) (lv : List Value → List Value) : Result → Sem Fin := fun r =>
  ((match r with | .ok f => (.pure f : Sem Flow) | .error e => .raise e).onRaise fun (x : Value) => do
        if (← field x 1) == Value.none then unsupported "frame.own-activation:exception-without-traceback"
        setFlight x env.frame).wrap K H gd lv

theorem seg_For {target iter : Expr} {body orelse : List Stmt} {pos : Pos} {E : Value → Shared → Prop}
    (h : wpAny M (A.over c fs) (eval iter env) (fun x s₁ => wpAny M (A.over c fs) (pyIter x) (fun it s₂ => ∀ p, Seg M A R Y n s₀ (.forLoop target it body orelse env) (M.den (.forLoop target it body orelse env))
      (.ret (behind env K H gd lv) none (gd false) (lv []) c p [] :: fs) s₂) (fun _ _ => False) s₁) (fun _ _ => False) s)
    (hs : ∀ x, foldedSetIterable iter env x = pure x := by intro _; rfl) :
    Seg M A R Y n s₀ c ((exec (.For target iter body orelse pos) env).wrap K H gd lv) fs s := by
  rw [exec_For]
  show Seg M A R Y n s₀ c (.at pos fun _ => (eval iter env >>= fun x => (foldedSetIterable iter env x >>= fun x => (standAt iter.pos >>= fun _ => (holding [x] (pyIter x) >>= fun it => runOwn (.forLoop target it body orelse env) env)))).wrap K H gd lv) fs s
  refine seg_at ?_
  rw [Sem.bind_eq_wrap', Sem.wrap_wrap]
  refine seg_wrap (wpAny_mono h (fun x s₁ h₁ => ?_) fun _ _ x => x.elim)
  rw [hs x]
  show Seg M A R Y n s₀ c (.at iter.pos fun _ => (holding [x] (pyIter x) >>= fun it => runOwn (.forLoop target it body orelse env) env).wrap K H gd lv) fs s₁
  refine seg_at ?_
  rw [Sem.bind_eq_wrap', Sem.wrap_wrap]
  refine seg_wrap (wpAny_holding (wpAny_mono h₁ (fun it s₂ h₂ => ?_) fun _ _ x => x.elim))
  exact seg_call h₂
end

section
variable {prog : Program} {w : World} {A : Around} {R : GenEnd} {Y : Protocol} {n : Nat} {s₀ : Shared} {fs : List Frame} {s : Shared} {env : Env}

theorem seg_block_nil (h : Seg (model prog w) A R Y n s₀ (.block [] env) (.pure (.done .next)) fs s) : Seg (model prog w) A R Y n s₀ (.block [] env) ((model prog w).den (.block [] env)) fs s := h

theorem seg_forLoop {target : Expr} {it : Value} {body : List Stmt}
    (h : wpAny (model prog w) (A.over (.forLoop target it body [] env) fs) (pyNext it) (fun r s₁ => match r with
      | none => Seg (model prog w) A R Y n s₀ (.block [] env) (.pure (.done .next)) fs s₁
      | some v => wpAny (model prog w) (A.over (.forLoop target it body [] env) fs) (letOwnedTupleGo target it v) (fun _ s₂ => wpAny (model prog w) (A.over (.forLoop target it body [] env) fs) (assign target env v) (fun _ s₃ =>
          Seg (model prog w) A R Y n s₀ (.forLoop target it body [] env) ((execs body env).wrap (fun f => match f with
            | .next | .cont => .pure (.again (.forLoop target it body [] env))
            | .brk => .pure (.done .next)
            | .ret v => .pure (.done (.ret v))) (fun e => (do noteFrame e env; theTreesLotGoes e : Sem Unit).wrap (fun _ => .raise e) .raise id id) id id) fs s₃) (fun _ _ => False) s₂) (fun _ _ => False) s₁) (fun _ _ => False) s) :
    Seg (model prog w) A R Y n s₀ (.forLoop target it body [] env) ((model prog w).den (.forLoop target it body [] env)) fs s := by
  show Seg _ A R Y n s₀ _ ((forTurn target it body [] env).onRaise (fun x => do noteFrame x env; theTreesLotGoes x)) fs s
  rw [Sem.onRaise_eq_wrap]
  unfold forTurn
  rw [Sem.bind_eq_wrap', Sem.wrap_wrap]
  refine seg_wrap (wpAny_standAt ?_)
  rw [Sem.bind_eq_wrap', Sem.wrap_wrap]
  refine seg_wrap (wpAny_onRaise (wpAny_mono h (fun r s₁ h₁ => ?_) fun _ _ x => x.elim))
  cases r with
  | none => exact seg_again rfl (seg_block_nil h₁)
  | some v =>
    dsimp only
    rw [Sem.bind_eq_wrap', Sem.wrap_wrap]
    refine seg_wrap (wpAny_mono h₁ (fun _ s₂ h₂ => ?_) fun _ _ x => x.elim)
    rw [Sem.bind_eq_wrap', Sem.wrap_wrap]
    refine seg_wrap (wpAny_mono h₂ (fun _ s₃ h₃ => ?_) fun _ _ x => x.elim)
    rw [Sem.bind_eq_wrap', Sem.wrap_wrap]
    rw [Sem.wrap_congr (execs body env) _ _ (K' := fun f => match f with
            | .next | .cont => .pure (.again (.forLoop target it body [] env))
            | .brk => .pure (.done .next)
            | .ret v => .pure (.done (.ret v))) (H' := (fun e => (do noteFrame e env; theTreesLotGoes e : Sem Unit).wrap (fun _ => .raise e) .raise id id))
        (fun f => by cases f <;> rfl) (fun e => by first | exact Sem.bind_eq_wrap _ _ | (show (do noteFrame e env; theTreesLotGoes e : Sem Unit).bind (fun _ => .raise e) = _; rw [Sem.bind_eq_wrap]))]
    exact h₃
end
end Mine

/-! G2 -/
namespace Mine
open PySem PySem.Spec PyProof.Rows

def bsl : Str := "\\"
def escGo : List Nat → Nat → Bool → List (Nat × Str)
  | [], p, e => if e then [(p - 1, bsl)] else []
  | c :: r, p, true => (p, bsl ++ chr c) :: escGo r (p + 1) false
  | c :: r, p, false => if chr c == bsl then escGo r (p + 1) true else (p, chr c) :: escGo r (p + 1) false
def escItems (x : Str) : List (Nat × Str) := escGo x.cps.toList 0 false
abbrev itemD (q : Nat × Str) : PyData := .tuple [.int q.1, .str q.2]

/-- a generator's frame, over a ghost of the state that its segment began with -/
def gf (w : World) (mg mb : Str → Option Value) (A' : Around) (env : Env) (Z : List Addr) (pn : Addr → Pn) (s0 : Shared) : Fm :=
  { w, mg, mb, n := 0, A := A', env, Y := [env.locals], Z, pn, gh := gpTrue, Xo := [], s0 }

def ghostS (s : Shared) (priv : List Addr) : Shared := { s with heap := W.hideAll s.heap priv }

def flatTy (T : Ty) : Prop := ∀ V V' v, T.P V v → T.P V' v
theorem flat_str (x : Str) : flatTy (tS x) := fun V V' v h => by obtain ⟨t, rfl⟩ := Rd.str_inv h; exact .str _ _
theorem flat_int (x : Int) : flatTy (tI x) := fun V V' v h => by obtain ⟨t, rfl⟩ := Rd.int_inv h; exact .int _ _
theorem flat_bool (x : Bool) : flatTy (tB x) := fun V V' v h => by obtain rfl := Rd.bool_inv h; exact .bool _

variable {w : World} {mg mb : Str → Option Value} {A' A'' : Around} {env : Env} {Z : List Addr} {pn : Addr → Pn} {s0 s s'' : Shared} {ρ : List (Str × Ty)}

theorem gf_reA (S : (gf w mg mb A' env Z pn s0).St ρ s) (hr : Room 0 A'') : (gf w mg mb A'' env Z pn s0).St ρ s :=
  ⟨S.base, S.fresh, S.dom, S.domX, S.gl, hr, S.tok, S.kind, S.glob, S.bns, S.loc, S.ns, S.cells, S.apart, S.cellsIn, S.pinNew, S.pinned, S.ghost, S.names⟩

/-- the frame at a resumption -/
theorem gf_resume (S : (gf w mg mb A' env Z pn s0).St ρ s) (hp : ∀ a ∈ Z, ∃ o₀, pn a = pnIs o₀) (hc : env.cells = []) (hρ : ∀ x T, ρ.lookup x = some T → flatTy T) (hsame : ∀ b ∈ env.locals :: Z, s''.heap.get? b = s.heap.get? b)
    (G : Gl mg mb (ghostS s'' (env.locals :: Z)).heap) (ht : 0 < s''.toks) : (gf w mg mb A' env Z pn (ghostS s'' (env.locals :: Z))).St ρ s'' := by
  have hin : ∀ b, b ∈ env.locals :: Z → (ghostS s'' (env.locals :: Z)).heap.get? b = none := fun b hb => W.hideAll_none _ hb
  have at' : ∀ b ∈ env.locals :: Z, ∀ o, s.heap.get? b = some o → s''.heap.get? b = some o := fun b hb o h => (hsame b hb).trans h
  obtain ⟨m, hm⟩ := S.ns
  have hm' : s''.heap.Ns env.locals m := hm.at fun o h => at' _ (List.mem_cons_self ..) o h
  refine ⟨⟨fun b o _ h => W.of_hideAll _ h, fun b o h => ⟨o, W.of_hideAll _ h⟩, rfl, .refl _, Nat.le_refl _⟩, fun y hy => ?_, fun y hy => ?_, (fun _ h => nomatch h), G, S.room, ht, S.kind, S.glob, S.bns, S.loc, ⟨m, hm'⟩, fun x c h => ?_, ?_, fun x c h => ?_, fun a ha => ⟨(S.pinNew a ha).1, hin a (List.mem_cons_of_mem _ ha)⟩, fun a ha => ?_, trivial, fun x T hx => ?_⟩
  · have : y = env.locals := by simpa [gf] using hy
    subst this; exact hin _ (List.mem_cons_self ..)
  · have : y = env.locals := by simpa [gf] using hy
    subst this; obtain ⟨o, _, _, ho, _⟩ := hm'; exact ⟨o, ho⟩
  · have h : env.cells.lookup x = some c := h
    rw [hc] at h; exact nomatch h
  · show env.cells.Pairwise _; rw [hc]; exact .nil
  · have h : env.cells.lookup x = some c := h
    rw [hc] at h; exact nomatch h
  · obtain ⟨o, ho, hP⟩ := S.pinned a ha
    obtain ⟨o₀, e⟩ := hp a ha
    refine ⟨o, at' a (List.mem_cons_of_mem _ ha) o ho, ?_⟩
    have hP : (pn a).P _ o := hP
    show (pn a).P _ o
    rw [e] at hP ⊢; exact hP
  · obtain ⟨v, h1, h2⟩ := S.names x T hx
    refine ⟨v, hρ x T hx _ _ _ h1, ?_⟩
    rcases h2 with ⟨a, m', b, c⟩ | ⟨a, c, b, d⟩
    · exact .inl ⟨a, m, hm', by rw [hm.agree b x]; exact c⟩
    · have b : env.cells.lookup x = some c := b
      rw [hc] at b; exact nomatch b
end Mine

/-! G3 -/
namespace Mine
open PySem PySem.Spec PyProof.Rows

def gDef : Str × Arguments × List Stmt × Scope := (theDefs[3]?).getD ("", ⟨[], [], none, [], [], none, []⟩, [], ⟨.function, [], false, false, []⟩)
def gBody : List Stmt := gDef.2.2.1
def gScope : Scope := gDef.2.2.2
def gLoop : List Stmt := match gBody with | [_, _, .For _ _ b _ _, _] => b | _ => []
def gTarget : Expr := match gBody with | [_, _, .For t _ _ _ _, _] => t | _ => .Name "" default
def gIter : Expr := match gBody with | [_, _, .For _ e _ _ _, _] => e | _ => .Name "" default
def gEnd : List Stmt := match gBody with | [_, _, _, e] => [e] | _ => []
abbrev gEnv (L a : Addr) (cd : Value) : Env := envOf "_iter_escaped_chars" gScope L a cd

structure Kept (priv : List Addr) (s s' : Shared) : Prop where
  keep : ∀ b o, b ∉ priv → s.heap.get? b = some o → s'.heap.get? b = some o
  os : s'.os = s.os
  gens : GExt s.gens s'.gens
  toks : s.toks ≤ s'.toks
def genR (priv : List Addr) : Nat → Shared → Shared → Prop := fun n s₀ s' => n = 0 ∧ Kept priv s₀ s'
def genY (mg mb : Str → Option Value) (priv : List Addr) (items : List (Nat × Str)) : Protocol := fun m s₀ v s' κ =>
  Kept priv s₀ s' ∧ (∃ pre q rem, items = pre ++ q :: rem ∧ rem.length = m ∧ Rd (cut (vw s') priv) v (itemD q)) ∧ (∀ b ∈ priv, ∃ o, s'.heap.get? b = some o) ∧ ∀ s'', (∀ b ∈ priv, s''.heap.get? b = s'.heap.get? b) → Gl mg mb (ghostS s'' priv).heap → 0 < s''.toks → κ (.send .none) s''

abbrev gEndR (priv : List Addr) : GenEnd := fun n s₀ r s₁ => r = .ok (.ret .none) ∧ genR priv n s₀ s₁
abbrev gK0 : Flow → Sem Fin := fun f => .pure (.done (.ret (match f with | .ret v => v | _ => .none)))
abbrev gH0 (env : Env) : Value → Sem Fin := fun e => (leaving env e).wrap (fun _ => .raise e) .raise id id
abbrev gK1 (env : Env) : Flow → Sem Fin := fun f => match f with | .next => (execs gEnd env).wrap gK0 (gH0 env) id id | f => gK0 f
abbrev gFs (env : Env) (p : Pos) : List Frame := [.ret (behind env (gK1 env) (gH0 env) id id) none (id false) (id []) (.func gBody env) p []]
abbrev gK2 (env : Env) (En : Addr) : Flow → Sem Fin := fun f => match f with
            | .next | .cont => .pure (.again (.forLoop gTarget (.ref En) gLoop [] env))
            | .brk => .pure (.done .next)
            | .ret v => .pure (.done (.ret v))
abbrev gH2 (env : Env) : Value → Sem Fin := fun e => (do noteFrame e env; theTreesLotGoes e : Sem Unit).wrap (fun _ => .raise e) .raise id id

/-- the generator's own objects hold still while others run -/
structure Gp3 (s₀ s0 : Shared) (priv : List Addr) : Prop where
  keep : ∀ b o, b ∉ priv → s₀.heap.get? b = some o → s0.heap.get? b = some o
  os : s0.os = s₀.os
  gens : s0.gens = s₀.gens
  toks : s₀.toks ≤ s0.toks
theorem kept_of {w : World} {mg mb : Str → Option Value} {A' : Around} {env : Env} {Z : List Addr} {pn : Addr → Pn} {s0 s s₀ : Shared} {ρ : List (Str × Ty)} (S : (gf w mg mb A' env Z pn s0).St ρ s) (g : Gp3 s₀ s0 (env.locals :: Z)) : Kept (env.locals :: Z) s₀ s :=
  ⟨fun b o hb h => S.base.all b o (g.keep b o hb h), S.base.os.trans g.os, by rw [← g.gens]; exact S.base.gens, Nat.le_trans g.toks S.base.toks⟩

theorem there_of {w : World} {mg mb : Str → Option Value} {A' : Around} {env : Env} {Z : List Addr} {pn : Addr → Pn} {s0 s : Shared} {ρ : List (Str × Ty)} (S : (gf w mg mb A' env Z pn s0).St ρ s) : ∀ b ∈ env.locals :: Z, ∃ o, s.heap.get? b = some o := fun b hb => by
  rcases List.mem_cons.mp hb with q | q
  · subst q; obtain ⟨m, o, _, _, ho, _⟩ := S.ns; exact ⟨o, ho⟩
  · obtain ⟨o, ho, _⟩ := S.pinned b q; exact ⟨o, ho⟩

theorem room_over {A : Around} {L a : Addr} {cd : Value} {p : Pos} {En : Addr} (hr : Room 1 A) : Room 0 (A.over (.forLoop gTarget (.ref En) gLoop [] (gEnv L a cd)) (gFs (gEnv L a cd) p)) := by
  obtain ⟨a, b, c⟩ := hr
  refine ⟨a, ?_, ?_⟩
  · show A.depth + 1 + 0 + 0 < _
    omega
  · show A.units + 3 + 0 + 20 * 0 + 200 < _
    omega
theorem room_func {A : Around} {L a : Addr} {cd : Value} (hr : Room 1 A) : Room 0 (A.over (.func gBody (gEnv L a cd)) []) := by
  obtain ⟨a, b, c⟩ := hr
  refine ⟨a, ?_, ?_⟩
  · show A.depth + 0 + 1 + 0 < _
    omega
  · show A.units + 0 + 3 + 20 * 0 + 200 < _
    omega
end Mine

/-! G4 -/
namespace Mine
open PySem PySem.Spec PyProof.Rows

def pn2 (En : Addr) (oE oI : Obj) : Addr → Pn := fun b => if b = En then pnIs oE else pnIs oI
def escEnd : List Nat → Bool → Bool
  | [], e => e
  | c :: r, true => escEnd r false
  | c :: r, false => escEnd r (chr c == bsl)

theorem esc_tail {w : World} {mg mb : Str → Option Value} {A : Around} {L a En It : Addr} {cd : Value} {items : List (Nat × Str)} {x : Str} {pn : Addr → Pn} {s s₀ s0 : Shared} {ρ : List (Str × Ty)} (hρ : ρ.lookup (Str.ofString "escape") = some (tB false))
    (S : (gf w mg mb (A.over (.func gBody (gEnv L a cd)) []) (gEnv L a cd) [] pn s0).St ρ s) (hk : Kept [L, En, It] s₀ s) :
    Seg (model PP w) A (gEndR [L, En, It]) (genY mg mb [L, En, It] items) 0 s₀ (.func gBody (gEnv L a cd)) ((execs gEnd (gEnv L a cd)).wrap gK0 (gH0 (gEnv L a cd)) id id) [] s := by
  refine seg_execs_cons (seg_If ((Fm.Ts.ev (Fm.Ev.name hρ) : Fm.Ts (gf w mg mb (A.over (.func gBody (gEnv L a cd)) []) (gEnv L a cd) [] pn s0) ρ _ false) s S _ _ fun s' e' S' => ?_))
  refine seg_execs_nil ?_
  refine seg_execs_nil ?_
  refine seg_end (.ok (.ret .none)) ⟨rfl, rfl, ?_⟩
  exact ⟨fun b o hb h => e'.all b o (hk.keep b o hb h), e'.os.trans hk.os, hk.gens.trans e'.gens, Nat.le_trans hk.toks e'.toks⟩
end Mine

/-! G5 -/
namespace Mine
open PySem PySem.Spec PyProof.Rows

section
variable {w : World} {mg mb : Str → Option Value} {A' A'' : Around} {env : Env} {pn : Addr → Pn} {s0 s s' : Shared} {ρ : List (Str × Ty)} {En It : Addr}

theorem gf_drop (S : (gf w mg mb A' env [En, It] pn s0).St ρ s) (hr : Room 0 A'') (hc : env.cells = []) (hk : ∀ b o, b ∉ [En, It] → s.heap.get? b = some o → s'.heap.get? b = some o) (hos : s'.os = s.os) (hg : GExt s.gens s'.gens) (ht : s.toks ≤ s'.toks) :
    (gf w mg mb A'' env [] pn s0).St ρ s' := by
  have n0 : ∀ b ∈ [En, It], s0.heap.get? b = none ∧ b ≠ env.locals := fun b hb => ⟨(S.pinNew b hb).2, fun q => (S.pinNew b hb).1 (by rw [q]; exact S.loc)⟩
  have hL : env.locals ∉ [En, It] := fun q => (n0 _ q).2 rfl
  have b0 : ∀ b o, s0.heap.get? b = some o → s'.heap.get? b = some o := fun b o h => hk b o (fun q => by rw [(n0 b q).1] at h; cases h) (S.base.all b o h)
  obtain ⟨m, hm⟩ := S.ns
  have hm' : s'.heap.Ns env.locals m := hm.at fun o h => hk _ o hL h
  refine ⟨⟨fun b o _ h => b0 b o h, fun b o h => ⟨o, b0 b o h⟩, hos.trans S.base.os, S.base.gens.trans hg, Nat.le_trans S.base.toks ht⟩, S.fresh, fun y hy => ?_, (fun _ h => nomatch h), S.gl, hr, S.tok, S.kind, S.glob, S.bns, S.loc, ⟨m, hm'⟩, fun x c h => ?_, S.apart, fun x c h => ?_, (fun _ h => nomatch h), (fun _ h => nomatch h), trivial, fun x T hx => ?_⟩
  · have : y = env.locals := by simpa [gf] using hy
    subst this; obtain ⟨o, _, _, ho, _⟩ := hm'; exact ⟨o, ho⟩
  · have h : env.cells.lookup x = some c := h
    rw [hc] at h; exact nomatch h
  · have h : env.cells.lookup x = some c := h
    rw [hc] at h; exact nomatch h
  · obtain ⟨v, h1, h2⟩ := S.names x T hx
    refine ⟨v, T.mono _ _ _ (fun b o h => ?_) h1, ?_⟩
    · have hb := cut_of h
      refine cut_mk (fun q => hb.1 ?_) (hk b o (fun q => hb.1 ?_) hb.2)
      · have q : b ∈ [env.locals] := by simpa [gf] using q
        show b ∈ [env.locals] ++ ([En, It] ++ [])
        exact List.mem_append_left _ q
      · show b ∈ [env.locals] ++ ([En, It] ++ [])
        exact List.mem_append_right _ (List.mem_append_left _ q)
    · rcases h2 with ⟨a, m', b, c⟩ | ⟨a, c, b, d⟩
      · exact .inl ⟨a, m, hm', by rw [hm.agree b x]; exact c⟩
      · have b : env.cells.lookup x = some c := b
        rw [hc] at b; exact nomatch b

theorem gf_turn {oE oI : Obj} (S : (gf w mg mb A' env [En, It] pn s0).St ρ s) (hc : env.cells = []) (hEI : En ≠ It) (hk : ∀ b o, b ∉ [En, It] → s.heap.get? b = some o → s'.heap.get? b = some o) (hE : s'.heap.get? En = some oE) (hI : s'.heap.get? It = some oI) (hos : s'.os = s.os) (hg : GExt s.gens s'.gens) (ht : s.toks ≤ s'.toks) :
    (gf w mg mb A' env [En, It] (pn2 En oE oI) s0).St ρ s' := by
  have n0 : ∀ b ∈ [En, It], s0.heap.get? b = none ∧ b ≠ env.locals := fun b hb => ⟨(S.pinNew b hb).2, fun q => (S.pinNew b hb).1 (by rw [q]; exact S.loc)⟩
  have hL : env.locals ∉ [En, It] := fun q => (n0 _ q).2 rfl
  have b0 : ∀ b o, s0.heap.get? b = some o → s'.heap.get? b = some o := fun b o h => hk b o (fun q => by rw [(n0 b q).1] at h; cases h) (S.base.all b o h)
  obtain ⟨m, hm⟩ := S.ns
  have hm' : s'.heap.Ns env.locals m := hm.at fun o h => hk _ o hL h
  refine ⟨⟨fun b o _ h => b0 b o h, fun b o h => ⟨o, b0 b o h⟩, hos.trans S.base.os, S.base.gens.trans hg, Nat.le_trans S.base.toks ht⟩, S.fresh, fun y hy => ?_, (fun _ h => nomatch h), S.gl, S.room, S.tok, S.kind, S.glob, S.bns, S.loc, ⟨m, hm'⟩, fun x c h => ?_, S.apart, fun x c h => ?_, S.pinNew, fun b hb => ?_, trivial, fun x T hx => ?_⟩
  · have : y = env.locals := by simpa [gf] using hy
    subst this; obtain ⟨o, _, _, ho, _⟩ := hm'; exact ⟨o, ho⟩
  · have h : env.cells.lookup x = some c := h
    rw [hc] at h; exact nomatch h
  · have h : env.cells.lookup x = some c := h
    rw [hc] at h; exact nomatch h
  · have hb : b ∈ [En, It] := hb
    by_cases hbE : b = En
    · subst hbE; exact ⟨oE, hE, by show (pn2 b oE oI b).P _ _; unfold pn2; rw [if_pos rfl]; rfl⟩
    · have : b = It := by simpa [hbE] using hb
      subst this; exact ⟨oI, hI, by show (pn2 En oE oI b).P _ _; unfold pn2; rw [if_neg hbE]; rfl⟩
  · obtain ⟨v, h1, h2⟩ := S.names x T hx
    refine ⟨v, T.mono _ _ _ (fun b o h => ?_) h1, ?_⟩
    · have hb := cut_of h
      exact cut_mk hb.1 (hk b o (fun q => hb.1 (List.mem_append_right _ (List.mem_append_left _ q))) hb.2)
    · rcases h2 with ⟨a, m', b, c⟩ | ⟨a, c, b, d⟩
      · exact .inl ⟨a, m, hm', by rw [hm.agree b x]; exact c⟩
      · have b : env.cells.lookup x = some c := b
        rw [hc] at b; exact nomatch b
end
end Mine

/-! G6 -/
namespace Mine
open PySem PySem.Spec PyProof.Rows

/-- the walk of enumerate over a text -/
def StE (x : Str) (ty : String) (t : Tok) (En It : Addr) (i : Nat) (h : Heap) : Prop := (∃ old, IsEnum h En It i old) ∧ h.IsStrIter It ty x t i
def MidE (x : Str) (ty : String) (t : Tok) (En It : Addr) (i : Nat) (T : Addr) (h : Heap) : Prop := (∃ y, IsEnumOut h En It ((i : Int) + 1) y T) ∧ h.IsStrIter It ty x t (i + 1) ∧ T ≠ En ∧ T ≠ It
theorem walkE {w : World} {A : Around} (hh : A.handled = none) {x : Str} {t : Tok} {En It : Addr} (hEI : En ≠ It) :
    WalksT PP w A En (En :: [It]) [En, It] x.cps.size (fun i vals => ∃ u v, (∃ c z, x.cps[i]? = some c ∧ v = .str ⟨#[c]⟩ z) ∧ vals = #[.int i u, v]) (StE x (strIterType x) t En It) (MidE x (strIterType x) t En It) := by
  unfold strIterType StE MidE
  split
  · exact WalksT.enumerateD (Draws.strAscii (A := A.in1) hh It x t) En hEI (by simpa using hEI) (by simp)
  · exact WalksT.enumerateD (Draws.strWide (A := A.in1) hh It x t) En hEI (by simpa using hEI) (by simp)

theorem drop_cons {x : Str} {i : Nat} (h : i < x.length) : x.cps.toList.drop i = x.cps.toList.getD i 0 :: x.cps.toList.drop (i + 1) := by
  have h' : i < x.cps.toList.length := by simpa [Str.length] using h
  rw [List.drop_eq_getElem_cons h', List.getD_eq_getElem?_getD, List.getElem?_eq_getElem h']; rfl

theorem pins_of {w : World} {mg mb : Str → Option Value} {A' : Around} {env : Env} {s0 s : Shared} {ρ : List (Str × Ty)} {En It : Addr} {oE oI : Obj} (S : (gf w mg mb A' env [En, It] (pn2 En oE oI) s0).St ρ s) (hEI : En ≠ It) : s.heap.get? En = some oE ∧ s.heap.get? It = some oI := by
  obtain ⟨o, h1, h2⟩ := S.pinned En (by simp [gf])
  obtain ⟨o', h3, h4⟩ := S.pinned It (by simp [gf])
  have h2 : (pn2 En oE oI En).P _ o := h2
  have h4 : (pn2 En oE oI It).P _ o' := h4
  unfold pn2 at h2 h4
  rw [if_pos rfl] at h2
  rw [if_neg (Ne.symm hEI)] at h4
  have h2 : o = oE := h2
  have h4 : o' = oI := h4
  exact ⟨h2 ▸ h1, h4 ▸ h3⟩

theorem flat3 {b : Bool} {n : Int} {x : Str} : ∀ (y : Str) (T : Ty), ([("escape", tB b), ("pos", tI n), ("addr", tS x)] : List (Str × Ty)).lookup y = some T → flatTy T := by
  intro y T h
  have := PySem.mem_of_lookup h
  rcases List.mem_cons.mp this with q | q
  · cases q; exact flat_bool _
  · rcases List.mem_cons.mp q with q | q
    · cases q; exact flat_int _
    · rcases List.mem_cons.mp q with q | q
      · cases q; exact flat_str _
      · exact nomatch q

theorem esc_loop {w : World} {mg mb : Str → Option Value} {A : Around} {L a En It : Addr} {cd : Value} {items : List (Nat × Str)} {x : Str} {t : Tok} {p : Pos} (hx : x.length ≤ 1000000) (hr : Room 1 A) (hEI : En ≠ It) : ∀ (k i : Nat) (e : Bool) (pp : Int) (s s0 s₀ : Shared) (oE oI : Obj) (pre : List (Nat × Str)), x.length - i = k → i ≤ x.length → escEnd (x.cps.toList.drop i) e = false →
    (∀ h : Heap, h.get? En = some oE → h.get? It = some oI → StE x (strIterType x) t En It i h) →
    (gf w mg mb (A.over (.forLoop gTarget (.ref En) gLoop [] (gEnv L a cd)) (gFs (gEnv L a cd) p)) (gEnv L a cd) [En, It] (pn2 En oE oI) s0).St [("escape", tB e), ("pos", tI pp), ("addr", tS x)] s → Gp3 s₀ s0 [L, En, It] →
    items = pre ++ escGo (x.cps.toList.drop i) i e →
    Seg (model PP w) A (gEndR [L, En, It]) (genY mg mb [L, En, It] items) (escGo (x.cps.toList.drop i) i e).length s₀ (.forLoop gTarget (.ref En) gLoop [] (gEnv L a cd)) ((model PP w).den (.forLoop gTarget (.ref En) gLoop [] (gEnv L a cd))) (gFs (gEnv L a cd) p) s := by
  intro k
  induction k with
  | zero =>
    intro i e pp s s0 s₀ oE oI pre hk hi hend hC S g hitems
    have hie : i = x.length := by omega
    have hd : x.cps.toList.drop i = [] := List.drop_eq_nil_of_le (by rw [hie]; simp [Str.length])
    rw [hd] at hend hitems ⊢
    have he : e = false := hend
    subst he
    have hr0 := room_over (p := p) (L := L) (a := a) (cd := cd) (En := En) hr
    obtain ⟨q1, q2⟩ := pins_of S hEI
    refine seg_forLoop (Fm.wp_toks ((walkE (w := w) (x := x) (t := t) hr0.1 hEI).done s _ _ (by have := hC _ q1 q2; rw [hie] at this; exact this) fun h' tk hkeep htk => ?_))
    refine seg_leaf (.ok .next) ?_
    have S' := gf_drop (s' := { s with heap := h', toks := tk }) S (room_func (L := L) (a := a) (cd := cd) hr) rfl hkeep rfl (.refl _) htk
    have hk' := kept_of S g
    exact esc_tail (x := x) rfl S' ⟨fun b o hb h => hkeep b o (fun q => hb (List.mem_cons_of_mem _ q)) (hk'.keep b o hb h), hk'.os, hk'.gens, Nat.le_trans hk'.toks htk⟩
  | succ k ih =>
    intro i e pp s s0 s₀ oE oI pre hk hi hend hC S g hitems
    have hlt : i < x.length := by omega
    have hr0 := room_over (p := p) (L := L) (a := a) (cd := cd) (En := En) hr
    obtain ⟨q1, q2⟩ := pins_of S hEI
    have W := walkE (w := w) (x := x) (t := t) hr0.1 hEI
    rw [drop_cons hlt] at hend hitems ⊢
    generalize hc : x.cps.toList.getD i 0 = c at *
    refine seg_forLoop (Fm.wp_toks (W.item i s _ _ hlt (hC _ q1 q2) fun T vals h₁ tk hPt hTsz hIsT hMid hkeep htk => ?_))
    refine W.go _ _ _ i T _ _ _ hMid fun h₂ st₂ keep₂ => ?_
    have st₂' := st₂
    obtain ⟨⟨old, hEn0⟩, oI', hIt, hIr⟩ := st₂'
    obtain ⟨oE', hEn⟩ : ∃ oE', h₂.get? En = some oE' := ⟨_, hEn0⟩
    have S₂ := gf_turn (s' := { s with heap := h₂, toks := tk }) S rfl hEI (fun b o hb h => keep₂ b o hb (hkeep b o hb h)) hEn hIt rfl (.refl _) htk
    have hC' : ∀ h : Heap, h.get? En = some oE' → h.get? It = some oI' → StE x (strIterType x) t En It (i + 1) h := fun h h1 h2 => W.frame (i + 1) h₂ h st₂ fun b hb o ho => by
      rcases List.mem_cons.mp hb with q | q
      · subst q; rw [hEn] at ho; rw [← ho]; exact h1
      · have : b = It := by simpa using q
        subst this; rw [hIt] at ho; rw [← ho]; exact h2
    obtain ⟨u, v, ⟨c', z, hc', rfl⟩, rfl⟩ := hPt
    have hcc : c' = c := by
      rw [List.getD_eq_getElem?_getD, Array.getElem?_toList, hc'] at hc; exact hc
    subst hcc
    have hT₂ : h₂.IsTuple T #[.int i u, .str ⟨#[c']⟩ z] := by
      obtain ⟨o, ho, r⟩ := hIsT
      exact ⟨o, keep₂ T o (W.apart i T h₁ hMid) ho, r⟩
    refine assign_Tuple_tuple hr0.1 hT₂ rfl rfl fun h₃ he₃ => ?_
    have ex := Fm.ext_extBut (s := { s with heap := h₂, toks := tk }) he₃
    refine Fm.wp_stores (F := gf w mg mb (A.over (.forLoop gTarget (.ref En) gLoop [] (gEnv L a cd)) (gFs (gEnv L a cd) p)) (gEnv L a cd) [En, It] _ s0) [("pos", _), ("ch", _)] (ds := [.int i, .str (chr c')]) (S₂.ext ex) rfl (.cons (.int _ _) (.cons (.str _ _) .nil)) (fun y hy => by
      rcases List.mem_cons.mp hy with q | q
      · subst q; rfl
      · rcases List.mem_cons.mp q with q | q
        · subst q; rfl
        · exact nomatch q) fun s₄ S₄ => ?_
    have hes : ∀ e' : Bool, escGo (c' :: x.cps.toList.drop (i + 1)) i e' = if e' then (i, bsl ++ chr c') :: escGo (x.cps.toList.drop (i + 1)) (i + 1) false else if chr c' == bsl then escGo (x.cps.toList.drop (i + 1)) (i + 1) true else (i, chr c') :: escGo (x.cps.toList.drop (i + 1)) (i + 1) false := fun e' => by cases e' <;> rfl
    have hsz1 : (Str.ofString "\\").length + (chr c').length ≤ sizeLine := by rw [sizeLine_eq]; show 1 + 1 ≤ _; omega
    -- going on behind a yield
    have more : ∀ (e' : Bool) (s₅ s'' : Shared) (ρ : List (Str × Ty)), (∀ y T, ρ.lookup y = some T → flatTy T) → (gf w mg mb (A.over (.forLoop gTarget (.ref En) gLoop [] (gEnv L a cd)) (gFs (gEnv L a cd) p)) (gEnv L a cd) [En, It] (pn2 En oE' oI') s0).St ρ s₅ →
        (∀ b ∈ [L, En, It], s''.heap.get? b = s₅.heap.get? b) → Gl mg mb (ghostS s'' [L, En, It]).heap → 0 < s''.toks →
        (gf w mg mb (A.over (.forLoop gTarget (.ref En) gLoop [] (gEnv L a cd)) (gFs (gEnv L a cd) p)) (gEnv L a cd) [En, It] (pn2 En oE' oI') (ghostS s'' [L, En, It])).St ρ s'' := fun e' s₅ s'' ρ hρ S₅ h1 h2 h3 =>
      gf_resume S₅ (fun b hb => by unfold pn2; split <;> exact ⟨_, rfl⟩) rfl hρ h1 h2 h3
    have gp : ∀ s'' : Shared, Gp3 s'' (ghostS s'' [L, En, It]) [L, En, It] := fun s'' => ⟨fun b o hb h => PySem.W.hideAll_get _ h hb, rfl, rfl, Nat.le_refl _⟩
    refine seg_execs_cons (seg_If ((Fm.Ts.ev (Fm.Ev.name rfl) : Fm.Ts (gf w mg mb (A.over (.forLoop gTarget (.ref En) gLoop [] (gEnv L a cd)) (gFs (gEnv L a cd) p)) (gEnv L a cd) [En, It] _ s0) _ _ e) s₄ S₄ _ _ fun s₅ e₅ S₅ => ?_))
    cases e with
    | true =>
      rw [hes] at hitems ⊢
      simp only [if_true] at hitems ⊢
      refine seg_execs_cons (seg_Expr_Yield rfl rfl rfl ((Fm.Ev.tuple (ds := [.int i, .str (bsl ++ chr c')]) (.cons (Fm.Ev.name rfl) (.cons (Fm.Ev.add_str .str (Fm.Ev.name rfl) hsz1) .nil)) : Fm.Ev (gf w mg mb (A.over (.forLoop gTarget (.ref En) gLoop [] (gEnv L a cd)) (gFs (gEnv L a cd) p)) (gEnv L a cd) [En, It] _ s0) _ _ _) s₅ S₅ _ _ fun v s₆ e₆ S₆ hv κ hκ => ⟨kept_of S₆ g, ⟨pre, _, _, hitems, rfl, hv⟩, there_of S₆, fun s'' h1 h2 h3 => hκ .none s'' ?_⟩))
      have S₇ := more false s₆ s'' [("escape", tB true), ("pos", tI i), ("addr", tS x)] flat3 (S₆.weaken (sub_cons rfl (sub_cons rfl (sub_cons rfl sub_nil)))) h1 h2 h3
      refine seg_execs_cons (seg_stmt (wpAny_Assign_Name ((Fm.Ev.bool : Fm.Ev (gf w mg mb (A.over (.forLoop gTarget (.ref En) gLoop [] (gEnv L a cd)) (gFs (gEnv L a cd) p)) (gEnv L a cd) [En, It] _ _) _ _ _) s'' S₇ _ _ fun v s₈ e₈ S₈ hv => Fm.wp_store S₈ hv rfl fun s₉ S₉ e₉ => ?_) rfl))
      refine seg_execs_nil (seg_execs_nil (seg_again rfl (ih (i + 1) false i s₉ _ s'' oE' oI' (pre ++ [(i, bsl ++ chr c')]) (by omega) hlt hend hC' (S₉.weaken (sub_cons rfl (sub_cons rfl (sub_cons rfl sub_nil)))) (gp s'') (by rw [hitems]; simp))))
    | false =>
      rw [hes] at hitems ⊢
      simp only [Bool.false_eq_true, if_false] at hitems ⊢
      refine seg_execs_cons (seg_If ((Fm.Ts.cmp (Fm.Ev.name rfl) .str Fm.Cm.eq_str : Fm.Ts (gf w mg mb (A.over (.forLoop gTarget (.ref En) gLoop [] (gEnv L a cd)) (gFs (gEnv L a cd) p)) (gEnv L a cd) [En, It] _ s0) _ _ (chr c' == bsl)) s₅ S₅ _ _ fun s₆ e₆ S₆ => ?_))
      have hend' : escEnd (x.cps.toList.drop (i + 1)) (chr c' == bsl) = false := hend
      cases hb : chr c' == bsl with
      | true =>
        rw [hb] at hend'
        simp only [hb, if_true] at hitems ⊢
        refine seg_execs_cons (seg_stmt (wpAny_Assign_Name ((Fm.Ev.bool : Fm.Ev (gf w mg mb (A.over (.forLoop gTarget (.ref En) gLoop [] (gEnv L a cd)) (gFs (gEnv L a cd) p)) (gEnv L a cd) [En, It] _ s0) _ _ _) s₆ S₆ _ _ fun v s₈ e₈ S₈ hv => Fm.wp_store S₈ hv rfl fun s₉ S₉ e₉ => ?_) rfl))
        exact seg_execs_nil (seg_execs_nil (seg_execs_nil (seg_again rfl (ih (i + 1) true i s₉ s0 s₀ oE' oI' pre (by omega) hlt hend' hC' (S₉.weaken (sub_cons rfl (sub_cons rfl (sub_cons rfl sub_nil)))) g hitems))))
      | false =>
        rw [hb] at hend'
        simp only [hb, Bool.false_eq_true, if_false] at hitems ⊢
        refine seg_execs_cons (seg_Expr_Yield rfl rfl rfl ((Fm.Ev.tuple (ds := [.int i, .str (chr c')]) (.cons (Fm.Ev.name rfl) (.cons (Fm.Ev.name rfl) .nil)) : Fm.Ev (gf w mg mb (A.over (.forLoop gTarget (.ref En) gLoop [] (gEnv L a cd)) (gFs (gEnv L a cd) p)) (gEnv L a cd) [En, It] _ s0) _ _ _) s₆ S₆ _ _ fun v s₇ e₇ S₇ hv κ hκ => ⟨kept_of S₇ g, ⟨pre, _, _, hitems, rfl, hv⟩, there_of S₇, fun s'' h1 h2 h3 => hκ .none s'' ?_⟩))
        have S₈ := more false s₇ s'' [("escape", tB false), ("pos", tI i), ("addr", tS x)] flat3 (S₇.weaken (sub_cons rfl (sub_cons rfl (sub_cons rfl sub_nil)))) h1 h2 h3
        exact seg_execs_nil (seg_execs_nil (seg_execs_nil (seg_again rfl (ih (i + 1) false i s'' _ s'' oE' oI' (pre ++ [(i, chr c')]) (by omega) hlt hend' hC' S₈ (gp s'') (by rw [hitems]; simp)))))
end Mine

/-! G7 -/
namespace Mine
open PySem PySem.Spec PyProof.Rows

theorem gf_pin2 {w : World} {mg mb : Str → Option Value} {A' A'' : Around} {env : Env} {pn : Addr → Pn} {s0 s s' : Shared} {ρ : List (Str × Ty)} {En It : Addr} {oE oI : Obj} (S : (gf w mg mb A' env [] pn s0).St ρ s) (hr : Room 0 A'') (hc : env.cells = []) (hEI : En ≠ It) (hk : ∀ b o, s.heap.get? b = some o → s'.heap.get? b = some o)
    (nE : s.heap.get? En = none) (nI : s.heap.get? It = none) (hE : s'.heap.get? En = some oE) (hI : s'.heap.get? It = some oI) (hos : s'.os = s.os) (hg : GExt s.gens s'.gens) (ht : s.toks ≤ s'.toks) :
    (gf w mg mb A'' env [En, It] (pn2 En oE oI) s0).St ρ s' := by
  have nz : ∀ b ∈ [En, It], s.heap.get? b = none := fun b hb => by
    rcases List.mem_cons.mp hb with q | q
    · subst q; exact nE
    · have : b = It := by simpa using q
      subst this; exact nI
  have n0 : ∀ b ∈ [En, It], s0.heap.get? b = none := fun b hb => by
    cases h : s0.heap.get? b with
    | none => rfl
    | some o => have := S.base.all b o h; rw [nz b hb] at this; cases this
  have b0 : ∀ b o, s0.heap.get? b = some o → s'.heap.get? b = some o := fun b o h => hk b o (S.base.all b o h)
  obtain ⟨m, hm⟩ := S.ns
  have hm' : s'.heap.Ns env.locals m := hm.at fun o h => hk _ o h
  refine ⟨⟨fun b o _ h => b0 b o h, fun b o h => ⟨o, b0 b o h⟩, hos.trans S.base.os, S.base.gens.trans hg, Nat.le_trans S.base.toks ht⟩, S.fresh, fun y hy => ?_, (fun _ h => nomatch h), S.gl, hr, S.tok, S.kind, S.glob, S.bns, S.loc, ⟨m, hm'⟩, fun x c h => ?_, S.apart, fun x c h => ?_, fun b hb => ⟨fun q => ?_, n0 b hb⟩, fun b hb => ?_, trivial, fun x T hx => ?_⟩
  · have : y = env.locals := by simpa [gf] using hy
    subst this; obtain ⟨o, _, _, ho, _⟩ := hm'; exact ⟨o, ho⟩
  · have h : env.cells.lookup x = some c := h
    rw [hc] at h; exact nomatch h
  · have h : env.cells.lookup x = some c := h
    rw [hc] at h; exact nomatch h
  · have q : b = env.locals := by simpa [gf] using q
    subst q; obtain ⟨o, _, _, ho, _⟩ := hm
    have ho : s.heap.get? env.locals = some o := ho
    rw [nz _ hb] at ho; cases ho
  · have hb : b ∈ [En, It] := hb
    by_cases hbE : b = En
    · subst hbE; exact ⟨oE, hE, by show (pn2 b oE oI b).P _ _; unfold pn2; rw [if_pos rfl]; rfl⟩
    · have : b = It := by simpa [hbE] using hb
      subst this; exact ⟨oI, hI, by show (pn2 En oE oI b).P _ _; unfold pn2; rw [if_neg hbE]; rfl⟩
  · obtain ⟨v, h1, h2⟩ := S.names x T hx
    refine ⟨v, T.mono _ _ _ (fun b o h => ?_) h1, ?_⟩
    · have hb := cut_of h
      refine cut_mk (fun q => ?_) (hk b o hb.2)
      rcases List.mem_append.mp q with q | q
      · exact hb.1 (List.mem_append_left _ q)
      · have q : b ∈ [En, It] := by simpa [gf] using q
        have h9 : s.heap.get? b = some o := hb.2
        rw [nz b q] at h9; cases h9
    · rcases h2 with ⟨a, m', b, c⟩ | ⟨a, c, b, d⟩
      · exact .inl ⟨a, m, hm', by rw [hm.agree b x]; exact c⟩
      · have b : env.cells.lookup x = some c := b
        rw [hc] at b; exact nomatch b

theorem wp_constBool {M : Model} {A : Around} {E : Value → Shared → Prop} {Q : Value → Shared → Prop} {s : Shared} {b : Bool} {k : Nat} {pos : Pos} {env : Env} (h : Q (.bool b) s) : wpAny M A (eval (.Constant (.bool b) k pos) env) Q E s := fun _ _ _ => h

theorem esc_start {w : World} {mg mb : Str → Option Value} {A : Around} {L a : Addr} {cd : Value} {x : Str} {pn : Addr → Pn} {s₀ s0 : Shared} (hx : x.length ≤ 1000000) (hr : Room 1 A) (hend : escEnd x.cps.toList false = false)
    (S : (gf w mg mb (A.over (.func gBody (gEnv L a cd)) []) (gEnv L a cd) [] pn s0).St [("addr", tS x)] s₀) (g : Gp3 s₀ s0 [L]) :
    Seg (model PP w) A (gEndR [L, s₀.heap.objs.size + 1, s₀.heap.objs.size]) (genY mg mb [L, s₀.heap.objs.size + 1, s₀.heap.objs.size] (escItems x)) (escItems x).length s₀ (.func gBody (gEnv L a cd)) ((model PP w).den (.func gBody (gEnv L a cd))) [] s₀ := by
  refine seg_func (seg_execs_cons (seg_stmt (wpAny_Assign_Name (wpAny_Constant_int (Fm.wp_storeZ (F := gf w mg mb (A.over (.func gBody (gEnv L a cd)) []) (gEnv L a cd) [] pn s0) (T := tI 0) (S.ext (.toks' (Nat.le_succ _))) (.int _ _) rfl fun s₁ S₁ e₁ z₁ => ?_)) rfl)))
  refine seg_execs_cons (seg_stmt (wpAny_Assign_Name (wp_constBool (Fm.wp_storeZ (F := gf w mg mb (A.over (.func gBody (gEnv L a cd)) []) (gEnv L a cd) [] pn s0) (T := tB false) S₁ (.bool _) rfl fun s₂ S₂ e₂ z₂ => ?_)) rfl))
  have hz : s₂.heap.objs.size = s₀.heap.objs.size := z₂.trans z₁
  obtain ⟨v, hv, hname⟩ := S₂.names "addr" (tS x) rfl
  obtain ⟨t, rfl⟩ := Rd.str_inv hv
  refine seg_execs_cons (seg_For (E := fun _ _ => False) ?_)
  refine PyProof.Rows.Call_ (Fm.wp_biName S₂ PyProof.Rows.boot_enumerate (PyProof.Rows.callWith_type1 (PyProof.Rows.args_cons (wpAny_Name (Fm.wp_load S₂ hname (PyProof.Rows.args_nil ?_))) rfl) rfl rfl)) rfl
  refine call_enumerate_str fun h' hE hI hsz hk => ?_
  refine wpAny_pyIter_enum hE fun p => ?_
  obtain ⟨oI, hI0, hI1⟩ := id hI
  have nE : s₂.heap.get? (s₂.heap.objs.size + 1) = none := by
    cases h : s₂.heap.get? (s₂.heap.objs.size + 1) with
    | none => rfl
    | some o => exact absurd (Heap.lt_size h) (Nat.not_lt.mpr (Nat.le_succ _))
  have hEI : s₂.heap.objs.size + 1 ≠ s₂.heap.objs.size := Nat.succ_ne_self _
  have S₃ := gf_pin2 (s' := { s₂ with heap := h' }) S₂ (room_over (p := p) (L := L) (a := a) (cd := cd) (En := s₂.heap.objs.size + 1) hr) rfl hEI hk nE (Fm.no_top _) hE hI0 rfl (.refl _) (Nat.le_refl _)
  have hW := walkE (w := w) (A := A) (x := x) (t := t) hr.1 hEI
  have g' : Gp3 s₀ s0 [L, s₂.heap.objs.size + 1, s₂.heap.objs.size] := ⟨fun b o hb h => g.keep b o (fun q => hb (List.mem_of_mem_take (i := 1) q)) h, g.os, g.gens, g.toks⟩
  rw [← hz]
  have := esc_loop (w := w) (mg := mg) (mb := mb) (items := escItems x) (x := x) (t := t) (p := p) hx hr hEI x.length 0 false 0 { s₂ with heap := h' } s0 s₀ _ oI [] (by omega) (Nat.zero_le _) (by simpa using hend)
    (fun h q1 q2 => hW.frame 0 h' h ⟨⟨_, hE⟩, hI⟩ fun b hb o ho => ?_) (S₃.weaken (sub_cons rfl (sub_cons rfl (sub_cons rfl sub_nil)))) g' (by simp [escItems])
  · rw [List.drop_zero] at this
    exact this
  · rcases List.mem_cons.mp hb with q | q
    · subst q; have hE' : h'.get? (s₂.heap.objs.size + 1) = some _ := hE
      rw [hE'] at ho; rw [← ho]; exact q1
    · have : b = s₂.heap.objs.size := by simpa using q
      subst this; rw [hI0] at ho; rw [← ho]; exact q2
end Mine

/-! G8 -/
namespace Mine
open PySem PySem.Spec PyProof.Rows

/-- one step of a def's generator: what is left suspended is bare -/
theorem next_gen {w : World} {A : Around} {E : Value → Shared → Prop} {s : Shared} {a : Addr} {g n : Nat} {gs : GenState} {P : Nat → Shared → Shared → Prop} {Y : Protocol} {Q : Option Value → Shared → Prop} (hh : A.handled = none)
    (hl : s.heap.NoLimit) (hroom : A.depth < recursionLimit) (hg : s.heap.IsGen a g) (hgs : s.gens[g]? = some gs)
    (hgo : gs.Goes (model PP w) A.in1 (fun n s₀ r s₁ => r = .ok (.ret .none) ∧ P n s₀ s₁) Y n (.send .none) (s.setGen g .running))
    (hY : ∀ v s₁ gs', gs'.bare = true → Y (n - 1) (s.setGen g .running) v s₁ (fun r' s'' => match n with
        | 0 => False
        | m + 1 => gs'.Goes (model PP w) A.in1 (fun n s₀ r s₁ => r = .ok (.ret .none) ∧ P n s₀ s₁) Y m r' s'') → Q (some v) (s₁.setGen g gs'))
    (hP : ∀ s₁, P n (s.setGen g .running) s₁ → ∀ h', (∀ b o, s₁.heap.get? b = some o → h'.get? b = some o) → Q none { s₁.setGen g .finished with heap := h' }) :
    wpAny (model PP w) A (pyNext (.ref a)) Q E s := by
  unfold pyNext
  refine wpAny_bind (wpAny_attempt (wpAny_callSpecial?_slot (name := Str.ofString "__next__") hg.typeIs slot_gen_next (wpAny_call_entry slot_gen_next hg.typeIs entry_gen_next ?_ (args_gen_next _))))
  show wpAny _ A.in1 (Builtin.Generator.genWake (.ref a) (.send .none)) _ _ s
  unfold Builtin.Generator.genWake
  refine wpAny_bind (wpAny_holding (wpAny_genNumber hg (wpAny_bind (wpAny_genState hgs ?_))))
  have key : gs.status ≠ .running → gs.status ≠ .finished → True := fun _ _ => trivial
  cases gs with
  | running => exact hgo.elim
  | finished => exact hgo.elim
  | _ =>
    refine wpAny_bind (wpAny_roomToWake hl hroom ?_)
    show wpAny _ A.in1 (.resume g (.send .none) [] _) _ _ s
    refine wpAny_resumeQ hgs hgo (fun r s₁ hr => ?_) (fun v s₁ gs' hb hv => wpAny_pure ⟨v, rfl, wpAny_pure (hY v s₁ gs' hb hv)⟩)
    obtain ⟨rfl, hp⟩ := hr
    show wpAny _ A.in1 (newExc (.type "StopIteration") [] >>= _) _ _ _
    simp only [newExc, newTuple]
    refine wpAny_bind (wpAny_bind (wpAny_newObj_type (wpAny_bind (m := firstArgMember _ _) (wpAny_of_eq (a := Value.none) (by first | rfl | (simp only [firstArgMember]; rfl)) (wpAny_newObj_type ?_ (by size_fits)))) (by size_fits)))
    simp only [raiseNew]
    refine wpAny_bind (wpAny_bind (wpAny_handled ?_))
    first | rw [show A.in1.handled = none from hh] | rw [hh]
    refine wpAny_throw (wpAny_bind (wpAny_isInstance (T := "StopIteration") (b := true) ⟨_, Heap.get?_push_size _ rfl, rfl⟩ isSubtype_stop ?_))
    exact wpAny_pure (hP s₁ hp _ fun b o hb => Heap.get?_push_of_some _ (Heap.get?_push_of_some _ hb))

namespace Fm
variable {F : Fm} {ρ : List (Str × Ty)} {s s' : Shared}
/-- the frame, its count of generators begun anew -/
def reG (F : Fm) (g : Array GenState) : Fm := { F with s0 := { F.s0 with gens := g } }
theorem St.reG (S : F.St ρ s) : (F.reG s.gens).St ρ s :=
  ⟨⟨S.base.keep, S.base.there, S.base.os, .refl _, S.base.toks⟩, S.fresh, S.dom, S.domX, S.gl, S.room, S.tok, S.kind, S.glob, S.bns, S.loc, S.ns, S.cells, S.apart, S.cellsIn, S.pinNew, S.pinned, S.ghost, S.names⟩
theorem St.unG {g : Array GenState} (S : (F.reG g).St ρ s) (hg : GExt F.s0.gens g) : F.St ρ s :=
  ⟨⟨S.base.keep, S.base.there, S.base.os, hg.trans S.base.gens, S.base.toks⟩, S.fresh, S.dom, S.domX, S.gl, S.room, S.tok, S.kind, S.glob, S.bns, S.loc, S.ns, S.cells, S.apart, S.cellsIn, S.pinNew, S.pinned, S.ghost, S.names⟩
end Fm
end Mine

/-! G9 -/
namespace Mine
open PySem PySem.Spec PyProof.Rows

/-- a generator that was just made -/
structure GenNew (x : Str) (I L a : Addr) (cd : Value) (g : Nat) (s s' : Shared) : Prop where
  keep : ∀ b o, s.heap.get? b = some o → s'.heap.get? b = some o
  isGen : s'.heap.IsGen I g
  gen : s'.gens[g]? = some (.fresh (.func gBody (gEnv L a cd)))
  old : ∀ (i : Nat) (y : GenState), s.gens[i]? = some y → i ≠ g
  gens : GExt s.gens s'.gens
  ns : ∃ m t, s'.heap.Ns L m ∧ m "addr" = some (.str x t)
  newL : s.heap.get? L = none
  newI : s.heap.get? I = none
  ne : I ≠ L
  os : s'.os = s.os
  toks : s.toks ≤ s'.toks

namespace Fm
variable {F : Fm} {ρ : List (Str × Ty)} {s s' : Shared}
theorem wp_genCall {np pos : Pos} {e : Expr} {x : Str} (S : F.St ρ s) (he : F.Ev ρ e (tS x)) {E : Value → Shared → Prop} {Q : Value → Shared → Prop}
    (h : ∀ I L a cd g s', GenNew x I L a cd g s s' → Q (.ref I) s')
    (hk : F.env.kindOf "_iter_escaped_chars" = some .globalImplicit := by rfl) (hs : starEach [e] F.env = (false, eval e F.env) :: starEach [] F.env := by rfl) :
    wpAny F.M F.A (eval (.Call (.Name "_iter_escaped_chars" np) [e] [] pos) F.env) Q E s := by
  obtain ⟨a, o, pm, cd, doc, h1, h2, h3, h4⟩ := S.g.fn _ (List.mem_of_getElem? (i := 3) (show theDefs[3]? = some (_, _, _, _) from rfl))
  refine PyProof.Rows.Call_ (wp_fnName S h1 ?_ hk (by decide)) rfl
  refine PyProof.Rows.callWith_def h3 (Evs.cons he .nil hs pos s S E _ fun vs s₁ e₁ S₁ hvs => ⟨e₁.all _ _ h2, ?_⟩) hs
  cases hvs with
  | @cons _ _ v vs hv hvs' =>
  cases hvs'
  obtain ⟨t, rfl⟩ := Rd.str_inv hv
  refine wpAny_call (codeAny_call_generator S.room.depth (e₁.all _ _ h2) h3 rfl rfl rfl (h4.keeps e₁.all) ?_)
  rw [show bindArgs _ _ = pure [(Str.ofString "addr", Value.str x t)] from rfl]
  refine wpAny_pure (wpAny_newFunctionEnv (show ∀ x ∈ gScope.names, x.2 ≠ .cell from by decide) (fun y hy => by simp at hy; subst hy; rfl) (fun h₁ hns hsb => ⟨S₁.g.nolimit.fresh _ hsb, ?_⟩) rfl)
  have hL : s₁.heap.get? s₁.heap.objs.size = none := no_top _
  have keep₁ : ∀ b o, s₁.heap.get? b = some o → h₁.get? b = some o := fun b o q => hsb.extBut b o (Nat.ne_of_lt (Heap.lt_size q)) (Heap.get?_push_of_some _ q)
  have sz : s₁.heap.objs.size < h₁.objs.size := by obtain ⟨o, _, _, ho, _⟩ := hns; exact Heap.lt_size ho
  have nn : ∀ b, s₁.heap.objs.size ≤ b → s.heap.get? b = none := fun b hb => by
    cases q : s.heap.get? b with
    | none => rfl
    | some o => exact absurd (Heap.lt_size (e₁.all _ _ q)) (Nat.not_lt.mpr hb)
  refine h h₁.objs.size s₁.heap.objs.size a cd s₁.gens.size _ ⟨fun b o q => Heap.get?_push_of_some _ (keep₁ b o (e₁.all b o q)), ⟨_, _, _, Heap.get?_push_size _ rfl, rfl, rfl, rfl⟩, ?_, ?_, ?_, ⟨_, t, hns.keeps fun b o q => Heap.get?_push_of_some _ q, rfl⟩, nn _ (Nat.le_refl _), nn _ (Nat.le_of_lt sz), Nat.ne_of_gt sz, e₁.os, ?_⟩
  · exact Array.getElem?_push_size
  · intro i y q
    have := e₁.gens.1 i y q
    exact Nat.ne_of_lt (Array.getElem?_eq_some_iff.mp this).1
  · refine e₁.gens.trans ⟨fun i y q => ?_, fun hb => AllBare.push hb rfl⟩
    have hlt := (Array.getElem?_eq_some_iff.mp q).1
    show (s₁.gens.push _)[i]? = some y
    rw [Array.getElem?_push_lt hlt]
    exact q ▸ (Array.getElem?_eq_getElem hlt).symm
  · show s.toks ≤ s₁.toks + 1 + 1 + 1
    exact Nat.le_trans e₁.toks (by omega)
end Fm
end Mine

/-! G10 -/
namespace Mine
open PySem PySem.Spec PyProof.Rows
namespace Fm
variable {F : Fm} {ρ : List (Str × Ty)} {s s' : Shared}

/-- some pinned objects were turned, some new ones pinned -/
theorem St.moved {Z' K : List Addr} {pn' : Addr → Pn} {gh' : Gp} (S : F.St ρ s) (hsub : ∀ a ∈ F.Z, a ∈ Z') (hnew : ∀ a ∈ Z', a ∈ F.Z ∨ s.heap.get? a = none) (hK : ∀ a ∈ K, a ∈ Z')
    (hk : ∀ b o, b ∉ K → s.heap.get? b = some o → s'.heap.get? b = some o) (hos : s'.os = s.os) (hg : GExt F.s0.gens s'.gens) (ht : s.toks ≤ s'.toks)
    (hp : ∀ a ∈ Z', (a ∈ K ∧ ∃ o, s'.heap.get? a = some o ∧ ∀ V, (pn' a).P V o) ∨ (a ∉ K ∧ a ∈ F.Z ∧ pn' a = F.pn a)) (hgh : ∀ V, Le (cut (vw s) F.X) V → gh'.P V) : ({ F with Z := Z', pn := pn', gh := gh' } : Fm).St ρ s' := by
  have n0 : ∀ a ∈ Z', a ∉ F.Y ∧ F.s0.heap.get? a = none := fun a ha => by
    rcases hnew a ha with q | q
    · exact S.pinNew a q
    · refine ⟨fun r => ?_, ?_⟩
      · obtain ⟨o, ho⟩ := S.dom a r; rw [q] at ho; cases ho
      · cases h : F.s0.heap.get? a with
        | none => rfl
        | some o => have := S.base.all a o h; rw [q] at this; cases this
  have kY : ∀ y ∈ F.Y, y ∉ K := fun y hy q => (n0 y (hK y q)).1 hy
  have k0 : ∀ b o, F.s0.heap.get? b = some o → s'.heap.get? b = some o := fun b o h => hk b o (fun q => by rw [(n0 b (hK b q)).2] at h; cases h) (S.base.all b o h)
  have le : Le (cut (vw s) F.X) (cut (vw s') (F.Y ++ (Z' ++ F.Xo))) := fun b o h => by
    have hb := cut_of h
    have hbZ : b ∉ Z' := fun q => by
      rcases hnew b q with r | r
      · exact hb.1 (List.mem_append_right _ (List.mem_append_left _ r))
      · have h9 : s.heap.get? b = some o := hb.2
        rw [r] at h9; cases h9
    refine cut_mk (fun q => ?_) (hk b o (fun q => hbZ (hK b q)) hb.2)
    rcases List.mem_append.mp q with q | q
    · exact hb.1 (List.mem_append_left _ q)
    · rcases List.mem_append.mp q with q | q
      · exact hbZ q
      · exact hb.1 (List.mem_append_right _ (List.mem_append_right _ q))
  obtain ⟨m, hm⟩ := S.ns
  have hm' : s'.heap.Ns F.env.locals m := hm.at fun o h => hk _ o (kY _ S.loc) h
  have cl : ∀ x c v, F.env.cells.lookup x = some c → s.heap.IsCell c v → s'.heap.IsCell c v := fun x c v hx hc => by
    obtain ⟨o, ho, hd⟩ := hc
    refine ⟨o, hk c o (fun q => ?_) ho, hd⟩
    rcases S.cellsIn x c hx with r | ⟨o', r⟩
    · exact kY c r q
    · rw [(n0 c (hK c q)).2] at r; cases r
  refine ⟨⟨fun b o _ h => k0 b o h, fun b o h => ⟨o, k0 b o h⟩, hos.trans S.base.os, hg, Nat.le_trans S.base.toks ht⟩, S.fresh, fun y hy => ?_, S.domX, S.gl, S.room, S.tok, S.kind, S.glob, S.bns, S.loc, ⟨m, hm'⟩, fun x c hx => ?_, S.apart, S.cellsIn, n0, fun a ha => ?_, hgh _ le, fun x T hx => ?_⟩
  · obtain ⟨o, ho⟩ := S.dom y hy; exact ⟨o, hk y o (kY y hy) ho⟩
  · obtain ⟨v, hv⟩ := S.cells x c hx; exact ⟨v, cl x c v hx hv⟩
  · rcases hp a ha with ⟨_, o, h1, h2⟩ | ⟨h1, h2, h3⟩
    · exact ⟨o, h1, h2 _⟩
    · obtain ⟨o, h4, h5⟩ := S.pinned a h2
      exact ⟨o, hk a o h1 h4, by show (pn' a).P _ o; rw [h3]; exact Pn.mono _ _ _ _ le h5⟩
  · obtain ⟨v, h1, h2⟩ := S.names x T hx
    refine ⟨v, T.mono _ _ _ le h1, ?_⟩
    rcases h2 with ⟨a, m', b, c⟩ | ⟨a, c, b, d⟩
    · exact .inl ⟨a, m, hm', by rw [hm.agree b x]; exact c⟩
    · exact .inr ⟨a, c, b, cl x c _ b d⟩

/-- pinned objects were turned, or gone, and are pinned no more -/
theorem St.movedDrop {Z' K : List Addr} {pn' : Addr → Pn} {gh' : Gp} (S : F.St ρ s) (hsub : ∀ a ∈ Z', a ∈ F.Z ∧ a ∉ K ∧ pn' a = F.pn a) (hK : ∀ a ∈ K, a ∈ F.Z ∨ s.heap.get? a = none)
    (hk : ∀ b o, b ∉ K → s.heap.get? b = some o → s'.heap.get? b = some o) (hos : s'.os = s.os) (hg : GExt F.s0.gens s'.gens) (ht : s.toks ≤ s'.toks)
    (hgh : ∀ V, Le (cut (vw s) F.X) V → gh'.P V) : ({ F with Z := Z', pn := pn', gh := gh' } : Fm).St ρ s' := by
  have n0 : ∀ a ∈ K, a ∉ F.Y ∧ F.s0.heap.get? a = none := fun a ha => by
    rcases hK a ha with q | q
    · exact S.pinNew a q
    · refine ⟨fun r => ?_, ?_⟩
      · obtain ⟨o, ho⟩ := S.dom a r; rw [q] at ho; cases ho
      · cases h : F.s0.heap.get? a with
        | none => rfl
        | some o => have := S.base.all a o h; rw [q] at this; cases this
  have kY : ∀ y ∈ F.Y, y ∉ K := fun y hy q => (n0 y q).1 hy
  have k0 : ∀ b o, F.s0.heap.get? b = some o → s'.heap.get? b = some o := fun b o h => hk b o (fun q => by rw [(n0 b q).2] at h; cases h) (S.base.all b o h)
  have le : Le (cut (vw s) F.X) (cut (vw s') (F.Y ++ (Z' ++ F.Xo))) := fun b o h => by
    have hb := cut_of h
    refine cut_mk (fun q => ?_) (hk b o (fun q => ?_) hb.2)
    · rcases List.mem_append.mp q with q | q
      · exact hb.1 (List.mem_append_left _ q)
      · rcases List.mem_append.mp q with q | q
        · exact hb.1 (List.mem_append_right _ (List.mem_append_left _ (hsub b q).1))
        · exact hb.1 (List.mem_append_right _ (List.mem_append_right _ q))
    · rcases hK b q with r | r
      · exact hb.1 (List.mem_append_right _ (List.mem_append_left _ r))
      · have h9 : s.heap.get? b = some o := hb.2
        rw [r] at h9; cases h9
  obtain ⟨m, hm⟩ := S.ns
  have hm' : s'.heap.Ns F.env.locals m := hm.at fun o h => hk _ o (kY _ S.loc) h
  have cl : ∀ x c v, F.env.cells.lookup x = some c → s.heap.IsCell c v → s'.heap.IsCell c v := fun x c v hx hc => by
    obtain ⟨o, ho, hd⟩ := hc
    refine ⟨o, hk c o (fun q => ?_) ho, hd⟩
    rcases S.cellsIn x c hx with r | ⟨o', r⟩
    · exact kY c r q
    · rw [(n0 c q).2] at r; cases r
  refine ⟨⟨fun b o _ h => k0 b o h, fun b o h => ⟨o, k0 b o h⟩, hos.trans S.base.os, hg, Nat.le_trans S.base.toks ht⟩, S.fresh, fun y hy => ?_, S.domX, S.gl, S.room, S.tok, S.kind, S.glob, S.bns, S.loc, ⟨m, hm'⟩, fun x c hx => ?_, S.apart, S.cellsIn, fun a ha => S.pinNew a (hsub a ha).1, fun a ha => ?_, hgh _ le, fun x T hx => ?_⟩
  · obtain ⟨o, ho⟩ := S.dom y hy; exact ⟨o, hk y o (kY y hy) ho⟩
  · obtain ⟨v, hv⟩ := S.cells x c hx; exact ⟨v, cl x c v hx hv⟩
  · obtain ⟨h1, h2, h3⟩ := hsub a ha
    obtain ⟨o, h4, h5⟩ := S.pinned a h1
    exact ⟨o, hk a o h2 h4, by show (pn' a).P _ o; rw [h3]; exact Pn.mono _ _ _ _ le h5⟩
  · obtain ⟨v, h1, h2⟩ := S.names x T hx
    refine ⟨v, T.mono _ _ _ le h1, ?_⟩
    rcases h2 with ⟨a, m', b, c⟩ | ⟨a, c, b, d⟩
    · exact .inl ⟨a, m, hm', by rw [hm.agree b x]; exact c⟩
    · exact .inr ⟨a, c, b, cl x c _ b d⟩

/-- the frame while a generator's loop runs -/
def lp (F : Fm) (p : Addr → Pn) (L En It : Addr) (oL oE oI : Obj) (gI : Gp) (gs : Array GenState) : Fm :=
  { F with Z := L :: En :: It :: F.Z, pn := fun b => if b = L then pnIs oL else if b = En then pnIs oE else if b = It then pnIs oI else p b, gh := F.gh.and gI, s0 := { F.s0 with gens := gs } }
end Fm

theorem letGo_gen {w : World} {A : Around} {E : Value → Shared → Prop} {s : Shared} {Q : Unit → Shared → Prop} {elts : List Expr} {k : Nat} {pos : Pos} {I T : Addr} {g : Nat} (hg : s.heap.IsGen I g) (h : Q () s) :
    wpAny (model PP w) A (letOwnedTupleGo (.Tuple elts k pos) (.ref I) (.ref T)) Q E s := by
  obtain ⟨o, nm, qn, ho, hc, hd, hs⟩ := hg
  unfold letOwnedTupleGo
  refine wpAny_bind (wpAny_load ho ?_)
  rw [hc, hd]
  exact wpAny_pure h
end Mine

/-! Fw17 -/
namespace Mine
open PySem PySem.Spec PyProof.Rows

/-- the state of a zip of two lists -/
def StZ (z TI TO i1 i2 l1 l2 : Addr) (xs ys : Array Value) (i : Nat) (h : Heap) : Prop := IsZip h z TI TO .none ∧ IsPair h TI (.ref i1) (.ref i2) ∧ (∃ a b, IsPair h TO a b) ∧ h.IsListIter i1 l1 i ∧ h.IsListIter i2 l2 i ∧ h.IsList l1 xs ∧ h.IsList l2 ys
def pnZ (D : Addr) (ob : Addr → Obj) (es : List PyData) : Addr → Pn := fun b => if b = D then pnList es else pnIs (ob b)
def gpZ (l1 l2 : Addr) (xs ys : Array Value) (n1 n2 : Nat) (ds1 ds2 : List PyData) : Gp := ⟨fun V => V l1 = some ⟨.type "list", none, .seq xs n1, #[]⟩ ∧ V l2 = some ⟨.type "list", none, .seq ys n2, #[]⟩ ∧ RdAll V xs.toList ds1 ∧ RdAll V ys.toList ds2, fun _ _ h ⟨a, b, c, d⟩ => ⟨h _ _ a, h _ _ b, RdAll.mono h c, RdAll.mono h d⟩⟩

theorem getD_rd {V : View} {vs : Array Value} {ds : List PyData} (h : RdAll V vs.toList ds) {i : Nat} {v : Value} (hv : vs[i]? = some v) : Rd V v (ds.getD i .none) := by
  have hlt : i < vs.size := (Array.getElem?_eq_some_iff.mp hv).1
  have hlt' : i < ds.length := by rw [← size_of h]; exact hlt
  obtain ⟨u, h1, h2⟩ := h.get (List.getElem?_eq_getElem hlt')
  rw [Array.getElem?_toList, hv] at h1
  cases h1
  rw [List.getD_eq_getElem?_getD, List.getElem?_eq_getElem hlt']
  exact h2

namespace Fm
variable {F : Fm} {ρ : List (Str × Ty)} {s s' : Shared}

section
variable {x y : Str} {p1 p2 tp zp zpos pos : Pos} {kk : Nat} {elt e1 e2 : Expr} {scope : Scope} {ds1 ds2 : List PyData} {e : Nat → PyData}

theorem zip_loop {C D z TI TO i1 i2 l1 l2 : Addr} {xs ys : Array Value} {n1 n2 : Nat} {s2 : Shared} {R : Result → Shared → Prop} {ob₀ : Addr → Obj} (hA : F.A.handled = none) (ap : ZipApart z TI TO i1 i2 l1 l2) (hDz : D ∉ [z, TI, TO, i1, i2]) (hsz : min xs.size ys.size ≤ sizeLine)
    (hkx : F.env.kindOf x = F.env.kindOf x → ∀ C s2 Z pn G, (F.cf scope [] C [] s2 Z pn G).env.kindOf x = some .local) (hky : ∀ C s2 Z pn G, (F.cf scope [] C [] s2 Z pn G).env.kindOf y = some .local)
    (helt : ∀ C s2 Z pn G i, i < min xs.size ys.size → (F.cf scope [] C [] s2 Z pn G).Ev [(y, tD (ds2.getD i .none)), (x, tD (ds1.getD i .none))] elt (tD (e i)))
    (S : (F.cf scope [] C [] s2 [z, TI, TO, i1, i2, D] (pnZ D ob₀ []) (gpZ l1 l2 xs ys n1 n2 ds1 ds2)).St [] s)
    (h0 : ∀ h : Heap, (∀ b ∈ [z, TI, TO, i1, i2], h.get? b = some (ob₀ b)) → h.get? l1 = some ⟨.type "list", none, .seq xs n1, #[]⟩ → h.get? l2 = some ⟨.type "list", none, .seq ys n2, #[]⟩ → StZ z TI TO i1 i2 l1 l2 xs ys 0 h)
    (hend : ∀ s', (F.cf scope [] C [] s2 [D] (fun _ => pnList (gath (min xs.size ys.size) (fun _ => true) e)) gpTrue).St [] s' → R (.ok .next) s') :
    codeAny F.M F.A (.compLoop (.ListComp elt [⟨.Tuple [.Name x p1, .Name y p2] kk tp, .Call (.Name "zip" zp) [e1, e2] [] zpos, [], 0⟩] scope pos) 0 (.ref z) (.ref D) (compEnvC scope [] C F.env)) R s := by
  have W := WalksT.zip2 (prog := PP) (w := F.w) (A := F.A) hA z TI TO i1 i2 l1 l2 ap xs ys
  refine LCp.codeAny_compLoop_pair (fun k s => ∃ i ob, i ≤ min xs.size ys.size ∧ k = min xs.size ys.size - i ∧ (F.cf scope [] C [] s2 [z, TI, TO, i1, i2, D] (pnZ D ob (gath i (fun _ => true) e)) (gpZ l1 l2 xs ys n1 n2 ds1 ds2)).St [] s ∧
    ∀ h : Heap, (∀ b ∈ [z, TI, TO, i1, i2], h.get? b = some (ob b)) → h.get? l1 = some ⟨.type "list", none, .seq xs n1, #[]⟩ → h.get? l2 = some ⟨.type "list", none, .seq ys n2, #[]⟩ → StZ z TI TO i1 i2 l1 l2 xs ys i h) ?_ (min xs.size ys.size) ⟨0, ob₀, Nat.zero_le _, rfl, S, h0⟩
  rintro k s ⟨i, ob, hi, rfl, S, hC⟩
  have pin : ∀ b ∈ [z, TI, TO, i1, i2], s.heap.get? b = some (ob b) := fun b hb => by
    have hbD : b ≠ D := fun q => hDz (q ▸ hb)
    obtain ⟨o, h1, h2⟩ := S.pinned b (List.mem_append_left [D] hb)
    have h2 : (pnZ D ob (gath i (fun _ => true) e) b).P _ o := h2
    unfold pnZ at h2
    rw [if_neg hbD] at h2
    have h2 : o = ob b := h2
    rw [← h2]; exact h1
  obtain ⟨g1, g2, g3, g4⟩ := id S.ghost
  have st := hC _ pin (cut_of g1).2 (cut_of g2).2
  by_cases hlt : i < min xs.size ys.size
  · refine wp_toks (W.item i s _ _ hlt st fun T vals h₁ tk hPt hTsz hIsT hMid hkeep htk => ?_)
    refine W.go _ _ _ i T _ _ _ hMid fun h₂ st₂ keep₂ => ?_
    obtain ⟨vx, vy, hx, hy, rfl⟩ := hPt
    have wr : ∀ b ∈ [z, TO, i1, i2], b ∈ [z, TI, TO, i1, i2] := fun b hb => by
      simp only [List.mem_cons, List.not_mem_nil, or_false] at hb ⊢
      rcases hb with q | q | q | q
      · exact .inl q
      · exact .inr (.inr (.inl q))
      · exact .inr (.inr (.inr (.inl q)))
      · exact .inr (.inr (.inr (.inr q)))
    have hthere : ∀ b ∈ [z, TO, i1, i2], ∃ o, h₂.get? b = some o := fun b hb => by
      obtain ⟨q1, q2, ⟨a, c, q3⟩, ⟨oa, q4, _⟩, ⟨ob, q5, _⟩, _⟩ := id st₂
      simp only [List.mem_cons, List.not_mem_nil, or_false] at hb
      rcases hb with q | q | q | q
      · subst q; exact ⟨_, q1⟩
      · subst q; exact ⟨_, q3⟩
      · subst q; exact ⟨_, q4⟩
      · subst q; exact ⟨_, q5⟩
    have keep : ∀ b o, b ∉ [z, TO, i1, i2] → s.heap.get? b = some o → h₂.get? b = some o := fun b o hb q => keep₂ b o hb (hkeep b o hb q)
    let ob' : Addr → Obj := fun b => (h₂.get? b).getD (ob b)
    have TIwr : TI ∉ [z, TO, i1, i2] := fun q => by
      simp only [List.mem_cons, List.not_mem_nil, or_false] at q
      rcases q with q | q | q | q
      · exact ap.TIz q
      · exact ap.TITO q
      · exact ap.TIi1 q
      · exact ap.TIi2 q
    have Dwr : D ∉ [z, TO, i1, i2] := fun q => hDz (wr D q)
    have ob2 : ∀ b ∈ [z, TI, TO, i1, i2], h₂.get? b = some (ob' b) := fun b hb => by
      by_cases hbw : b ∈ [z, TO, i1, i2]
      · obtain ⟨o, ho⟩ := hthere b hbw
        show h₂.get? b = some ((h₂.get? b).getD (ob b)); rw [ho]; rfl
      · have := keep b _ hbw (pin b hb)
        show h₂.get? b = some ((h₂.get? b).getD (ob b)); rw [this]; rfl
    have S₂ := St.moved (s' := { s with heap := h₂, toks := tk }) (Z' := [z, TI, TO, i1, i2, D]) (K := [z, TO, i1, i2]) (pn' := pnZ D ob' (gath i (fun _ => true) e)) (gh' := gpZ l1 l2 xs ys n1 n2 ds1 ds2) S (fun a ha => ha) (fun a ha => .inl ha) (fun a ha => List.mem_append_left [D] (wr a ha)) keep rfl S.base.gens htk
      (fun a ha => by
        by_cases haw : a ∈ [z, TO, i1, i2]
        · refine .inl ⟨haw, ob' a, ob2 a (wr a haw), fun V => ?_⟩
          have haD : a ≠ D := fun q => Dwr (q ▸ haw)
          unfold pnZ; rw [if_neg haD]; rfl
        · refine .inr ⟨haw, ha, ?_⟩
          show pnZ D ob' _ a = pnZ D ob _ a
          by_cases haD : a = D
          · unfold pnZ; rw [if_pos haD, if_pos haD]
          · unfold pnZ
            rw [if_neg haD, if_neg haD]
            have ha' : a ∈ [z, TI, TO, i1, i2] := by
              rcases List.mem_append.mp (show a ∈ [z, TI, TO, i1, i2] ++ [D] from ha) with q | q
              · exact q
              · exact absurd (by simpa using q) haD
            have := keep a _ haw (pin a ha')
            show pnIs ((h₂.get? a).getD (ob a)) = pnIs (ob a)
            rw [this]; rfl)
      (fun V h => (gpZ l1 l2 xs ys n1 n2 ds1 ds2).mono _ _ h S.ghost)
    have S₂ : (F.cf scope [] C [] s2 [z, TI, TO, i1, i2, D] (pnZ D ob' (gath i (fun _ => true) e)) (gpZ l1 l2 xs ys n1 n2 ds1 ds2)).St [] { s with heap := h₂, toks := tk } := S₂
    have hT₂ : h₂.IsTuple T #[vx, vy] := by
      obtain ⟨o, ho, r⟩ := hIsT
      exact ⟨o, keep₂ T o (W.apart i T h₁ hMid) ho, r⟩
    refine assign_Tuple_tuple hA hT₂ rfl rfl fun h₃ he₃ => ?_
    have ex := ext_extBut (s := { s with heap := h₂, toks := tk }) he₃
    have S₃ := S₂.ext ex
    obtain ⟨_, _, g5, g6⟩ := id S₃.ghost
    refine wp_stores (F := F.cf scope [] C [] s2 [z, TI, TO, i1, i2, D] (pnZ D ob' (gath i (fun _ => true) e)) (gpZ l1 l2 xs ys n1 n2 ds1 ds2)) [(x, p1), (y, p2)] (ds := [ds1.getD i .none, ds2.getD i .none]) S₃ rfl (.cons (getD_rd g5 hx) (.cons (getD_rd g6 hy) .nil)) (fun q hq => by
      rcases List.mem_cons.mp hq with q | q
      · subst q; exact hkx rfl _ _ _ _ _
      · rcases List.mem_cons.mp q with q | q
        · subst q; exact hky _ _ _ _ _
        · exact nomatch q) fun s₄ S₄ => ?_
    refine helt _ _ _ _ _ i hlt s₄ S₄ _ _ fun v₅ s₅ e₅ S₅ hv₅ => ?_
    obtain ⟨o, ho, hP⟩ := S₅.pinned D (List.mem_append_right [z, TI, TO, i1, i2] (List.mem_singleton.mpr rfl))
    have hP : (pnZ D ob' (gath i (fun _ => true) e) D).P _ o := hP
    unfold pnZ at hP
    rw [if_pos rfl] at hP
    obtain ⟨vs, m, rfl, hr⟩ := hP
    have hDX : D ∈ (F.cf scope [] C [] s2 [z, TI, TO, i1, i2, D] (pnZ D ob' (gath i (fun _ => true) e)) (gpZ l1 l2 xs ys n1 n2 ds1 ds2)).X := by simp [cf]
    refine wpAny_list_append_plain (hsz := by rw [size_of hr]; exact Nat.le_trans (gath_le ..) (Nat.le_trans hi hsz)) ⟨m, ho⟩ fun h' hl' hs' => ?_
    obtain ⟨m', hl'⟩ := hl'
    have eb : ExtB [D] s₅ { s₅ with heap := h' } := ExtB.sameBut (tk := s₅.toks) hs' (by simp) ⟨_, hl'⟩ (Nat.le_refl _)
    have le : Le (cut (vw s₅) (F.cf scope [] C [] s2 [z, TI, TO, i1, i2, D] (pnZ D ob' (gath i (fun _ => true) e)) (gpZ l1 l2 xs ys n1 n2 ds1 ds2)).X) (cut (fun a => h'.get? a) (F.cf scope [] C [] s2 [z, TI, TO, i1, i2, D] (pnZ D ob' (gath i (fun _ => true) e)) (gpZ l1 l2 xs ys n1 n2 ds1 ds2)).X) := by
      intro c o hc
      have hcD : c ≠ D := fun q => (cut_of hc).1 (q ▸ hDX)
      exact cut_mk (cut_of hc).1 (eb.keep c o (by simpa using hcD) (cut_of hc).2)
    have S₆ := S₅.repin (P := pnList (gath (i + 1) (fun _ => true) e)) (a := D) (by simp [cf]) eb ⟨_, hl', _, _, rfl, by
      rw [gath_succ, Array.toList_push]
      exact (RdAll.mono le hr).snoc (Rd.mono le hv₅)⟩
    refine ⟨min xs.size ys.size - (i + 1), by omega, i + 1, ob', hlt, rfl, ?_, fun h q1 q2 q3 => ?_⟩
    · have := (S₆.congrPn (pn := pnZ D ob' (gath (i + 1) (fun _ => true) e)) (fun a ha => by
        show pnZ D ob' _ a = if a = D then pnList _ else pnZ D ob' _ a
        by_cases haD : a = D
        · simp [pnZ, haD]
        · simp [pnZ, haD])).weaken (ρ' := []) (fun _ _ h => nomatch h)
      exact this
    · refine W.frame (i + 1) h₂ h st₂ fun b hb o ho => ?_
      have hb : b ∈ [z, TI, TO, i1, i2] ++ [l1, l2] := hb
      rcases List.mem_append.mp hb with q | q
      · rw [ob2 b q] at ho; rw [← ho]; exact q1 b q
      · have k1 := keep l1 _ (fun q => by
          simp only [List.mem_cons, List.not_mem_nil, or_false] at q
          rcases q with q | q | q | q
          · exact ap.l1z q
          · exact ap.l1TO q
          · exact ap.l1i1 q
          · exact ap.l1i2 q) (cut_of g1).2
        have k2 := keep l2 _ (fun q => by
          simp only [List.mem_cons, List.not_mem_nil, or_false] at q
          rcases q with q | q | q | q
          · exact ap.l2z q
          · exact ap.l2TO q
          · exact ap.l2i1 q
          · exact ap.l2i2 q) (cut_of g2).2
        rcases List.mem_cons.mp q with q | q
        · subst q; rw [k1] at ho; rw [← ho]; exact q2
        · have : b = l2 := by simpa using q
          subst this; rw [k2] at ho; rw [← ho]; exact q3
  · have hin : i = min xs.size ys.size := by omega
    subst hin
    refine wp_toks (W.done s _ _ st fun h' tk hkeep htk => hend _ ?_)
    have S9 := St.movedDrop (s' := { s with heap := h', toks := tk }) (Z' := [D]) (K := [z, TO, i1, i2]) (pn' := fun _ => pnList (gath (min xs.size ys.size) (fun _ => true) e)) (gh' := gpTrue) S (fun a ha => by
      have haD : a = D := by simpa using ha
      subst haD
      refine ⟨List.mem_append_right [z, TI, TO, i1, i2] (List.mem_singleton.mpr rfl), fun q => hDz ?_, ?_⟩
      · simp only [List.mem_cons, List.not_mem_nil, or_false] at q ⊢
        rcases q with q | q | q | q
        · exact .inl q
        · exact .inr (.inr (.inl q))
        · exact .inr (.inr (.inr (.inl q)))
        · exact .inr (.inr (.inr (.inr q)))
      · show _ = pnZ a ob _ a
        unfold pnZ; rw [if_pos rfl]) (fun a ha => .inl (by
      show a ∈ [z, TI, TO, i1, i2, D]
      simp only [List.mem_cons, List.not_mem_nil, or_false] at ha ⊢
      rcases ha with q | q | q | q
      · exact .inl q
      · exact .inr (.inr (.inl q))
      · exact .inr (.inr (.inr (.inl q)))
      · exact .inr (.inr (.inr (.inr (.inl q)))))) hkeep rfl S.base.gens htk (fun _ _ => trivial)
    exact S9
end
end Fm
end Mine

/-! Fw18 -/
namespace Mine
open PySem PySem.Spec PyProof.Rows
namespace Fm
variable {F : Fm} {ρ : List (Str × Ty)} {s s' : Shared}

theorem Cmp.zip {x y : Str} {p1 p2 tp zp zpos pos : Pos} {kk : Nat} {elt e1 e2 : Expr} {scope : Scope} {ds1 ds2 : List PyData} {e : Nat → PyData} (h1 : F.Ev ρ e1 (tD (.list ds1))) (h2 : F.Ev ρ e2 (tD (.list ds2))) (hn : min ds1.length ds2.length ≤ sizeLine)
    (clos : closureFor scope F.env = pure []) (kind : scope.kind = .function) (names : ∀ x ∈ scope.names, x.2 = .local → scope.names.lookup x.1 = some .local) (nocell : ∀ m, cellsFrom m scope.names [] = []) (nopush : ∀ h, pushCells h scope.names = h)
    (hkx : ∀ C s2 Z pn G, (F.cf scope [] C [] s2 Z pn G).env.kindOf x = some .local) (hky : ∀ C s2 Z pn G, (F.cf scope [] C [] s2 Z pn G).env.kindOf y = some .local)
    (helt : ∀ C s2 Z pn G i, i < min ds1.length ds2.length → (F.cf scope [] C [] s2 Z pn G).Ev [(y, tD (ds2.getD i .none)), (x, tD (ds1.getD i .none))] elt (tD (e i)))
    (hk : F.env.kindOf "zip" = some .globalImplicit := by rfl) (hs : starEach [e1, e2] F.env = (false, eval e1 F.env) :: starEach [e2] F.env := by rfl) (hs' : starEach [e2] F.env = (false, eval e2 F.env) :: starEach [] F.env := by rfl)
    (hf : ∀ q, foldedSetIterable (.Call (.Name "zip" zp) [e1, e2] [] zpos) F.env q = pure q := by intro _; rfl) :
    F.Cmp ρ elt [⟨.Tuple [.Name x p1, .Name y p2] kk tp, .Call (.Name "zip" zp) [e1, e2] [] zpos, [], 0⟩] scope pos (gath (min ds1.length ds2.length) (fun _ => true) e) := fun s S E use Q h => by
  refine wpAny_comprehension_free (cl := []) rfl hf clos kind names ?_
  show wpAny F.M F.A (eval (.Call (.Name "zip" zp) [e1, e2] [] zpos) F.env) _ E s
  refine PyProof.Rows.Call_ (wp_biName S PyProof.Rows.boot_zip (PyProof.Rows.callWith_type1 (Evs.cons h1 (Evs.cons h2 .nil hs') hs zpos s S E _ fun vs s₁ e₁ S₁ hvs => ?_) hs (by rw [hs']; rfl)) (by decide) hk (by decide) (by decide)) rfl
  cases hvs with
  | cons a1 a2 => cases a2 with
    | cons a3 a4 =>
    cases a4
    obtain ⟨l1, xs, n1, rfl, hl1, hr1⟩ := Rd.list_inv a1
    obtain ⟨l2, ys, n2, rfl, hl2, hr2⟩ := Rd.list_inv a3
    have z1 := size_of hr1
    have z2 := size_of hr2
    have lt1 : l1 < s₁.heap.objs.size := Heap.lt_size (cut_of hl1).2
    have lt2 : l2 < s₁.heap.objs.size := Heap.lt_size (cut_of hl2).2
    refine call_zip_2 (isList_of hl1) (isList_of hl2) fun h₂ hz hTI hTO hi1 hi2 hsz keep₂ => ?_
    refine wpAny_pyIter_zip hz ?_
    refine wpAny_newObj_type ?_
    refine wp_compEnv ?_
    rw [nocell, nopush]
    obtain ⟨m, hm⟩ : ∃ m, s₁.heap.objs.size = m := ⟨_, rfl⟩
    rw [hm] at hz hTI hTO hi1 hi2 hsz lt1 lt2
    have hC : (h₂.push { cls := .type "list", data := .seq ([] : List Value).toArray }).objs.size = m + 6 := by rw [Heap.size_push, hsz]
    let h₃ := (h₂.push { cls := .type "list", data := .seq ([] : List Value).toArray }).push { cls := .type "dict", data := .dict #[] }
    have k3 : ∀ b o, h₂.get? b = some o → h₃.get? b = some o := fun b o e => Heap.get?_push_of_some _ (Heap.get?_push_of_some _ e)
    have ex : Ext s { s₁ with heap := h₃ } := e₁.trans (ext_of_keep fun b o e => k3 b o (keep₂ b o e))
    have big : ∀ n, m ≤ n → s.heap.get? n = none := fun n hn => by
      cases e : s.heap.get? n with
      | none => rfl
      | some o => exact absurd (Heap.lt_size (e₁.all _ _ e)) (by rw [hm]; exact Nat.not_lt.mpr hn)
    have hD3 : h₃.get? (m + 5) = some { cls := .type "list", data := .seq ([] : List Value).toArray } := by rw [← hsz]; exact Heap.get?_push_of_some _ (Heap.get?_push_size _ rfl)
    have hC3 : h₃.Ns (m + 6) fun _ => none := by
      have := Heap.Ns.new (h₂.push { cls := .type "list", data := .seq ([] : List Value).toArray }) (.type "dict")
      rw [hC] at this; exact this
    have ap : ZipApart (m + 4) (m + 2) (m + 3) m (m + 1) l1 l2 := by
      have e : ∀ i j : Nat, i ≠ j → (m + i : Nat) ≠ m + j := fun i j h => by omega
      have e0 : ∀ i : Nat, 0 < i → (m : Nat) ≠ m + i := fun i h => by omega
      have el : ∀ (l : Nat) (i : Nat), l < m → l ≠ m + i := fun l i h => by omega
      have el0 : ∀ (l : Nat), l < m → l ≠ m := fun l h => by omega
      exact ⟨e _ _ (by decide), e _ _ (by decide), e0 _ (by decide), e _ _ (by decide), e _ _ (by decide), Ne.symm (e0 _ (by decide)), e _ _ (by decide), Ne.symm (e0 _ (by decide)), e _ _ (by decide), e0 _ (by decide), el _ _ lt1, el _ _ lt1, el0 _ lt1, el _ _ lt1, el _ _ lt2, el _ _ lt2, el0 _ lt2, el _ _ lt2⟩
    have five : ∀ b ∈ [m + 4, m + 2, m + 3, m, m + 1], m ≤ b ∧ b < m + 5 := fun b hb => by
      simp only [List.mem_cons, List.not_mem_nil, or_false] at hb
      rcases hb with q | q | q | q | q <;> subst q <;> exact ⟨by omega, by omega⟩
    have there : ∀ b ∈ [m + 4, m + 2, m + 3, m, m + 1], ∃ o, h₂.get? b = some o := fun b hb => by
      obtain ⟨oa, q4, _⟩ := id hi1
      obtain ⟨oc, q5, _⟩ := id hi2
      simp only [List.mem_cons, List.not_mem_nil, or_false] at hb
      rcases hb with q | q | q | q | q <;> subst q
      · exact ⟨_, hz⟩
      · exact ⟨_, hTI⟩
      · exact ⟨_, hTO⟩
      · exact ⟨_, q4⟩
      · exact ⟨_, q5⟩
    have hDz : m + 5 ∉ [m + 4, m + 2, m + 3, m, m + 1] := fun q => absurd (five _ q).2 (Nat.lt_irrefl _)
    let ob : Addr → Obj := fun b => (h₂.get? b).getD { cls := .none, data := .plain }
    have ob2 : ∀ b ∈ [m + 4, m + 2, m + 3, m, m + 1], h₂.get? b = some (ob b) := fun b hb => by
      obtain ⟨o, ho⟩ := there b hb
      show h₂.get? b = some ((h₂.get? b).getD _); rw [ho]; rfl
    have lo : ∀ b o, cut (vw s₁) F.X b = some o → cut (fun b => h₃.get? b) ([m + 6] ++ ([m + 4, m + 2, m + 3, m, m + 1, m + 5] ++ F.X)) b = some o := fun b o q => by
      have hb := cut_of q
      have hlt : b < m := by rw [← hm]; exact Heap.lt_size hb.2
      refine cut_mk (fun r => ?_) (k3 _ _ (keep₂ _ _ hb.2))
      rcases List.mem_append.mp r with r | r
      · have : b = m + 6 := by simpa using r
        exact absurd hlt (by rw [this]; exact Nat.not_lt.mpr (Nat.le_add_right _ _))
      · rcases List.mem_append.mp r with r | r
        · rcases List.mem_append.mp (show b ∈ [m + 4, m + 2, m + 3, m, m + 1] ++ [m + 5] from r) with r | r
          · exact absurd hlt (Nat.not_lt.mpr (five b r).1)
          · have : b = m + 5 := by simpa using r
            exact absurd hlt (by rw [this]; exact Nat.not_lt.mpr (Nat.le_add_right _ _))
        · exact hb.1 r
    have St' : (F.cf scope [] (m + 6) [] s [m + 4, m + 2, m + 3, m, m + 1, m + 5] (pnZ (m + 5) ob []) (gpZ l1 l2 xs ys n1 n2 ds1 ds2)).St [] { s₁ with heap := h₃ } := by
      refine comp_StG S ex kind (fun z hz => ?_) ⟨_, hC3⟩ (fun x cc hx => nomatch hx) .nil (fun a ha => ?_) (fun a ha => ?_) ?_ .nil
      · have : z = m + 6 := by simpa using hz
        subst this; obtain ⟨o, _, _, ho, _⟩ := id hC3; exact ⟨big _ (Nat.le_add_right _ _), o, ho⟩
      · have hb : m ≤ a ∧ a < m + 6 := by
          rcases List.mem_append.mp (show a ∈ [m + 4, m + 2, m + 3, m, m + 1] ++ [m + 5] from ha) with r | r
          · exact ⟨(five a r).1, Nat.lt_succ_of_lt (five a r).2⟩
          · have : a = m + 5 := by simpa using r
            subst this; exact ⟨Nat.le_add_right _ _, Nat.lt_succ_self _⟩
        refine ⟨fun r => ?_, big _ hb.1⟩
        have : a = m + 6 := by simpa using r
        exact absurd hb.2 (by rw [this]; exact Nat.lt_irrefl _)
      · rcases List.mem_append.mp (show a ∈ [m + 4, m + 2, m + 3, m, m + 1] ++ [m + 5] from ha) with r | r
        · have haD : a ≠ m + 5 := fun q => hDz (q ▸ r)
          exact ⟨ob a, k3 _ _ (ob2 a r), by unfold pnZ; rw [if_neg haD]; rfl⟩
        · have : a = m + 5 := by simpa using r
          subst this; exact ⟨_, hD3, by unfold pnZ; rw [if_pos rfl]; exact ⟨_, _, rfl, .nil⟩⟩
      · exact ⟨lo _ _ hl1, lo _ _ hl2, RdAll.mono lo hr1, RdAll.mono lo hr2⟩
    have hmin : min xs.size ys.size = min ds1.length ds2.length := by rw [z1, z2]
    have loop : codeAny F.M F.A (.compLoop (.ListComp elt [⟨.Tuple [.Name x p1, .Name y p2] kk tp, .Call (.Name "zip" zp) [e1, e2] [] zpos, [], 0⟩] scope pos) 0 (.ref (m + 4)) (.ref (m + 5)) (compEnvC scope [] (m + 6) F.env)) (compPost F.M F.A E use Q (.ref (m + 5)) (m + 6)) { s₁ with heap := h₃ } := by
      refine zip_loop (e := e) S.room.1 ap hDz (by rw [hmin]; exact hn) (fun _ => hkx) hky (fun C s2 Z pn G i hi => helt C s2 Z pn G i (hmin ▸ hi)) St' (fun h q1 q2 q3 => ?_) (fun s' S' => ?_)
      · have g : ∀ b ∈ [m + 4, m + 2, m + 3, m, m + 1], h.get? b = h₂.get? b := fun b hb => (q1 b hb).trans (ob2 b hb).symm
        refine ⟨(g _ (by simp)).trans hz, (g _ (by simp)).trans hTI, ⟨_, _, (g _ (by simp)).trans hTO⟩, hi1.at fun o e => (g _ (by simp)).trans e, hi2.at fun o e => (g _ (by simp)).trans e, ⟨_, q2, rfl, _, rfl⟩, ⟨_, q3, rfl, _, rfl⟩⟩
      · rw [hmin] at S'
        obtain ⟨e', hC, hCD, hm, hr⟩ := comp_done S S'
        exact h _ _ s' ⟨e', hC, hCD, hm, hr⟩
    have start : codeAny F.M F.A (.compStart (.ListComp elt [⟨.Tuple [.Name x p1, .Name y p2] kk tp, .Call (.Name "zip" zp) [e1, e2] [] zpos, [], 0⟩] scope pos) 0 (.ref (m + 4)) (.ref (m + 5)) (compEnvC scope [] (m + 6) F.env)) (compPost F.M F.A E use Q (.ref (m + 5)) (m + 6)) { s₁ with heap := h₃ } :=
      codeAny_compStart_list loop (wpAny_pyIter_zip (k3 _ _ hz) loop)
    dsimp only
    rw [hC, hm, hsz]
    exact start
end Fm
end Mine

/-! Fw19 -/
namespace Mine
open PySem PySem.Spec PyProof.Rows

abbrev two (elt : Expr) (r a : Str) (p1 p2 p3 : Pos) (iter test : Expr) (scope : Scope) (pos : Pos) : Expr := .ListComp elt [⟨.Name r p1, iter, [], 0⟩, ⟨.Name a p2, .Name r p3, [test], 0⟩] scope pos

theorem turn_two0 (elt : Expr) (r a : Str) (p1 p2 p3 : Pos) (iter test : Expr) (scope : Scope) (pos : Pos) (it acc : Value) (env : Env) :
    compTurn (two elt r a p1 p2 p3 iter test scope pos) 0 it acc env = (do
      standAt iter.pos
      match ← pyNext it with
      | none => pure (.done .next)
      | some v =>
        letOwnedTupleGo (.Name r p1) it v
        assign (.Name r p1) env v
        let x ← eval (.Name r p3) env
        standAt p3
        let x ← foldedSetIterable (.Name r p3) env x
        let _ ← runOwn (.compStart (two elt r a p1 p2 p3 iter test scope pos) 1 (← holding [x] (pyIter x)) acc env) env
        again (.compLoop (two elt r a p1 p2 p3 iter test scope pos) 0 it acc env)) := by rfl
theorem turn_two1 (elt : Expr) (r a : Str) (p1 p2 p3 : Pos) (iter test : Expr) (scope : Scope) (pos : Pos) (it acc : Value) (env : Env) :
    compTurn (two elt r a p1 p2 p3 iter test scope pos) 1 it acc env = (do
      standAt p3
      match ← pyNext it with
      | none => pure (.done .next)
      | some v =>
        letOwnedTupleGo (.Name a p2) it v
        assign (.Name a p2) env v
        let mut ok := true
        for c in [test] do
          if ok then ok ← isTrue c env (eval c env)
        if ok then
          (do let _ ← call (.builtin "list.append") [acc, ← eval elt env])
        again (.compLoop (two elt r a p1 p2 p3 iter test scope pos) 1 it acc env)) := by rfl
theorem start_two1 {w : World} {A : Around} {R : Result → Shared → Prop} {s : Shared} {elt : Expr} {r a : Str} {p1 p2 p3 : Pos} {iter test : Expr} {scope : Scope} {pos : Pos} {it acc : Value} {env : Env}
    (h0 : codeAny (model PP w) A (.compLoop (two elt r a p1 p2 p3 iter test scope pos) 1 it acc env) R s)
    (h : ∀ E, wpAny (model PP w) A (pyIter it) (fun it' s' => codeAny (model PP w) A (.compLoop (two elt r a p1 p2 p3 iter test scope pos) 1 it' acc env) R s') E s) :
    codeAny (model PP w) A (.compStart (two elt r a p1 p2 p3 iter test scope pos) 1 it acc env) R s := by
  refine codeAny_of_tree ?_
  show wpAny _ _ ((compStart (two elt r a p1 p2 p3 iter test scope pos) 1 it acc env).onRaise (fun x => do noteFrame x env; standAt theWindowsPlace)) _ _ s
  refine wpAny_notedAt ?_
  unfold compStart
  show wpAny _ _ (ask >>= _) _ _ s
  refine wpAny_bind (wpAny_askSetting (wpAny_ite ?_))
  split
  · first
      | exact wpAny_bind (wpAny_pure (wpAny_pure (And.intro rfl h0)))
      | exact wpAny_pure (And.intro rfl h0)
  · first
      | exact wpAny_bind (wpAny_rule (wpAny_bind (wpAny_standAt (wpAny_bind (wpAny_mono (h _) (fun it' s' h' => wpAny_pure (And.intro rfl h')) fun _ _ x => x)))))
      | (refine wpAny_bind (wpAny_rule ?_); show wpAny _ _ (standAt p3 >>= _) _ _ s; exact wpAny_bind (wpAny_standAt (wpAny_bind (wpAny_mono (h _) (fun it' s' h' => wpAny_pure (And.intro rfl h')) fun _ _ x => x))))

namespace Fm
variable {F : Fm} {ρ : List (Str × Ty)} {s s' : Shared}

theorem two_inner {F : Fm} {ρ : List (Str × Ty)} {s : Shared} {elt : Expr} {r a : Str} {p1 p2 p3 : Pos} {iter test : Expr} {scope : Scope} {pos : Pos} {acc : Value} {I2 : Addr} {ds : List PyData} {G2 : Gp} {C2 : Nat → Obj → Prop} {R : Result → Shared → Prop} (hI2 : I2 ∉ F.Z)
    (hk : F.env.kindOf a = some .local) (wk : Wk F.w F.A I2 ds.length (fun i => tD (ds.getD i .none)) G2 C2) (S : (F.add I2 (pnO (C2 0)) G2).St ρ s)
    (htest : ∀ i P, i < ds.length → (F.add I2 P G2).Ts ((a, tD (ds.getD i .none)) :: ρ) test false) (hback : ∀ x T U, ρ.lookup x = some T → ((a, U) :: ρ).lookup x = some T)
    (hend : ∀ s', F.St ρ s' → R (.ok .next) s') : codeAny F.M F.A (.compLoop (two elt r a p1 p2 p3 iter test scope pos) 1 (.ref I2) acc F.env) R s := by
  refine codeAny_loop rfl (fun k s => ∃ j, j ≤ ds.length ∧ k = ds.length - j ∧ (F.add I2 (pnO (C2 j)) G2).St ρ s) ?_ ds.length ⟨0, Nat.zero_le _, rfl, S⟩
  rintro k s ⟨j, hj, rfl, S⟩
  show wpAny _ F.A ((compTurn (two elt r a p1 p2 p3 iter test scope pos) 1 (.ref I2) acc F.env).onRaise (fun x => do noteFrame x F.env; theTreesLotGoes x)) _ _ s
  refine wpAny_noted ?_
  rw [turn_two1]
  refine wpAny_bind (wpAny_standAt (wpAny_bind ?_))
  have g1 : G2.P (vw s) := G2.mono _ _ (cut_le _ _) S.ghost.2
  have g2 : ∃ o, s.heap.get? I2 = some o ∧ C2 j o := by
    obtain ⟨o, h1, h2⟩ := S.pinned I2 (List.mem_cons_self ..)
    exact ⟨o, h1, by simpa [add, pnO] using h2⟩
  by_cases hlt : j < ds.length
  · refine wk.item j s hlt g1 g2 _ _ fun v s₂ e₂ hC' hv => ?_
    have S₂ := S.repin (P := pnO (C2 (j + 1))) (List.mem_cons_self ..) e₂ hC'
    have S₂ : (F.add I2 (pnO (C2 (j + 1))) G2).St ρ s₂ := by
      have := S₂.congrPn (pn := (F.add I2 (pnO (C2 (j + 1))) G2).pn) (fun a ha => by
        by_cases haI : a = I2
        · subst haI; simp [setPin, add]
        · simp [setPin, add, haI])
      exact this
    refine wpAny_bind (wpAny_of_eq (a := ()) rfl ?_)
    refine wpAny_bind (wpAny_assign_Name (wp_store (F := F.add I2 (pnO (C2 (j + 1))) G2) (T := tD (ds.getD j .none)) S₂ (hv _ S₂.ghost.2) hk fun s₃ S₃ _ => ?_))
    refine wpAny_bind ?_
    refine Tests.one (htest j (pnO (C2 (j + 1))) hlt) s₃ S₃ _ _ fun s₄ S₄ => ?_
    dsimp only
    rw [if_neg Bool.false_ne_true]
    exact wpAny_pure ⟨rfl, ds.length - (j + 1), by omega, j + 1, hlt, rfl, S₄.weaken fun x T hx => hback x T _ hx⟩
  · have : j = ds.length := by omega
    subst this
    refine wk.done s g1 g2 _ _ fun s₂ hk₂ hos hg ht => ?_
    exact wpAny_pure (hend s₂ (S.leave hI2 hk₂ hos hg ht))

theorem Cmp.twoNone {elt : Expr} {r a : Str} {p1 p2 p3 : Pos} {iter test : Expr} {scope : Scope} {pos : Pos} {n : Nat} {rows : Nat → List PyData} (hsrc : F.Src ρ iter n (fun i => tD (.list (rows i)))) (hra : (r == a) = false)
    (clos : closureFor scope F.env = pure []) (kind : scope.kind = .function) (names : ∀ x ∈ scope.names, x.2 = .local → scope.names.lookup x.1 = some .local) (nocell : ∀ m, cellsFrom m scope.names [] = []) (nopush : ∀ h, pushCells h scope.names = h)
    (hkr : ∀ C s2 Z pn G, (F.cf scope [] C [] s2 Z pn G).env.kindOf r = some .local) (hka : ∀ C s2 Z pn G, (F.cf scope [] C [] s2 Z pn G).env.kindOf a = some .local)
    (hnr : ∀ C s2 Z pn G i, (F.cf scope [] C [] s2 Z pn G).Ev [(r, tD (.list (rows i)))] (.Name r p3) (tD (.list (rows i))))
    (htest : ∀ C s2 Z pn G i j, i < n → j < (rows i).length → (F.cf scope [] C [] s2 Z pn G).Ts [(a, tD ((rows i).getD j .none)), (r, tD (.list (rows i)))] test false)
    (hs : ∀ x, foldedSetIterable iter F.env x = pure x := by intro _; rfl) (hs2 : ∀ C s2 Z pn G x, foldedSetIterable (.Name r p3) (F.cf scope [] C [] s2 Z pn G).env x = pure x := by intros; rfl) :
    F.Cmp ρ elt [⟨.Name r p1, iter, [], 0⟩, ⟨.Name a p2, .Name r p3, [test], 0⟩] scope pos [] := fun s S E use Q h => by
  refine wpAny_comprehension_free (cl := []) rfl hs clos kind names ?_
  refine hsrc s S E _ fun I s₁ G K e₁ hI wk hK hG => ?_
  refine wpAny_newObj_type ?_
  refine wp_compEnv ?_
  rw [nocell, nopush]
  have St' := comp_St (ρ' := []) S e₁ hI hK hG (.nil : ClOk F.env []) kind (.nil : Fv F (compEnvC scope [] (s₁.heap.objs.size + 1) F.env) ρ [])
  have hDI : s₁.heap.objs.size ≠ I := by obtain ⟨o, ho, _⟩ := hK; exact Nat.ne_of_gt (Heap.lt_size ho)
  have hC : (s₁.heap.push { cls := .type "list", data := .seq ([] : List Value).toArray }).objs.size = s₁.heap.objs.size + 1 := Heap.size_push ..
  dsimp only
  let fr : Nat → Fm := fun i => F.cf scope [] (s₁.heap.objs.size + 1) [] s [I, s₁.heap.objs.size] (fun a => if a = I then pnO (K i) else pnList []) G
  have loop : codeAny F.M F.A (.compLoop (two elt r a p1 p2 p3 iter test scope pos) 0 (.ref I) (.ref s₁.heap.objs.size) (compEnvC scope [] (s₁.heap.objs.size + 1) F.env)) (compPost F.M F.A E use Q (.ref s₁.heap.objs.size) (s₁.heap.objs.size + 1))
      { s₁ with heap := (s₁.heap.push { cls := .type "list", data := .seq ([] : List Value).toArray }).push { cls := .type "dict", data := .dict #[] } } := by
    refine codeAny_loop rfl (fun k s' => ∃ i, i ≤ n ∧ k = n - i ∧ (fr i).St [] s') ?_ n ⟨0, Nat.zero_le _, rfl, St'⟩
    rintro k s' ⟨i, hi, rfl, Si⟩
    show wpAny _ F.A ((compTurn (two elt r a p1 p2 p3 iter test scope pos) 0 (.ref I) (.ref s₁.heap.objs.size) (compEnvC scope [] (s₁.heap.objs.size + 1) F.env)).onRaise (fun x => do noteFrame x (compEnvC scope [] (s₁.heap.objs.size + 1) F.env); theTreesLotGoes x)) _ _ s'
    refine wpAny_noted ?_
    rw [turn_two0]
    refine wpAny_bind (wpAny_standAt (wpAny_bind ?_))
    have g1 : G.P (vw s') := G.mono _ _ (cut_le _ _) Si.ghost
    have g2 : ∃ o, s'.heap.get? I = some o ∧ K i o := by
      obtain ⟨o, h1, h2⟩ := Si.pinned I (List.mem_cons_self ..)
      exact ⟨o, h1, by simpa [fr, cf, pnO] using h2⟩
    by_cases hlt : i < n
    · refine wk.item i s' hlt g1 g2 _ _ fun v s₂ e₂ hC' hv => ?_
      have S₂ := Si.repin (P := pnO (K (i + 1))) (a := I) (List.mem_cons_self ..) e₂ hC'
      have S₂ : (fr (i + 1)).St [] s₂ := by
        have := S₂.congrPn (pn := (fr (i + 1)).pn) (fun a ha => by
          by_cases haI : a = I
          · subst haI; simp [setPin, fr, cf]
          · simp [setPin, fr, cf, haI])
        exact this
      refine wpAny_bind (wpAny_of_eq (a := ()) rfl ?_)
      refine wpAny_bind (wpAny_assign_Name (wp_store (F := fr (i + 1)) (T := tD (.list (rows i))) S₂ (hv _ S₂.ghost) (hkr _ _ _ _ _) fun s₃ S₃ _ => ?_))
      have src := Src.list (F := fr (i + 1)) (hnr (s₁.heap.objs.size + 1) s [I, s₁.heap.objs.size] (fun a => if a = I then pnO (K (i + 1)) else pnList []) G i)
      refine wpAny_bind (wpAny_mono (src s₃ S₃ (notedBy F.M F.A (compEnvC scope [] (s₁.heap.objs.size + 1) F.env) fun e s' => compPost F.M F.A E use Q (.ref s₁.heap.objs.size) (s₁.heap.objs.size + 1) (.error e) s') (fun v s₄ => ∃ I2 G2 C2, v = .ref I2 ∧ (Ext s₃ s₄ ∧ s₃.heap.get? I2 = none ∧ Wk F.w F.A I2 (rows i).length (fun j => tD ((rows i).getD j .none)) G2 C2 ∧ (∃ o, s₄.heap.get? I2 = some o ∧ C2 0 o) ∧ G2.P (cut (vw s₄) ((fr (i + 1)).Y ++ ((I2 :: (fr (i + 1)).Z) ++ (fr (i + 1)).Xo))))) fun I2 s₄ G2 C2 q1 q2 q3 q4 q5 => ⟨I2, G2, C2, rfl, q1, q2, q3, q4, q5⟩) (fun x s₄ hx => ?_) fun _ _ x => x)
      refine wpAny_bind (wpAny_standAt (wpAny_bind (wpAny_of_eq (hs2 (s₁.heap.objs.size + 1) s [] (fun _ => pnAny) gpTrue x) (wpAny_bind (wpAny_holding (wpAny_mono hx (fun it s₅ h₅ => ?_) fun _ _ x => x))))))
      obtain ⟨I2, G2, C2, rfl, q1, q2, q3, q4, q5⟩ := h₅
      have hI2Z : I2 ∉ (fr (i + 1)).Z := fun hz => by
        obtain ⟨o, ho, _⟩ := S₃.pinned I2 hz
        rw [q2] at ho; cases ho
      obtain ⟨o₀, ho₀, hC₀⟩ := q4
      have S₅ : ((fr (i + 1)).add I2 (pnO (C2 0)) G2).St [(r, tD (.list (rows i)))] s₅ := S₃.pin q1 q2 ⟨o₀, ho₀, hC₀⟩ q5
      have inner : codeAny F.M F.A (.compLoop (two elt r a p1 p2 p3 iter test scope pos) 1 (.ref I2) (.ref s₁.heap.objs.size) (compEnvC scope [] (s₁.heap.objs.size + 1) F.env)) (fun q s' => match q with | .ok f => wpAny F.M F.A (again (.compLoop (two elt r a p1 p2 p3 iter test scope pos) 0 (.ref I) (.ref s₁.heap.objs.size) (compEnvC scope [] (s₁.heap.objs.size + 1) F.env))) (fun fin s' => match fin with | .done f => compPost F.M F.A E use Q (.ref s₁.heap.objs.size) (s₁.heap.objs.size + 1) (.ok f) s' | .again c' => c' = .compLoop (two elt r a p1 p2 p3 iter test scope pos) 0 (.ref I) (.ref s₁.heap.objs.size) (compEnvC scope [] (s₁.heap.objs.size + 1) F.env) ∧ ∃ m, m < n - i ∧ ∃ i, i ≤ n ∧ m = n - i ∧ (fr i).St [] s') (notedBy F.M F.A (compEnvC scope [] (s₁.heap.objs.size + 1) F.env) fun e s' => compPost F.M F.A E use Q (.ref s₁.heap.objs.size) (s₁.heap.objs.size + 1) (.error e) s') s' | .error e => cameBackBy F.M F.A (compEnvC scope [] (s₁.heap.objs.size + 1) F.env) (notedBy F.M F.A (compEnvC scope [] (s₁.heap.objs.size + 1) F.env) fun e s' => compPost F.M F.A E use Q (.ref s₁.heap.objs.size) (s₁.heap.objs.size + 1) (.error e) s') e s') s₅ := by
        refine two_inner (F := fr (i + 1)) hI2Z (hka _ _ _ _ _) q3 S₅ (fun j P hj => htest _ _ _ _ _ i j hlt hj) (fun x T U hx => ?_) (fun s₆ S₆ => wpAny_pure ⟨rfl, n - (i + 1), by omega, i + 1, hlt, rfl, S₆.weaken fun _ _ h => nomatch h⟩)
        rw [List.lookup_cons] at hx
        cases hb : x == r with
        | false => rw [hb] at hx; cases hx
        | true =>
          rw [hb] at hx
          rw [List.lookup_cons, show (x == a) = false from by rw [eq_of_beq hb]; exact hra, List.lookup_cons, hb]; exact hx
      refine wpAny_bind (wpAny_runOwn ?_)
      refine start_two1 inner fun E' => q3.self 0 s₅ (G2.mono _ _ (cut_le _ _) q5) ⟨o₀, ho₀, hC₀⟩ E' _ inner
    · have : i = n := by omega
      subst this
      refine wk.done s' g1 g2 _ _ fun s₂ hk₂ hos hg ht => wpAny_pure ?_
      have S9 : ((F.cf scope [] (s₁.heap.objs.size + 1) [] s [s₁.heap.objs.size] (fun _ => pnList []) gpTrue).add I (pnO (K i)) G).St [] s' := by
        have := Si.congrPn (pn := fun a => if a = I then pnO (K i) else pnList []) (fun a ha => rfl)
        exact { this with ghost := ⟨trivial, this.ghost⟩ }
      have S8 := S9.leave (s' := s₂) (by simp [cf, Ne.symm hDI]) hk₂ hos hg ht
      obtain ⟨e', hC, hCD, hm, hr⟩ := comp_done S S8
      exact h _ _ s₂ ⟨e', hC, hCD, hm, hr⟩
  have start : codeAny F.M F.A (.compStart (two elt r a p1 p2 p3 iter test scope pos) 0 (.ref I) (.ref s₁.heap.objs.size) (compEnvC scope [] (s₁.heap.objs.size + 1) F.env)) (compPost F.M F.A E use Q (.ref s₁.heap.objs.size) (s₁.heap.objs.size + 1))
      { s₁ with heap := (s₁.heap.push { cls := .type "list", data := .seq ([] : List Value).toArray }).push { cls := .type "dict", data := .dict #[] } } := by
    refine codeAny_compStart_list loop (wk.self 0 _ (G.mono _ _ (cut_le _ _) St'.ghost) ?_ _ _ loop)
    obtain ⟨o, h1, h2⟩ := St'.pinned I (List.mem_cons_self ..)
    exact ⟨o, h1, by simpa [cf, pnO] using h2⟩
  rw [hC]
  exact start
end Fm
end Mine

/-! Fw20 -/
namespace Mine
open PySem PySem.Spec PyProof.Rows
namespace Fm
variable {F : Fm} {ρ : List (Str × Ty)} {s s' : Shared}

theorem Ev.isBool {np bp pos : Pos} {e : Expr} {b : Bool} (h : F.Ev ρ e (tB b)) (hk : F.env.kindOf "isinstance" = some .globalImplicit := by rfl) (hk' : F.env.kindOf "bool" = some .globalImplicit := by rfl)
    (hs : starEach [e, .Name "bool" bp] F.env = (false, eval e F.env) :: starEach [.Name "bool" bp] F.env := by rfl) : F.Ev ρ (.Call (.Name "isinstance" np) [e, .Name "bool" bp] [] pos) (tB true) :=
  Ev.bcall (Us := [tB b, tV (.type "bool")]) PyProof.Rows.boot_isinstance (Evs.cons h (Evs.cons (fun s S E Q k => wp_biName S PyProof.Rows.boot_bool (k _ s (.refl _ _) S rfl) (hk := hk')) .nil) hs) (fun s S vs hvs E Q k => by
    cases hvs with
    | cons h1 h2 => cases h2 with
      | cons h3 h4 =>
        cases h4
        obtain rfl := Rd.bool_inv h1
        have h3 : _ = Value.type "bool" := h3
        subst h3
        exact call_isinstance_yes (Tx := "bool") rfl (by kernel_rfl) (by rw [isSubtype_type]; kernel_rfl) (k _ s (.refl _ _) (.bool _))) (hk := hk) (hs := hs)

theorem any_bools (bs : List Bool) : (bs.map PyData.bool).any (fun y => PyData.eqv y (.bool false)) = bs.any (fun b => !b) := by
  rw [List.any_map]; congr 1
  funext b; cases b <;> decide
theorem canLay_bools (bs : List Bool) : PyData.canLayAll0 (bs.map PyData.bool) = true := by
  induction bs with
  | nil => rfl
  | cons b bs ih => simp only [List.map_cons, PyData.canLayAll0, PyData.canLay0, ih, Bool.and_self]
theorem Cm.notIn_bools {bs : List Bool} : F.Cm ρ .NotIn (tB false) (tD (.list (bs.map .bool))) (!(bs.any fun b => !b)) := fun s S a c ha hc E Q k => by
  obtain ⟨as, r1⟩ := Rd.reads (cut_le _ _) hc
  obtain ⟨cs, r2⟩ := Rd.reads (cut_le _ _) ha
  refine PySem.SeqAt.notIn_list_reads r1 r2 (canLay_bools bs) rfl ?_ (by rw [any_bools]; exact k s (.refl _ _))
  have := S.room.units
  have h9 : min (PyData.depthAll (bs.map PyData.bool)) (PyData.bool false).depth ≤ (PyData.bool false).depth := Nat.min_le_right _ _
  have h8 : (PyData.bool false).depth = 0 := by simp [PyData.depth]
  omega
end Fm

/-- the manager -/
def tMgr : Ty := ⟨fun V v => ∃ x dx od, v = .ref x ∧ V x = some (W.instObj 67 dx) ∧ V dx = some od ∧ W.shadowIn (some od) "is_suburi" = some false, fun _ _ _ h ⟨x, dx, od, e, h1, h2, h3⟩ => ⟨x, dx, od, e, h _ _ h1, h _ _ h2, h3⟩⟩

namespace Fm
variable {F : Fm} {ρ : List (Str × Ty)} {s s' : Shared}

theorem Ev.mgrCall {mp apos pos : Pos} {b t : Expr} {h p h' p' : Str} (hm : F.Ev ρ (.Name "manager" mp) tMgr) (hb : F.Ev ρ b (tD (pairD h p))) (ht : F.Ev ρ t (tD (pairD h' p'))) (hn : 1 ≤ F.n)
    (hp : p.length ≤ 1000) (hp' : p'.length ≤ 1000) (o1 : PyData.strOk h = true) (o2 : PyData.strOk p = true) (o3 : PyData.strOk h' = true) (o4 : PyData.strOk p' = true)
    (hbase : attributeBase (.Name "manager" mp) "is_suburi" F.env (eval (.Name "manager" mp) F.env) = eval (.Name "manager" mp) F.env := by rfl)
    (hfew : ((backTo pos (starEach [b, t] F.env)).all (fun x => !x.1) && (backToKw pos (keywordEach [] F.env)).all (fun x => x.1.isSome)
      && decide ([b, t].length + ([] : List Keyword).length + (if ([] : List Keyword).isEmpty then 0 else 1) < 30)) = true := by rfl)
    (hline : (apos.endLine == pos.line) = true := by rfl)
    (hs : starEach [b, t] F.env = (false, eval b F.env) :: starEach [t] F.env := by rfl) (hs' : starEach [t] F.env = (false, eval t F.env) :: starEach [] F.env := by rfl) :
    F.Ev ρ (.Call (.Attribute (.Name "manager" mp) "is_suburi" apos) [b, t] [] pos) (tB (suburi h p h' p')) := fun s S E Q k => by
  rw [arm_eval_Call, hbase]
  refine wpAny_bind (hm s S E _ fun ov s₁ e₁ S₁ hv => ?_)
  obtain ⟨x, dx, od, rfl, h1, h2, h3⟩ := id hv
  refine wpAny_bind (wpAny_standAt ?_)
  have hform : methodCallForm ([b, t].length + ([] : List Keyword).length) (backTo pos (starEach [b, t] F.env)) (backToKw pos (keywordEach [] F.env)) = true := hfew
  have hpos : methodCallPos true (.Name "manager" mp) F.env apos pos = pure pos := by unfold methodCallPos; simp [hline]
  unfold methodCall
  rw [hform]
  obtain ⟨K, ok, X⟩ := S₁.g.kin
  have I : W.InstAt s₁.heap x (W.instObj 67 dx) 67 (some od) := ⟨(cut_of h1).2, rfl, rfl, (cut_of h2).2⟩
  refine wpAny_bind (wpAny_holding (W.method_fn X I ok.getA ok.getH ok.meth ok.methT h3 ?_))
  refine wpAny_bind (wpAny_of_eq hpos ?_)
  refine W.callWith_K (K := K) X ok.keepM (Evs.cons hb (Evs.cons ht .nil hs') hs pos s₁ S₁ E _ fun vs s₂ e₂ S₂ hvs => ⟨X.keeps e₂.all, ?_⟩) hs (by rw [hs']; rfl)
  exact fn_suburi (T := tMgr) hp hp' o1 o2 o3 o4 F.A s₂ F.X (.ref x :: vs) (S.room.less hn) S₂.g S₂.toks S₂.domAll (.cons (tMgr.mono _ _ _ (cut_mono _ e₂.le) hv) hvs) E Q fun v s' e' hv => k v s' ((e₁.trans e₂).trans e') (S₂.ext e') hv

/-- HTTPPasswordMgr() -/
theorem Ev.mgr {np pos : Pos} (hn : 1 ≤ F.n) (hk : F.env.kindOf "HTTPPasswordMgr" = some .globalImplicit := by rfl) : F.Ev ρ (.Call (.Name "HTTPPasswordMgr" np) [] [] pos) tMgr := fun s S E Q k => by
  refine PyProof.Rows.Call_ (wp_fnName S S.g.cls ?_ hk (by decide)) rfl
  obtain ⟨K, ok, X⟩ := S.g.kin
  refine W.callWith_K0 X ok.keepC ?_
  show wpAny F.M F.A (PySem.call (.ref 67) []) Q E s
  obtain ⟨o, pm, doc, h1, h2⟩ := ok.initO (_, _, _, _) rfl
  refine wpAny_call ?_
  obtain ⟨hp, gs, dr, tk, os⟩ := s
  refine W.make_core (W.makes_of X ok.makes) (W.looks_findIn X ok.init) (fun self => W.bind_fn X self ok.initT) (.inl rfl) ?_
  have kk : ∀ b o, hp.get? b = some o → ((hp.push W.emptyDict).push (W.instObj 67 hp.objs.size)).get? b = some o := fun b o e => Heap.get?_push_of_some _ (Heap.get?_push_of_some _ e)
  have X1 := X.keeps kk
  have hz : (hp.push W.emptyDict).objs.size = hp.objs.size + 1 := Heap.size_push ..
  have hz2 : ((hp.push W.emptyDict).push (W.instObj 67 hp.objs.size)).objs.size = hp.objs.size + 1 + 1 := by rw [Heap.size_push, hz]
  refine call_plainQ (nm := "__init__") (q := "HTTPPasswordMgr.__init__") (binds := [("self", .ref (hp.objs.size + 1))]) ?_ (X1 _ _ h1) h2 (S.g.nolimit.keeps kk) (W.codeRec_of X1 ok.initC) rfl (fun x hx => by simp at hx; subst hx; rfl) (fun h₁ F₁ => ?_)
  · have := S.room.depth
    have e0 : (Code.builtin "type.__call__" { pos := [Value.ref 67] }).weight = 1 := by kernel_rfl
    show F.A.depth + (Code.builtin "type.__call__" { pos := [Value.ref 67] }).weight < recursionLimit
    have := S.room.2.1
    rw [e0]; omega
  dsimp only at F₁
  have gx : h₁.get? (hp.objs.size + 1) = some (W.instObj 67 hp.objs.size) := F₁.keep _ _ (by rw [← hz]; exact Heap.get?_push_size _ rfl)
  have gd : h₁.get? hp.objs.size = some W.emptyDict := F₁.keep _ _ (Heap.get?_push_of_some _ (Heap.get?_push_size _ rfl))
  refine wpAny_execs_cons (plainObj_wpAny_Assign_Attribute (wpAny_Dict_empty (wpAny_Name (wpAny_loadName_local rfl rfl (F₁.ns.keeps fun b o e => Heap.get?_push_of_some _ e) rfl ?_))) rfl)
  have k2 : ∀ b o, hp.get? b = some o → (h₁.push { cls := .type "dict", data := .dict #[] }).get? b = some o := fun b o e => Heap.get?_push_of_some _ (F₁.keep _ _ (kk b o e))
  have Ff : Fr hp ((hp.push W.emptyDict).push (W.instObj 67 hp.objs.size)).objs.size (h₁.push { cls := .type "dict", data := .dict #[] }) (fun x => [(Str.ofString "self", Value.ref (hp.objs.size + 1))].reverse.lookup x) := ⟨F₁.ns.keeps fun b o e => Heap.get?_push_of_some _ e, k2, by rw [hz2]; exact Nat.le_trans (Nat.le_succ _) (Nat.le_succ _)⟩
  have nn : ∀ n, hp.objs.size ≤ n → hp.get? n = Option.none := fun n hn => by
    cases e : hp.get? n with
    | none => rfl
    | some o => exact absurd (Heap.lt_size e) (Nat.not_lt.mpr hn)
  have N : News hp ((hp.push W.emptyDict).push (W.instObj 67 hp.objs.size)).objs.size (h₁.push { cls := .type "dict", data := .dict #[] }) ([] ++ (hp.objs.size, W.emptyDict) :: [(hp.objs.size + 1, W.instObj 67 hp.objs.size)]) := fun p hp' => by
    rw [hz2]
    rcases List.mem_cons.mp hp' with q | q
    · subst q; exact ⟨Heap.get?_push_of_some _ gd, Nat.ne_of_lt (Nat.lt_succ_of_lt (Nat.lt_succ_self _)), nn _ (Nat.le_refl _)⟩
    · have : p = (hp.objs.size + 1, W.instObj 67 hp.objs.size) := by simpa using q
      subst this; exact ⟨Heap.get?_push_of_some _ gx, Nat.ne_of_lt (Nat.lt_succ_self _), nn _ (Nat.le_succ _)⟩
  have I : W.InstAt (h₁.push { cls := .type "dict", data := .dict #[] }) (hp.objs.size + 1) (W.instObj 67 hp.objs.size) 67 (some W.emptyDict) := ⟨Heap.get?_push_of_some _ gx, rfl, rfl, Heap.get?_push_of_some _ gd⟩
  refine W.set_plain (X.keeps k2) I ok.setA ?_
  refine W.osa_dict (pre := []) (post := [(hp.objs.size + 1, W.instObj 67 hp.objs.size)]) (es := [⟨PyData.keyHash F.w.params "passwd", .str "passwd" (tk + 1 + 1), .ref h₁.objs.size⟩]) (n := 1) Ff N (X.keeps k2) I rfl ok.over ok.taker ok.hasDict rfl (fun _ h => nomatch h) (fun p hp' => by
    have : p = (hp.objs.size + 1, W.instObj 67 hp.objs.size) := by simpa using hp'
    subst this; exact Nat.ne_of_gt (Nat.lt_succ_self _)) rfl rfl (Nat.le_of_ble_eq_true rfl) fun h' F' N' => ?_
  refine wpAny_execs_nil ?_
  refine ⟨rfl, ?_⟩
  have ex : Ext ⟨hp, gs, dr, tk, os⟩ ⟨h', gs, dr, tk + 1 + 1 + 1, os⟩ := Ext.mk' (s := ⟨hp, gs, dr, tk, os⟩) F'.keep (by show tk ≤ tk + 1 + 1 + 1; omega)
  have nX : ∀ n, hp.objs.size ≤ n → n ∉ F.X := fun n hn q => by
    obtain ⟨o, ho⟩ := S.domAll n q
    have ho : hp.get? n = some o := ho
    rw [nn n hn] at ho; cases ho
  exact k _ _ ex (S.ext ex) ⟨hp.objs.size + 1, hp.objs.size, _, rfl, cut_mk (nX _ (Nat.le_succ _)) (N' _ (.tail _ (.head _))).1, cut_mk (nX _ (Nat.le_refl _)) (N' _ (.head _)).1, rfl⟩
end Fm
end Mine

/-! K3 -/
namespace Mine
open PySem PySem.Spec PyProof.Rows
namespace Fm
variable {F : Fm} {ρ : List (Str × Ty)} {s s' : Shared}

/-- the call of .items() and of list, its object given by a run of any kind -/
theorem wp_itemsCall {np pos apos pos2 : Pos} {c : Expr} {E : Value → Shared → Prop} {Q : Value → Shared → Prop} (S : F.St ρ s)
    (h : wpAny F.M F.A (eval c F.env) (fun v s₁ => ∃ kvs, F.St ρ s₁ ∧ (tDc F.w kvs).P (cut (vw s₁) F.X) v ∧ kvs.length ≤ sizeLine ∧ ∀ v s', Ext s₁ s' → Rd (cut (vw s') F.X) v (kvD kvs) → Q v s') E s)
    (hk : F.env.kindOf "list" = some .globalImplicit := by rfl) (hbase : attributeBase c "items" F.env (eval c F.env) = eval c F.env := by rfl) (hline : (apos.endLine == pos2.line) = true := by rfl) :
    wpAny F.M F.A (eval (.Call (.Name "list" np) [.Call (.Attribute c "items" apos) [] [] pos2] [] pos) F.env) Q E s := by
  refine PyProof.Rows.Call_ (wp_biName S PyProof.Rows.boot_list (PyProof.Rows.callWith_type1 (PyProof.Rows.args_cons ?_ rfl) rfl rfl) (by decide) hk (by decide) (by decide)) rfl
  refine wpAny_Call_method_lateS hbase rfl hline (wpAny_mono h (fun v s₁ h₁ => ?_) fun _ _ e => e)
  obtain ⟨kvs, S₁, hv, hn, k⟩ := h₁
  have hv' := hv
  obtain ⟨a, o, rfl, ho, hm, l, hd, hl⟩ := hv'
  obtain ⟨es, ep, hex, _⟩ := id hd
  refine ⟨"dict", "dict.items", PySem.F.plainAttrs_dict, PySem.F.slot_dict_items, PySem.F.type_dict_items, ⟨o, (cut_of ho).2, hex.1⟩, (fun b e => by cases e; exact ⟨_, (cut_of ho).2, hex.2.1⟩), ?_⟩
  refine Calls.callWith_builtin rfl (PyProof.Rows.evalArgs_none ?_)
  refine wpAny_mono (wp_itemsList S₁ hv hn (Q := Q) (E := E) k) (fun r s₂ h₂ => PyProof.Rows.args_nil h₂) fun _ _ e => e
theorem Ev.itemsList {np pos apos pos2 : Pos} {c : Expr} {kvs : List (Str × Str)} (hc : F.Ev ρ c (tDc F.w kvs)) (hn : kvs.length ≤ sizeLine)
    (hk : F.env.kindOf "list" = some .globalImplicit := by rfl) (hbase : attributeBase c "items" F.env (eval c F.env) = eval c F.env := by rfl) (hline : (apos.endLine == pos2.line) = true := by rfl) :
    F.Ev ρ (.Call (.Name "list" np) [.Call (.Attribute c "items" apos) [] [] pos2] [] pos) (tD (kvD kvs)) := fun s S E Q k =>
  wp_itemsCall S (hc s S E _ fun v s₁ e₁ S₁ hv => ⟨kvs, S₁, hv, hn, fun v s' e' h => k v s' (e₁.trans e') (S₁.ext e') h⟩) hk hbase hline

/-- try: return e -/
theorem wp_tryReturn {pos pos' : Pos} {e : Expr} {h₀ : ExceptHandler} {hs : List ExceptHandler} {T : Ty} {rest : List Stmt} {E : Value → Shared → Prop} {Q : Flow → Shared → Prop} (S : F.St ρ s) (he : F.Ev ρ e T)
    (h : ∀ v s', F.St ρ s' → Ext s s' → T.P (cut (vw s') F.X) v → Q (.ret v) s') : F.Run (.Try [.Return (some e) pos'] (h₀ :: hs) [] [] pos :: rest) Q E s :=
  .mk <| wpAny_execs_cons (wpAny_Try_except (wpAny_execs_cons (wpAny_Return_some (he s S _ _ fun v s₁ e₁ S₁ hv => h v s₁ S₁ e₁ hv))))
end Fm

theorem fn_told {w : World} {mg mb : Str → Option Value} {xs : List Str} (hlen : xs.length ≤ 1000) (hxl : ∀ x ∈ xs, x.length ≤ 1000) (hgood : ∀ x ∈ xs, Good x) : Fn w mg mb 2 "_law_told" [tD (.list (sds xs))] (tD (kvD (kvAll xs))) := by
  refine Fn.intro (List.mem_of_getElem? (i := 10) (show theDefs[10]? = some (_, _, _, _) from rfl)) (xs := ["items"]) rfl ?_ (by decide) (by decide) ?_
  · intro pm cd doc vals hv
    obtain ⟨v, rfl⟩ := vals1 hv; rfl
  intro A a cd s X hr s₁ S
  have hk : (kvAll xs).length ≤ sizeLine := by
    have := kvAt_len xs xs.length
    unfold kvAt at this; rw [List.take_length] at this
    rw [sizeLine_eq]; unfold kvAll; omega
  exact Fm.wp_tryReturn S (Fm.Ev.itemsList (Fm.Ev.call (List.mem_of_getElem? (i := 1) (show theDefs[1]? = some (_, _, _, _) from rfl)) (fn_keqv hlen hxl hgood) (.cons (Fm.Ev.name rfl) .nil) (Nat.le_refl _)) hk) fun v s' S' _ hv => S'.fin hv
end Mine

/-! K4 -/
namespace Mine
open PySem PySem.Spec PyProof.Rows

theorem leave_rz {w : World} {mg mb : Str → Option Value} {n : Nat} {A : Around} {base : Heap} {outer : List Env} {s s' : Shared} {scope : Scope} {name : Str} {a : Addr} {cd e : Value} {X : List Addr} {cls : String} (hk : scope.kind = .function) (B : Below A base outer s.heap)
    (hz : (Fm.fm w mg mb n A name scope a cd s X).Rz cls e s') {E E₁ : Value → Shared → Prop}
    (hE : ∀ e a0 s', Heap.FlyingW base outer e (.type cls) a0 s'.heap → s.heap.UpToSlots s'.heap → s'.os = s.os → GExt s.gens s'.gens → s.toks ≤ s'.toks → E (.ref e) s') :
    wpAny (model PP w) (A.deeper (envOf name scope s.heap.objs.size a cd)) (leaving (envOf name scope s.heap.objs.size a cd) e) (fun _ s'' => E e s'') E₁ s' := by
  obtain ⟨ea, h₂, m, rfl, hk', hns, hx, hos, hg, htk⟩ := hz
  have Ff : Fr s.heap s.heap.objs.size h₂ m := ⟨hns, hk', Nat.le_refl _⟩
  have K' := B.push (name := name) (a := a) (cd := cd) Ff hk
  obtain ⟨ob, tp, he, hcls, hdd⟩ := hx.there
  have hen : base.get? ea = none := by
    cases q : base.get? ea with
    | none => rfl
    | some o => have := K'.stays _ _ q; rw [hx.new] at this; cases this
  refine wpAny_leaving_firstW (base := base) (a0 := tp) K'.stack (K'.frames.of_keeps fun b o hb _ => ⟨o, hx.keeps b o hb, rfl⟩) rfl he (fun b o hb => hx.keeps b o (K'.stays b o hb)) hen hdd rfl rfl fun h' hL => ?_
  obtain ⟨k1, ⟨_, _, k2⟩, k3, k4⟩ := hL
  exact hE ea tp _ ⟨k1, hen, k2, by rw [← hcls]; exact k3⟩ (((Heap.UpToSlots.of_keeps hk').trans (Heap.UpToSlots.of_keeps hx.keeps)).trans k4) hos hg htk

theorem keqv_raises {w : World} {mg mb : Str → Option Value} {a : Addr} {xs : List Str} {j : Nat} {cls : String} (hf : mg "parse_keqv_list" = some (.ref a)) (hlen : xs.length ≤ 1000) (hxl : ∀ x ∈ xs, x.length ≤ 1000)
    (hj : j < xs.length) (hgood : ∀ i, i < j → i < xs.length → Good (xs.getD i "")) (hbad : Bad cls (xs.getD j "")) {A : Around} {s : Shared} {X : List Addr} {vals : List Value} {base : Heap} {outer : List Env} (hr : Room 1 A) (G : Gl mg mb s.heap) (ht : 0 < s.toks)
    (hX : ∀ x ∈ X, ∃ o, s.heap.get? x = some o) (hT : TAll (cut (vw s) X) [tD (.list (sds xs))] vals) (B : Below A base outer s.heap) {E : Value → Shared → Prop} {Q : Value → Shared → Prop}
    (hE : ∀ e a0 s', Heap.FlyingW base outer e (.type cls) a0 s'.heap → s.heap.UpToSlots s'.heap → s'.os = s.os → GExt s.gens s'.gens → s.toks ≤ s'.toks → E (.ref e) s') : wpAny (model PP w) A (PySem.call (.ref a) vals) Q E s := by
  have hd := List.mem_of_getElem? (i := 1) (show theDefs[1]? = some (_, _, _, _) from rfl)
  obtain ⟨a', o, pm, cd, doc, h1, h2, h3, h4⟩ := G.fn _ hd
  have : a' = a := by rw [hf] at h1; cases h1; rfl
  subst this
  cases hT with
  | @cons _ _ v vs hv hvs =>
  cases hvs
  refine wpAny_call (call_plainQ (nm := "parse_keqv_list") (q := "parse_keqv_list") (binds := [("l", v)]) hr.depth h2 h3 G.nolimit h4 rfl (fun x hx => by simp at hx; subst hx; rfl) (fun h₁ F₁ => ?_))
  have ext : Ext s { s with heap := h₁, toks := s.toks + 1 } := Ext.mk' F₁.keep (Nat.le_add_right _ _)
  have hL := Fm.no_top s.heap
  refine wpAny_mono (Fm.Run.wp (keqv_run (w := w) (mg := mg) (mb := mb) (A := A) (a := a') (cd := cd) (s := s) (s₁ := { s with heap := h₁, toks := s.toks + 1 }) (X := X) (j := j) (cls := cls)
    (E := fun e s' => wpAny (model PP w) (A.deeper (envOf "parse_keqv_list" _ s.heap.objs.size a' cd)) (leaving (envOf "parse_keqv_list" _ s.heap.objs.size a' cd) e) (fun _ s'' => E e s'') (fun e' s'' => E e' s'') s')
    rfl hlen hxl hgood (fun _ => hbad) (fun e s' _ hz => ?_) ⟨ext, ?_, ?_, hX, G, hr.deeper _, ht, rfl, rfl, rfl, by simp [Fm.fm, envOf], ⟨_, F₁.ns⟩, ?_, List.Pairwise.nil, ?_, (fun _ ha => nomatch ha), (fun _ ha => nomatch ha), trivial, ?_⟩)) ?_ (fun _ _ x => x)
  · exact PassesOwn.leaving _ _ (leave_rz rfl B hz hE)
  · intro y hy; simp [Fm.fm] at hy; subst hy; exact hL
  · intro y hy; simp [Fm.fm] at hy; subst hy; obtain ⟨o, _, _, ho, _⟩ := F₁.ns; exact ⟨o, ho⟩
  · intro x c hc; simp [Fm.fm, envOf] at hc
  · intro x c hc; simp [Fm.fm, envOf] at hc
  · intro x U hx
    have hyx : x = "l" ∧ U = tD (.list (sds xs)) := by
      rw [List.lookup_cons] at hx
      cases hb : x == Str.ofString "l" with
      | true => rw [hb] at hx; cases hx; exact ⟨eq_of_beq hb, rfl⟩
      | false => rw [hb] at hx; cases hx
    obtain ⟨rfl, rfl⟩ := hyx
    refine ⟨v, Ty.mono _ _ _ _ ?_ hv, .inl ⟨rfl, _, F₁.ns, rfl⟩⟩
    intro b o e
    refine cut_mk (fun hb => ?_) (F₁.keep _ _ (cut_of e).2)
    rcases List.mem_append.mp hb with hb | hb
    · simp [Fm.fm] at hb; subst hb; have h9 : s.heap.get? s.heap.objs.size = some o := (cut_of e).2; rw [h9] at hL; cases hL
    · exact (cut_of e).1 (by simpa [Fm.fm] using hb)
  · rintro fl s' ⟨v, rfl, h5, h6⟩
    exact absurd h5 (Nat.not_le.mpr hj)
end Mine

/-! K5 -/
namespace Mine
open PySem PySem.Spec PyProof.Rows

/-- the name of an exception class, asked in a handler -/
theorem wp_excName {w : World} {A : Around} {env : Env} {base : Heap} {mg mb : Str → Option Value} {x : Str} {v : Value} {pos : Pos} {s : Shared} {E : Value → Shared → Prop} {Q : Value → Shared → Prop} (G : Gl mg mb base) (hb : base.StaysIn s.heap)
    (hv : bootBuiltins x = some v) (hg : env.globals = mainGlobals) (hbi : env.builtins = builtinsNs) (hkind : env.scope.kind = .function) (hk : env.kindOf x = some .globalImplicit) (h : Q v s)
    (hx : x ∈ freeNames := by decide) (hd : (x == ("__debug__" : Str)) = false := by decide) (hn : x ≠ "__name__" := by decide) : wpAny (model PP w) A (eval (.Name x pos) env) Q E s :=
  Calls.Name_function_global hkind hk (Calls.loadGlobal_builtin (by rw [hg]; exact G.g.keeps hb) (G.free x hx) (by rw [hbi]; exact G.b.keeps hb) ((G.builtins x hn).trans hv) h) hd

section
variable {w : World} {A : Around} {env : Env} {base : Heap} {outer : List Env} {e : Addr} {a0 : Value} {s : Shared} {np p kp rp : Pos} {kk : Nat} {rest : List ExceptHandler} {E : Value → Shared → Prop} {Q : Flow → Shared → Prop} {mg mb : Str → Option Value} {x : Str}
/-- except C: return 'C', the class at hand -/
theorem handle_hit {T : String} (G : Gl mg mb base) (hfl : Heap.FlyingW base (env :: outer) e (.type T) a0 s.heap) (hv : bootBuiltins (Str.ofString T) = some (.type T)) (hexc : isSubtype (.type T) (.type "BaseException") = pure true)
    (hnt : isSubtype (.type ((Manifest.find? T).elim "type" fun x => x.metatype)) (.type "tuple") = pure false) (hsub : isSubtype (.type T) (.type T) = pure true)
    (hg : env.globals = mainGlobals) (hbi : env.builtins = builtinsNs) (hkind : env.scope.kind = .function) (hk : env.kindOf (Str.ofString T) = some .globalImplicit)
    (h : ∀ h' t, Heap.FlyingW base (env :: outer) e (.type T) a0 h' → s.heap.UpToSlots h' → Q (.ret (.str x t)) { s with heap := h', toks := s.toks + 1 })
    (hx : Str.ofString T ∈ freeNames := by decide) (hd : (Str.ofString T == ("__debug__" : Str)) = false := by decide) (hn : Str.ofString T ≠ "__name__" := by decide) :
    wpAny (model PP w) A (handleBy (.ref e) env (.ExceptHandler (some (.Name (Str.ofString T) np)) none [.Return (some (.Constant (.str x) kk kp)) rp] p :: rest)) Q E s := by
  refine wpAny_handleBy_builtin (X := T) (T := T) (b := true) hexc hnt hsub (wp_excName G hfl.1 hv hg hbi hkind hk ⟨rfl, hfl.there, ?_⟩ hx hd hn)
  rw [if_pos rfl]
  refine lands_againW hfl fun h' hf' hs' => wpAny_execs_cons (wpAny_Return_some (Calls.Constant_str ?_))
  exact h h' _ hf' hs'
/-- except C: another class -/
theorem handle_miss {T X : String} {b₀ : Stmt} {suite : List Stmt} (G : Gl mg mb base) (hfl : Heap.FlyingW base (env :: outer) e (.type X) a0 s.heap) (hv : bootBuiltins (Str.ofString T) = some (.type T)) (hexc : isSubtype (.type T) (.type "BaseException") = pure true)
    (hnt : isSubtype (.type ((Manifest.find? T).elim "type" fun x => x.metatype)) (.type "tuple") = pure false) (hsub : isSubtype (.type X) (.type T) = pure false)
    (hg : env.globals = mainGlobals) (hbi : env.builtins = builtinsNs) (hkind : env.scope.kind = .function) (hk : env.kindOf (Str.ofString T) = some .globalImplicit)
    (h : wpAny (model PP w) A (handleBy (.ref e) env rest) Q E s)
    (hx : Str.ofString T ∈ freeNames := by decide) (hd : (Str.ofString T == ("__debug__" : Str)) = false := by decide) (hn : Str.ofString T ≠ "__name__" := by decide) :
    wpAny (model PP w) A (handleBy (.ref e) env (.ExceptHandler (some (.Name (Str.ofString T) np)) none (b₀ :: suite) p :: rest)) Q E s := by
  refine wpAny_handleBy_builtin (X := X) (T := T) (b := false) hexc hnt hsub (wp_excName G hfl.1 hv hg hbi hkind hk ⟨rfl, hfl.there, ?_⟩ hx hd hn)
  rw [if_neg (by decide)]
  exact h
end

theorem fm_St1 {w : World} {mg mb : Str → Option Value} {n : Nat} {A : Around} {f : Str} {scope : Scope} {a : Addr} {cd v : Value} {s : Shared} {X : List Addr} {x : Str} {U : Ty} {h₁ : Heap} (hr : Room (n + 1) A) (G : Gl mg mb s.heap) (ht : 0 < s.toks) (hX : ∀ x ∈ X, ∃ o, s.heap.get? x = some o)
    (hk : scope.kind = .function) (hl : scope.names.lookup x = some .local) (F₁ : Fr s.heap s.heap.objs.size h₁ (fun y => [(x, v)].reverse.lookup y)) (hv : U.P (cut (vw s) X) v) :
    (Fm.fm w mg mb n A f scope a cd s X).St [(x, U)] { s with heap := h₁, toks := s.toks + 1 } := by
  have ext : Ext s { s with heap := h₁, toks := s.toks + 1 } := Ext.mk' F₁.keep (Nat.le_add_right _ _)
  have hL := Fm.no_top s.heap
  refine ⟨ext, ?_, ?_, hX, G, hr.deeper _, ht, hk, rfl, rfl, by simp [Fm.fm, envOf], ⟨_, F₁.ns⟩, ?_, List.Pairwise.nil, ?_, (fun _ ha => nomatch ha), (fun _ ha => nomatch ha), trivial, ?_⟩
  · intro y hy; simp [Fm.fm] at hy; subst hy; exact hL
  · intro y hy; simp [Fm.fm] at hy; subst hy; obtain ⟨o, _, _, ho, _⟩ := F₁.ns; exact ⟨o, ho⟩
  · intro x c hc; simp [Fm.fm, envOf] at hc
  · intro x c hc; simp [Fm.fm, envOf] at hc
  · intro y U' hx
    have hyx : y = x ∧ U' = U := by
      rw [List.lookup_cons] at hx
      cases hb : y == x with
      | true => rw [hb] at hx; cases hx; exact ⟨eq_of_beq hb, rfl⟩
      | false => rw [hb] at hx; cases hx
    obtain ⟨rfl, rfl⟩ := hyx
    refine ⟨v, Ty.mono _ _ _ _ ?_ hv, .inl ⟨hl, _, F₁.ns, by simp⟩⟩
    intro b o e
    refine cut_mk (fun hb => ?_) (F₁.keep _ _ (cut_of e).2)
    rcases List.mem_append.mp hb with hb | hb
    · simp [Fm.fm] at hb; subst hb; have h9 : s.heap.get? s.heap.objs.size = some o := (cut_of e).2; rw [h9] at hL; cases hL
    · exact (cut_of e).1 (by simpa [Fm.fm] using hb)

theorem told_run {w : World} {mg mb : Str → Option Value} {a : Addr} {xs : List Str} {j : Nat} {cls : String} {params : Arguments} {body : List Stmt} {scope : Scope} {cd : Value} (hd : theDefs[10]? = some (Str.ofString "_law_told", params, body, scope)) (hlen : xs.length ≤ 1000) (hxl : ∀ x ∈ xs, x.length ≤ 1000)
    (hj : j < xs.length) (hgood : ∀ i, i < j → i < xs.length → Good (xs.getD i "")) (hbad : Bad cls (xs.getD j "")) {A : Around} {s s₀ : Shared} {X : List Addr} {base : Heap} {outer : List Env} (Gb : Gl mg mb base)
    (S : (Fm.fm w mg mb 1 A "_law_told" scope a cd s X).St [("items", tD (.list (sds xs)))] s₀) (B : Below A base outer s.heap) {E : Value → Shared → Prop} {Q : Flow → Shared → Prop}
    (hQ : ∀ t s', base.StaysIn s'.heap → s.heap.UpToSlots s'.heap → s'.os = s.os → GExt s.gens s'.gens → s.toks ≤ s'.toks → Q (.ret (.str (Str.ofString cls) t)) s') :
    wpAny (model PP w) (Fm.fm w mg mb 1 A "_law_told" scope a cd s X).A (execs body (Fm.fm w mg mb 1 A "_law_told" scope a cd s X).env) Q E s₀ := by
  have e := hd.symm.trans (show theDefs[10]? = some (_, _, _, _) from rfl)
  injection e with e; injection e with _ e; injection e with e1 e; injection e with e2 e3
  subst e1 e2 e3
  refine wpAny_execs_cons (wpAny_Try_except (wpAny_execs_cons (wpAny_Return_some (Fm.wp_itemsCall S ?_))))
  obtain ⟨ap, op, pmp, cdp, docp, p1, p2, p3, p4⟩ := S.g.fn _ (List.mem_of_getElem? (i := 1) (show theDefs[1]? = some (_, _, _, _) from rfl))
  refine PyProof.Rows.Call_ (Fm.wp_fnName S p1 ?_) rfl
  refine PyProof.Rows.callWith_def p3 (Fm.Evs.cons (Fm.Ev.name rfl) .nil rfl _ _ S _ _ fun vs s₁ e₁ S₁ hvs => ⟨e₁.all _ _ p2, ?_⟩) rfl
  obtain ⟨m₁, hm₁⟩ := S₁.ns
  have Ff : Fr s.heap s.heap.objs.size s₁.heap m₁ := ⟨hm₁, S₁.base.all, Nat.le_refl _⟩
  refine keqv_raises p1 hlen hxl hj hgood hbad (S.room.less (Nat.le_refl _)) S₁.g S₁.toks S₁.domAll hvs (B.push (name := "_law_told") (a := a) (cd := cd) Ff rfl) fun e a0 s₂ hfl hup hos hg htk => ?_
  have os' : s₂.os = s.os := hos.trans S₁.base.os
  have gens' : GExt s.gens s₂.gens := S₁.base.gens.trans hg
  have toks' : s.toks ≤ s₂.toks := Nat.le_trans S₁.base.toks htk
  have up' : s.heap.UpToSlots s₂.heap := (Heap.UpToSlots.of_keeps S₁.base.all).trans hup
  refine wpAny_looks_onW (Around.frames_deeper B.stack) rfl hfl fun h₄ hheld₄ hsm₄ => ?_
  refine wpAny_landsW hheld₄ fun h₅ hfl₅ hsm₅ => ?_
  rcases hbad with ⟨rfl, _⟩ | ⟨rfl, _⟩
  · exact handle_hit (T := "ValueError") Gb hfl₅ PyProof.Rows.Boot.«ValueError» PySem.F.isExc_ValueError PySem.F.notTuple_ValueError PySem.F.self_ValueError rfl rfl rfl rfl fun h' t hf' hs' => hQ _ _ hf'.1 (((up'.trans hsm₄).trans hsm₅).trans hs') os' gens' (Nat.le_succ_of_le toks')
  · refine handle_miss (T := "ValueError") Gb hfl₅ PyProof.Rows.Boot.«ValueError» PySem.F.isExc_ValueError PySem.F.notTuple_ValueError (by rw [isSubtype_type]; kernel_rfl) rfl rfl rfl rfl ?_
    exact handle_hit (T := "IndexError") Gb hfl₅ PyProof.Rows.Boot.«IndexError» PySem.F.isExc_IndexError PySem.F.notTuple_IndexError PySem.F.self_IndexError rfl rfl rfl rfl fun h' t hf' hs' => hQ _ _ hf'.1 (((up'.trans hsm₄).trans hsm₅).trans hs') os' gens' (Nat.le_succ_of_le toks')

theorem told_raises {w : World} {mg mb : Str → Option Value} {a : Addr} {xs : List Str} {j : Nat} {cls : String} (hf : mg "_law_told" = some (.ref a)) (hlen : xs.length ≤ 1000) (hxl : ∀ x ∈ xs, x.length ≤ 1000)
    (hj : j < xs.length) (hgood : ∀ i, i < j → i < xs.length → Good (xs.getD i "")) (hbad : Bad cls (xs.getD j "")) {A : Around} {s : Shared} {X : List Addr} {vals : List Value} {base : Heap} {outer : List Env} (hr : Room 2 A) (G : Gl mg mb s.heap) (Gb : Gl mg mb base) (ht : 0 < s.toks)
    (hX : ∀ x ∈ X, ∃ o, s.heap.get? x = some o) (hT : TAll (cut (vw s) X) [tD (.list (sds xs))] vals) (B : Below A base outer s.heap) {E : Value → Shared → Prop} {Q : Value → Shared → Prop}
    (hQ : ∀ t s', base.StaysIn s'.heap → s.heap.UpToSlots s'.heap → s'.os = s.os → GExt s.gens s'.gens → s.toks ≤ s'.toks → Q (.str (Str.ofString cls) t) s') : wpAny (model PP w) A (PySem.call (.ref a) vals) Q E s := by
  have hd := List.mem_of_getElem? (i := 10) (show theDefs[10]? = some (_, _, _, _) from rfl)
  obtain ⟨a', o, pm, cd, doc, h1, h2, h3, h4⟩ := G.fn _ hd
  have : a' = a := by rw [hf] at h1; cases h1; rfl
  subst this
  cases hT with
  | @cons _ _ v vs hv hvs =>
  cases hvs
  exact wpAny_call (call_plainQ (nm := "_law_told") (q := "_law_told") (binds := [("items", v)]) hr.depth h2 h3 G.nolimit h4 rfl (fun x hx => by simp at hx; subst hx; rfl) (fun h₁ F₁ =>
    told_run rfl hlen hxl hj hgood hbad Gb (fm_St1 hr G ht hX rfl rfl F₁ hv) B fun t s' q1 q2 q3 q4 q5 => hQ t s' q1 q2 q3 q4 q5))
end Mine

/-! G11 -/
namespace Mine
open PySem PySem.Spec PyProof.Rows

theorem gext_set {a b : Array GenState} {g : Nat} {x y : GenState} (h : GExt (a.setIfInBounds g x) b) (hb : y.bare = true) {c : Array GenState} (hc : ∀ (i : Nat) (z : GenState), c[i]? = some z → i ≠ g) (hca : GExt c a) (hx : x.bare = true) : GExt c (b.setIfInBounds g y) := by
  refine ⟨fun i z q => ?_, fun q => ?_⟩
  · have hi := hc i z q
    have h1 := hca.1 i z q
    have h2 : (a.setIfInBounds g x)[i]? = some z := by rw [Array.getElem?_setIfInBounds_ne (Ne.symm hi)]; exact h1
    have h3 := h.1 i z h2
    rw [Array.getElem?_setIfInBounds_ne (Ne.symm hi)]; exact h3
  · have set : ∀ {l : Array GenState} {z : GenState}, AllBare l → z.bare = true → AllBare (l.setIfInBounds g z) := fun {l z} hl hz w hw => by
      obtain ⟨i, hi, rfl⟩ := Array.mem_iff_getElem.mp hw
      by_cases hgi : g = i
      · subst hgi; simpa using hz
      · have hi' : i < l.size := by simpa using hi
        rw [Array.getElem_setIfInBounds_ne hi' hgi]; exact hl _ (Array.getElem_mem hi')
    exact set (h.2 (set (hca.2 q) hx)) hb

/-- a generator's frame, just begun -/
theorem gf_new {w : World} {mg mb : Str → Option Value} {A' : Around} {L a : Addr} {cd : Value} {x : Str} {t : Tok} {s : Shared} {m : Str → Option Value} (hr : Room 0 A') (G : Gl mg mb (ghostS s [L]).heap) (ht : 0 < s.toks) (hns : s.heap.Ns L m) (hm : m "addr" = some (.str x t)) :
    (gf w mg mb A' (gEnv L a cd) [] (fun _ => pnAny) (ghostS s [L])).St [("addr", tS x)] s := by
  refine ⟨⟨fun b o _ h => W.of_hideAll _ h, fun b o h => ⟨o, W.of_hideAll _ h⟩, rfl, .refl _, Nat.le_refl _⟩, fun y hy => ?_, fun y hy => ?_, (fun _ h => nomatch h), G, hr, ht, rfl, rfl, rfl, List.mem_cons_self .., ⟨m, hns⟩, (fun x c h => nomatch (show ([] : List (Str × Addr)).lookup x = some c from h)), .nil, (fun x c h => nomatch (show ([] : List (Str × Addr)).lookup x = some c from h)), (fun _ h => nomatch h), (fun _ h => nomatch h), trivial, fun y T hy => ?_⟩
  · exact W.hideAll_none _ hy
  · have : y = L := by simpa [gf, envOf] using hy
    subst this; obtain ⟨o, _, _, ho, _⟩ := hns; exact ⟨o, ho⟩
  · have hyx : y = "addr" ∧ T = tS x := by
      rw [List.lookup_cons] at hy
      cases hb : y == Str.ofString "addr" with
      | true => rw [hb] at hy; cases hy; exact ⟨eq_of_beq hb, rfl⟩
      | false => rw [hb] at hy; cases hy
    obtain ⟨rfl, rfl⟩ := hyx
    exact ⟨_, .str _ _, .inl ⟨rfl, m, hns, hm⟩⟩
end Mine

/-! Fw21 -/
namespace Mine
open PySem PySem.Spec PyProof.Rows
namespace Fm
variable {F : Fm} {ρ : List (Str × Ty)} {s s' : Shared}

/-- only the slots of the frame's own dict were turned -/
theorem St.slots (S : F.St ρ s) (hk : ∀ b o, b ≠ F.env.locals → s.heap.get? b = some o → s'.heap.get? b = some o) (hup : s.heap.UpToSlots s'.heap) (hos : s'.os = s.os) (hg : GExt s.gens s'.gens) (ht : s.toks ≤ s'.toks) : F.St ρ s' ∧ Le (cut (vw s) F.X) (cut (vw s') F.X) := by
  obtain ⟨m, hm⟩ := S.ns
  have hn := hup.ns hm
  have le : Le (cut (vw s) F.X) (cut (vw s') F.X) := fun b o h => cut_mk (cut_of h).1 (hk b o (fun q => (cut_of h).1 (q ▸ List.mem_append_left _ S.loc)) (cut_of h).2)
  have cl : ∀ {c v}, s.heap.IsCell c v → s'.heap.IsCell c v := fun ⟨o, ho, hd⟩ => ⟨o, hk _ o (cell_ne_ns ⟨o, ho, hd⟩ hm) ho, hd⟩
  have k0 : ∀ b o, F.s0.heap.get? b = some o → s'.heap.get? b = some o := fun b o h => hk b o (fun q => by have := S.fresh b (q ▸ S.loc); rw [h] at this; cases this) (S.base.all b o h)
  refine ⟨⟨⟨fun b o _ h => k0 b o h, fun b o h => ⟨o, k0 b o h⟩, hos.trans S.base.os, S.base.gens.trans hg, Nat.le_trans S.base.toks ht⟩, S.fresh, fun y hy => ?_, S.domX, S.gl, S.room, S.tok, S.kind, S.glob, S.bns, S.loc, ⟨_, hn⟩, fun x c hx => let ⟨v, hv⟩ := S.cells x c hx; ⟨v, cl hv⟩, S.apart, S.cellsIn, S.pinNew, fun b hb => let ⟨o, h1, h2⟩ := S.pinned b hb; ⟨o, hk _ _ (S.ne_loc hb) h1, Pn.mono _ _ _ _ le h2⟩, F.gh.mono _ _ le S.ghost, fun x T hx => ?_⟩, le⟩
  · by_cases hyl : y = F.env.locals
    · subst hyl; obtain ⟨o, _, _, ho, _⟩ := hn; exact ⟨o, ho⟩
    · obtain ⟨o, ho⟩ := S.dom y hy; exact ⟨o, hk y o hyl ho⟩
  · obtain ⟨v, h1, h2⟩ := S.names x T hx
    refine ⟨v, T.mono _ _ _ le h1, ?_⟩
    rcases h2 with ⟨a, m', b, c⟩ | ⟨a, c, b, d⟩
    · exact .inl ⟨a, m', hup.ns b, c⟩
    · exact .inr ⟨a, c, b, cl d⟩

/-- a call of _law_told that hands back the name of an exception -/
theorem wp_toldRaise {np pos : Pos} {e : Expr} {xs : List Str} {j : Nat} {cls : String} (S : F.St ρ s) (he : F.Ev ρ e (tD (.list (sds xs)))) (hlen : xs.length ≤ 1000) (hxl : ∀ x ∈ xs, x.length ≤ 1000) (hj : j < xs.length) (hgood : ∀ i, i < j → i < xs.length → Good (xs.getD i "")) (hbad : Bad cls (xs.getD j "")) (hn : 2 ≤ F.n)
    (hA : F.A.frames = some [F.env]) (hfr : F.env.frame = some F.env.locals) {E : Value → Shared → Prop} {Q : Value → Shared → Prop} (k : ∀ t s', F.St ρ s' → Le (cut (vw s) F.X) (cut (vw s') F.X) → Q (.str (Str.ofString cls) t) s')
    (hk : F.env.kindOf "_law_told" = some .globalImplicit := by rfl) (hs : starEach [e] F.env = (false, eval e F.env) :: starEach [] F.env := by rfl) :
    wpAny F.M F.A (eval (.Call (.Name "_law_told" np) [e] [] pos) F.env) Q E s := by
  obtain ⟨ap, op, pmp, cdp, docp, p1, p2, p3, p4⟩ := S.g.fn _ (List.mem_of_getElem? (i := 10) (show theDefs[10]? = some (_, _, _, _) from rfl))
  refine PyProof.Rows.Call_ (wp_fnName S p1 ?_ hk (by decide)) rfl
  refine PyProof.Rows.callWith_def p3 (Evs.cons he .nil hs pos s S E _ fun vs s₁ e₁ S₁ hvs => ⟨e₁.all _ _ p2, ?_⟩) hs
  obtain ⟨m, hm⟩ := S₁.ns
  obtain ⟨o, _, _, ho, hd, _⟩ := id hm
  have base0 : ∀ b o, F.s0.heap.get? b = some o → (W.hideAll s₁.heap [F.env.locals]).get? b = some o := fun b o h => W.hideAll_get _ (S₁.base.all b o h) fun q => by
    have q : b = F.env.locals := by simpa using q
    have := S.fresh b (q ▸ S.loc)
    have h : F.s0.heap.get? b = some o := h
    rw [h] at this; cases this
  have B : Below F.A (W.hideAll s₁.heap [F.env.locals]) [F.env] s₁.heap := ⟨hA, fun b o h => W.of_hideAll _ h, by rw [S.kind]; decide, ⟨F.env.locals, o, hfr, W.hideAll_none _ (List.mem_singleton.mpr rfl), ho, fun vs q => by rw [hd] at q; cases q⟩, trivial⟩
  refine told_raises p1 hlen hxl hj hgood hbad (S.room.less hn) S₁.g (S.gl.keeps base0) S₁.toks S₁.domAll hvs B fun t s₂ q1 q2 q3 q4 q5 => ?_
  obtain ⟨S₂, le⟩ := S₁.slots (s' := s₂) (fun b o hb h => q1 b o (W.hideAll_get _ h fun q => hb (by simpa using q))) q2 q3 q4 q5
  exact k t s₂ S₂ fun b o h => le b o (cut_mono _ e₁.le b o h)

/-- ends = [told(a), told(b), told(c)], the last two with an exception inside -/
theorem wp_assignEnds {x : Str} {px pos lp np1 np2 np3 cp1 cp2 cp3 : Pos} {e1 e2 e3 : Expr} {xs1 xs2 xs3 : List Str} {j2 j3 : Nat} {cls2 cls3 : String} {rest : List Stmt} {E : Value → Shared → Prop} {Q : Flow → Shared → Prop} (S : F.St ρ s)
    (h1 : F.Ev ρ e1 (tD (.list (sds xs1)))) (h2 : F.Ev ρ e2 (tD (.list (sds xs2)))) (h3 : F.Ev ρ e3 (tD (.list (sds xs3))))
    (l1 : xs1.length ≤ 1000) (l2 : xs2.length ≤ 1000) (l3 : xs3.length ≤ 1000) (b1 : ∀ x ∈ xs1, x.length ≤ 1000) (b2 : ∀ x ∈ xs2, x.length ≤ 1000) (b3 : ∀ x ∈ xs3, x.length ≤ 1000) (g1 : ∀ x ∈ xs1, Good x)
    (hj2 : j2 < xs2.length) (g2 : ∀ i, i < j2 → i < xs2.length → Good (xs2.getD i "")) (w2 : Bad cls2 (xs2.getD j2 "")) (hj3 : j3 < xs3.length) (g3 : ∀ i, i < j3 → i < xs3.length → Good (xs3.getD i "")) (w3 : Bad cls3 (xs3.getD j3 "")) (hn : 2 ≤ F.n)
    (hA : F.A.frames = some [F.env]) (hfr : F.env.frame = some F.env.locals)
    (h : ∀ s', F.St ((x, tD (.list [kvD (kvAll xs1), .str (Str.ofString cls2), .str (Str.ofString cls3)])) :: ρ) s' → F.Run rest Q E s')
    (hk : F.env.kindOf x = some .local := by rfl) (hkt : F.env.kindOf "_law_told" = some .globalImplicit := by rfl)
    (hs1 : starEach [e1] F.env = (false, eval e1 F.env) :: starEach [] F.env := by rfl) (hs2 : starEach [e2] F.env = (false, eval e2 F.env) :: starEach [] F.env := by rfl) (hs3 : starEach [e3] F.env = (false, eval e3 F.env) :: starEach [] F.env := by rfl) :
    F.Run (.Assign [.Name x px] (.List [.Call (.Name "_law_told" np1) [e1] [] cp1, .Call (.Name "_law_told" np2) [e2] [] cp2, .Call (.Name "_law_told" np3) [e3] [] cp3] lp) pos :: rest) Q E s := by
  refine .mk <| wpAny_execs_cons (wpAny_Assign_Name (PyProof.Rows.List_ (PyProof.Rows.args_cons ?_ rfl)) rfl)
  refine (Ev.call (List.mem_of_getElem? (i := 10) (show theDefs[10]? = some (_, _, _, _) from rfl)) (fn_told l1 b1 g1) (Evs.cons h1 .nil hs1) hn hkt (by decide) rfl hs1 : F.Ev ρ (.Call (.Name "_law_told" np1) [e1] [] cp1) _) s S E _ fun v1 s₁ e₁ S₁ hv1 => ?_
  refine PyProof.Rows.args_cons ?_ rfl
  refine wp_toldRaise S₁ h2 l2 b2 hj2 g2 w2 hn hA hfr (fun t2 s₂ S₂ le2 => ?_) hkt hs2
  refine PyProof.Rows.args_cons ?_ rfl
  refine wp_toldRaise S₂ h3 l3 b3 hj3 g3 w3 hn hA hfr (fun t3 s₃ S₃ le3 => ?_) hkt hs3
  refine PyProof.Rows.args_nil ?_
  refine wp_newList S₃ (ds := [kvD (kvAll xs1), .str (Str.ofString cls2), .str (Str.ofString cls3)]) (.cons (Rd.mono le3 (Rd.mono le2 hv1)) (.cons (.str _ _) (.cons (.str _ _) .nil))) (by simp only [List.length_cons, List.length_nil]; decide) fun v s₄ e₄ hv => ?_
  exact wp_store (S₃.ext e₄) hv hk fun s₅ S₅ _ => (h s₅ S₅).wp
end Fm
end Mine

/-! Q1 -/
namespace Mine
open PySem PySem.Spec PyProof.Rows
namespace Fm
variable {F : Fm} {ρ : List (Str × Ty)} {s s' : Shared}
theorem Ev.replaceC {o : Expr} {apos pos p1 p2 : Pos} {k1 k2 : Nat} {x y z : Str} (ho : F.Ev ρ o (tS x)) (hb : x.length + (x.length + 1) * z.length ≤ 16777216) (hyz : (y == z) = false := by decide)
    (hbase : attributeBase o "replace" F.env (eval o F.env) = eval o F.env := by rfl) (hline : (apos.endLine == pos.line) = true := by rfl) :
    F.Ev ρ (.Call (.Attribute o "replace" apos) [.Constant (.str y) k1 p1, .Constant (.str z) k2 p2] [] pos) (tS (Txt.replace x y z)) := fun s S E Q k =>
  wpAny_Call_method_lateS hbase rfl hline (ho s S E _ fun ov s₁ e₁ S₁ hv => by
    obtain ⟨t, rfl⟩ := hv.str_inv
    refine ⟨"str", "str.replace", PySem.F.plainAttrs_str, PySem.F.slot_str_replace, PySem.F.type_str_replace, typeIs_str _ _ _, (fun _ e => nomatch e), ?_⟩
    refine Calls.callWith_builtin rfl (Calls.evalArgs_plain (Calls.spliced_cons (Calls.Constant_str (k := k1) (pos := p1) (Calls.spliced_cons (Calls.Constant_str (k := k2) (pos := p2) (Calls.spliced_nil ?_))))))
    have ht := S₁.toks
    refine wp_toks (SC.replace (by show s₁.toks ≠ 0; omega) (by show s₁.toks + 1 ≠ 0; omega) (by show s₁.toks ≠ s₁.toks + 1; omega) hyz hb fun t' tk htk => ?_)
    have e : Ext s₁ { s₁ with toks := tk } := .toks' (by have : s₁.toks + 1 + 1 ≤ tk := htk; omega)
    exact k _ _ (e₁.trans e) (S₁.ext e) (.str _ _))
end Fm

def qu (x : Str) : Str := (Str.ofString "\"" ++ Txt.replace (Txt.replace x "\\" "\\\\") "\"" "\\\"") ++ Str.ofString "\""

theorem L_qu (x : Str) : L (qu x) = 34 :: ((L x).flatMap esc ++ [34]) := by
  unfold qu
  rw [L_app, L_app, L_esc]; rfl
theorem qu_len (x : Str) : (qu x).length ≤ 2 * x.length + 2 := by
  rw [← L_len, L_qu, ← L_len x]
  have := flat_esc_len (L x)
  simp only [List.length_cons, List.length_append, List.length_nil]; omega
theorem rep_len (x : Str) : (Txt.replace x "\\" "\\\\").length ≤ 2 * x.length := by
  rw [← L_len, show Str.ofString "\\" = (⟨#[92]⟩ : Str) from rfl, L_replace, ← L_len x]
  have : ∀ l : List Nat, (l.flatMap fun a => if a = 92 then L (Str.ofString "\\\\") else [a]).length ≤ 2 * l.length := by
    intro l
    induction l with
    | nil => simp
    | cons a l ih =>
      rw [List.flatMap_cons, List.length_append, List.length_cons]
      have : (if a = 92 then L (Str.ofString "\\\\") else [a]).length ≤ 2 := by
        split
        · show ([92, 92] : List Nat).length ≤ 2; decide
        · simp
      omega
  exact this _
theorem fn_quoted {w : World} {mg mb : Str → Option Value} {x : Str} (hx : x.length ≤ 1000) : Fn w mg mb 1 "_law_quoted" [tS x] (tS (qu x)) := by
  refine Fn.intro (List.mem_of_getElem? (i := 8) (show theDefs[8]? = some (_, _, _, _) from rfl)) (xs := ["text"]) rfl ?_ (by decide) (by decide) ?_
  · intro pm cd doc vals hv
    obtain ⟨v, rfl⟩ := vals1 hv; rfl
  · intro A a cd s X hr s₁ S
    refine Fm.wp_return S (Fm.Ev.add_str (Fm.Ev.add_str .str (Fm.Ev.replaceC (Fm.Ev.replaceC (Fm.Ev.name rfl) ?_) ?_) ?_) .str ?_) fun v s' S' e' hv => S'.fin hv
    · have e : (Str.ofString "\\\\").length = 2 := by decide
      rw [e]; omega
    · have e : (Str.ofString "\\\"").length = 2 := by decide
      have := rep_len x
      rw [e]; omega
    · have h := L_len (Txt.replace (Txt.replace x "\\" "\\\\") "\"" "\\\"")
      rw [L_esc] at h
      have := flat_esc_len (L x)
      have e : (Str.ofString "\"").length = 1 := by decide
      rw [L_len] at this
      rw [e, sizeLine_eq]; omega
    · have h := L_len (Txt.replace (Txt.replace x "\\" "\\\\") "\"" "\\\"")
      rw [L_esc] at h
      have := flat_esc_len (L x)
      have e : (Str.ofString "\"").length = 1 := by decide
      rw [L_len] at this
      rw [Str.length_append, e, sizeLine_eq]; omega
end Mine

/-! E1 -/
namespace Mine
open PySem PySem.Spec PyProof.Rows

def menuL : List Str := ["a", "A", "", "a\"", "a,", "a'(", "a\\", "[a"]
def hostL : List Str := ["h", "H", "", "h["]
def preL : List Str := ["", "u'e'", "u'"]
def hostOf (n : Int) : Str := hostL.getD (n.fmod 4).toNat ""
def nameAt (n : Int) (k : Nat) : Str := menuL.getD ((n.fdiv (16 * 8 ^ k)).fmod 8).toNat ""
def namesOf (n : Int) : List Str := (List.range ((n.fdiv 4).fmod 4).toNat).map (nameAt n)
def slashed (names : List Str) : Str := Txt.join "" (names.map fun x => Str.ofString "/" ++ x)
def valueOf (n : Int) : Str := preL.getD ((n.fdiv 8192).fmod 3).toNat "" ++ slashed (namesOf n)
def bareOf (n : Int) : Bool := ((n.fdiv 24576).fmod 2 == 0) && ((valueOf n != "") && (!hasIn "\"" (valueOf n) && !hasIn "," (valueOf n)))
def writtenOf (n : Int) : Str := if bareOf n then valueOf n else qu (valueOf n)
def readOf (n : Int) : Str := if bareOf n then valueOf n else (Str.ofString "\"" ++ valueOf n) ++ Str.ofString "\""
def charAt (v : Str) (i : Nat) : Str := chr (v.cps.toList.getD i 0)
def ticksOf (v : Str) : List Nat := (List.range v.length).filter fun i => charAt v i == "'"
def partA (v : Str) : Str := Txt.slice v none (some ((ticksOf v).getD 0 0 : Nat))
def partB (v : Str) : Str := Txt.slice v (some (((ticksOf v).getD 0 0 : Nat) + 1)) (some ((ticksOf v).getD 1 0 : Nat))
def partC (v : Str) : Str := Txt.slice v (some (((ticksOf v).getD 1 0 : Nat) + 1)) none
def pathOf (v : Str) : Str := if 1 < (ticksOf v).length then partC v else v
def partsOf (v : Str) : PyData := if 1 < (ticksOf v).length then .list [.str (partA v), .str (partB v), .str (partC v)] else .tuple [.none, .none, .str v]
def placeOf (n : Int) : Str × List Str := if hasIn "[" (pathOf (valueOf n)) then ("", [""]) else (hostOf n, Txt.split (pathOf (valueOf n)) "/")
def plD (p : Str × List Str) : PyData := placeD p.1 p.2
def entryD (n : Int) : PyData := .tuple [.str ((hostOf n ++ "=") ++ writtenOf n), .str ((hostOf n ++ "=") ++ readOf n), .tuple [.str (hostOf n), .str (valueOf n)], partsOf (valueOf n), plD (placeOf n)]


theorem fmod_lt (n k : Int) (hk : 0 < k) : 0 ≤ n.fmod k ∧ n.fmod k < k := by
  rw [Int.fmod_eq_emod_of_nonneg _ (by omega)]
  exact ⟨Int.emod_nonneg _ (by omega), Int.emod_lt_of_pos _ (by omega)⟩
theorem getD_all {α : Type} {P : α → Prop} {l : List α} {d : α} (h : ∀ x ∈ l, P x) (hd : P d) (i : Nat) : P (l.getD i d) := by
  by_cases hi : i < l.length
  · exact h _ (getD_mem _ _ _ hi)
  · rw [List.getD_eq_getElem?_getD, List.getElem?_eq_none (by omega)]; exact hd
theorem nameAt_len (n : Int) (k : Nat) : (nameAt n k).length ≤ 3 := getD_all (P := fun x : Str => x.length ≤ 3) (by decide) (by decide) _
theorem hostOf_len (n : Int) : (hostOf n).length ≤ 2 := getD_all (P := fun x : Str => x.length ≤ 2) (by decide) (by decide) _
theorem namesOf_len (n : Int) : (namesOf n).length ≤ 3 := by
  have := fmod_lt (n.fdiv 4) 4 (by decide)
  unfold namesOf; simp only [List.length_map, List.length_range]
  have h2 : (n.fdiv 4).fmod 4 < 4 := this.2
  omega
theorem slashed_len (n : Int) : (slashed (namesOf n)).length ≤ 12 := by
  unfold slashed Txt.join
  rw [size_glued]
  have h1 := StrLaws.sumLen_le (B := 4) ((namesOf n).map fun x => Str.ofString "/" ++ x) (fun y hy => by
    obtain ⟨x, hx, rfl⟩ := List.mem_map.mp hy
    obtain ⟨k, _, rfl⟩ := List.mem_map.mp hx
    rw [Str.length_append]
    have := nameAt_len n k
    have : (Str.ofString "/").length = 1 := by decide
    omega)
  rw [List.length_map] at h1 ⊢
  have := namesOf_len n
  have e : (Str.ofString "").length = 0 := by decide
  rw [e]
  omega
theorem valueOf_len (n : Int) : (valueOf n).length ≤ 16 := by
  unfold valueOf
  rw [Str.length_append]
  have h1 : (preL.getD ((n.fdiv 8192).fmod 3).toNat "").length ≤ 4 := getD_all (P := fun x : Str => x.length ≤ 4) (by decide) (by decide) _
  have := slashed_len n
  omega

theorem pathOf_len (v : Str) : (pathOf v).length ≤ v.length := by
  unfold pathOf; split
  · exact Txt.slice_le ..
  · exact Nat.le_refl _
namespace Fm
variable {F : Fm} {ρ : List (Str × Ty)}
theorem Ev.parts2 {value : Expr} {pos p : Pos} {k : Nat} {v : Str} (hv : F.Ev ρ value (tD (partsOf v))) : F.Ev ρ (.Subscript value (.Constant (.int 2) k p) pos) (tS (pathOf v)) := by
  unfold partsOf at hv; unfold pathOf
  split at hv
  · rw [if_pos (by assumption)]; exact Ev.lst_at hv
  · rw [if_neg (by assumption)]; exact Ev.tup_at hv
end Fm

theorem fn_entry {w : World} {mg mb : Str → Option Value} {n : Int} : Fn w mg mb 2 "_law_entry" [tI n] (tD (entryD n)) := by
  refine Fn.introC (List.mem_of_getElem? (i := 9) (show theDefs[9]? = some (_, _, _, _) from rfl)) (x := "number") (fun _ _ _ _ => rfl) (.inr ⟨rfl, fun _ => rfl⟩) (fun m => show (["value", "menu", "number"] : List Str).Nodup from by decide) ?_
  intro A a cd s X hr s₁ S
  refine Fm.wp_assignC S (Fm.Ev.list (ds := sds menuL) (.cons .str (.cons .str (.cons .str (.cons .str (.cons .str (.cons .str (.cons .str (.cons .str .nil)))))))) (by decide)) rfl (Fm.fmC_mem (x := "menu") rfl) fun s₂ S₂ _ => ?_
  have h4 := fmod_lt n 4 (by decide)
  have hhost : (sds hostL)[(n.fmod 4).toNat]? = some (.str (hostOf n)) := by
    have : (n.fmod 4).toNat < hostL.length := by show _ < 4; have : n.fmod 4 < 4 := h4.2; omega
    simp only [sds, List.getElem?_map, List.getElem?_eq_getElem this, hostOf, List.getD_eq_getElem?_getD, Option.map_some, Option.getD_some]
  refine Fm.wp_assign S₂ (Fm.Ev.list_at (Fm.Ev.list (ds := sds hostL) (.cons .str (.cons .str (.cons .str (.cons .str .nil)))) (by decide)) (Fm.Ev.mod_int (Fm.Ev.name rfl) .int (by decide)) h4.1 (by have : n.fmod 4 < 4 := h4.2; omega) hhost) fun s₃ S₃ _ => ?_
  have hq := fmod_lt (n.fdiv 4) 4 (by decide)
  have hq2 : (n.fdiv 4).fmod 4 < 4 := hq.2
  have hnm : ∀ i : Nat, (sds menuL)[((n.fdiv (16 * 8 ^ (i : Int).toNat)).fmod 8).toNat]? = some (.str (nameAt n i)) := fun i => by
    have h8 := fmod_lt (n.fdiv (16 * 8 ^ i)) 8 (by decide)
    have h82 : (n.fdiv (16 * 8 ^ i)).fmod 8 < 8 := h8.2
    have : ((n.fdiv (16 * 8 ^ i)).fmod 8).toNat < menuL.length := by show _ < 8; omega
    rw [Int.toNat_natCast]
    simp only [sds, List.getElem?_map, List.getElem?_eq_getElem this, nameAt, List.getD_eq_getElem?_getD, Option.map_some, Option.getD_some]
  refine Fm.wp_assignComp (n := ((n.fdiv 4).fmod 4).toNat) (ρ' := [("menu", tD (.list (sds menuL))), ("number", tI n)]) (ρt := fun i => [("k", tI i), ("menu", tD (.list (sds menuL))), ("number", tI n)]) (b := fun _ => true) (e := fun i => .str (nameAt n i))
    ⟨Fm.Src.range1 (Fm.Ev.mod_int (Fm.Ev.div_int (Fm.Ev.name rfl) .int (by decide) (by decide)) .int (by decide)) (by omega), by rw [sizeLine_eq]; omega, rfl, .cons rfl rfl (.cons rfl rfl .nil), fun _ => .cons rfl rfl rfl (.inl rfl) (.inl rfl) (.cons rfl rfl rfl (.inl rfl) (.inl rfl) .nil), fun _ _ _ _ _ _ _ => Fm.Asg.name, fun _ _ _ _ _ _ _ => .nil, fun _ _ _ _ _ i hi _ => ?_, fun i x T hi h => ?_, rfl, by decide, fun _ => rfl, fun _ => rfl, fun _ _ => rfl⟩ S₃ fun s₄ S₄ => ?_
  · have h8 := fmod_lt (n.fdiv (16 * 8 ^ (i : Int).toNat)) 8 (by decide)
    have h82 : (n.fdiv (16 * 8 ^ (i : Int).toNat)).fmod 8 < 8 := h8.2
    have hp : (8 : Int) ^ (i : Int).toNat = ((8 ^ i : Nat) : Int) := by rw [Int.toNat_natCast]; push_cast; rfl
    have hi3 : i < 4 := by omega
    have hpos : (1 : Int) ≤ 8 ^ (i : Int).toNat ∧ (8 : Int) ^ (i : Int).toNat ≤ 512 := by
      rw [hp]
      match i, hi3 with
      | 0, _ => decide
      | 1, _ => decide
      | 2, _ => decide
      | 3, _ => decide
    refine Fm.Ev.list_at (Fm.Ev.name rfl) (Fm.Ev.mod_int (Fm.Ev.div_int (Fm.Ev.name rfl) (Fm.Ev.mul_int .int (Fm.Ev.pow_int .int (Fm.Ev.name rfl) ?_ ?_ ?_) ?_) ?_ ?_) .int ?_) h8.1 ?_ (hnm i)
    · omega
    · omega
    · decide
    · exact IntMulOk.of_left (by decide)
    · omega
    · omega
    · decide
    · omega
  · exact lookup_skip h (by
      by_cases hx : x = "k"
      · subst hx; exact nomatch h
      · simpa using hx)
  have hnames : Fm.gath ((n.fdiv 4).fmod 4).toNat (fun _ => true) (fun i => .str (nameAt n i)) = sds (namesOf n) := by rw [Fm.gath_true]; simp [sds, namesOf]
  rw [hnames] at S₄
  have h3 := fmod_lt (n.fdiv 8192) 3 (by decide)
  have hpre : (sds preL)[((n.fdiv 8192).fmod 3).toNat]? = some (.str (preL.getD ((n.fdiv 8192).fmod 3).toNat "")) := by
    have : ((n.fdiv 8192).fmod 3).toNat < preL.length := by show _ < 3; omega
    simp only [sds, List.getElem?_map, List.getElem?_eq_getElem this, List.getD_eq_getElem?_getD, Option.map_some, Option.getD_some]
  have hvl := valueOf_len n
  have hsl := slashed_len n
  have hnl := namesOf_len n
  have hslash : Fm.gath (sds (namesOf n)).length (fun _ => true) (fun i => .str (Str.ofString "/" ++ (namesOf n).getD i "")) = ((namesOf n).map fun x => Str.ofString "/" ++ x).map .str := by
    rw [Fm.gath_true, List.length_map, List.map_map]
    exact Fm.map_range_eq (namesOf n) "" (fun x => PyData.str (Str.ofString "/" ++ x)) _ (fun i _ => rfl)
  have hjok : JoinOk "" ((namesOf n).map fun x => Str.ofString "/" ++ x) = true := joinOk_of (by
    have h1 := StrLaws.sumLen_le (B := 4) ((namesOf n).map fun x => Str.ofString "/" ++ x) (fun y hy => by
      obtain ⟨x, hx, rfl⟩ := List.mem_map.mp hy
      obtain ⟨k, _, rfl⟩ := List.mem_map.mp hx
      rw [Str.length_append]
      have := nameAt_len n k
      have : (Str.ofString "/").length = 1 := by decide
      omega)
    have e : (Str.ofString "").length = 0 := by decide
    rw [List.length_map] at h1 ⊢
    rw [e]; omega)
  refine Fm.wp_assignC (T := tS (valueOf n)) S₄ (Fm.Ev.add_str (Fm.Ev.list_at (Fm.Ev.list (ds := sds preL) (.cons .str (.cons .str (.cons .str .nil))) (by decide)) (Fm.Ev.mod_int (Fm.Ev.div_int (Fm.Ev.name rfl) .int (by decide) (by decide)) .int (by decide)) h3.1 (by omega) hpre)
    (Fm.Ev.join .str (Fm.Ev.to (Fm.Ev.comp (n := (sds (namesOf n)).length) (cl := []) (ρ' := []) (ρt := fun i => [("name", tD ((sds (namesOf n)).getD i .none))]) (b := fun _ => true) (e := fun i => .str (Str.ofString "/" ++ (namesOf n).getD i "")) ⟨Fm.Src.list (Fm.Ev.name rfl), by rw [List.length_map, sizeLine_eq]; omega, rfl, .nil, fun _ => .nil, fun _ _ _ _ _ _ _ => Fm.Asg.name, fun _ _ _ _ _ _ _ => .nil, fun _ _ _ _ _ i hi _ => ?_, fun _ _ _ _ h => (nomatch h), rfl, by decide, fun _ => rfl, fun _ => rfl, fun _ _ => rfl⟩) (by rw [hslash])) hjok) ?_) rfl (Fm.fmC_mem (x := "value") rfl) fun s₅ S₅ _ => ?_
  · rw [List.length_map] at hi
    rw [getD_map' _ _ _ (Str.ofString "") _ hi]
    refine Fm.Ev.add_str .str (Fm.Ev.name rfl) ?_
    have : ((namesOf n).getD i (Str.ofString "")).length ≤ 3 := getD_all (P := fun x : Str => x.length ≤ 3) (fun x hx => by obtain ⟨k, _, rfl⟩ := List.mem_map.mp hx; exact nameAt_len n k) (by decide) _
    have : (Str.ofString "/").length = 1 := by decide
    rw [sizeLine_eq]; omega
  · have := valueOf_len n
    unfold valueOf slashed at this
    rw [Str.length_append] at this
    rw [sizeLine_eq]; omega
  refine Fm.wp_assign (T := tB (bareOf n)) S₅ (Fm.Ev.and (Fm.Ev.cmp (Fm.Ev.mod_int (Fm.Ev.div_int (Fm.Ev.name rfl) .int (by decide) (by decide)) .int (by decide)) .int Fm.Cm.eq_int) fun _ => Fm.Ev.and (Fm.Ev.cmp (Fm.Ev.name rfl) .str Fm.Cm.ne_str) fun _ => Fm.Ev.and (Fm.Ev.cmp .str (Fm.Ev.name rfl) Fm.Cm.notIn_str) fun _ => Fm.Ev.bop1 (Fm.Ev.cmp .str (Fm.Ev.name rfl) Fm.Cm.notIn_str)) fun s₆ S₆ _ => ?_
  generalize hv : valueOf n = v at *
  refine Fm.wp_assignT (xs := [("written", _), ("read", _)]) (ds := [.str (writtenOf n), .str (readOf n)]) S₆ (Fm.Ev.ite (b := bareOf n) (Fm.Ts.ev (Fm.Ev.name rfl)) (fun hb => ?_) (fun hb => ?_)) rfl fun s₇ S₇ => ?_
  · rw [show writtenOf n = v from by unfold writtenOf; rw [if_pos hb, hv], show readOf n = v from by unfold readOf; rw [if_pos hb, hv]]
    exact Fm.Ev.tuple (ds := [.str v, .str v]) (.cons (Fm.Ev.name rfl) (.cons (Fm.Ev.name rfl) .nil))
  · rw [show writtenOf n = qu v from by unfold writtenOf; rw [if_neg (by rw [hb]; exact Bool.false_ne_true), hv], show readOf n = (Str.ofString "\"" ++ v) ++ Str.ofString "\"" from by unfold readOf; rw [if_neg (by rw [hb]; exact Bool.false_ne_true), hv]]
    have e1 : (Str.ofString "\"").length = 1 := by decide
    refine Fm.Ev.tuple (ds := [.str (qu v), .str ((Str.ofString "\"" ++ v) ++ Str.ofString "\"")]) (.cons (Fm.Ev.call (List.mem_of_getElem? (i := 8) (show theDefs[8]? = some (_, _, _, _) from rfl)) (fn_quoted (by omega)) (.cons (Fm.Ev.name rfl) .nil) (Nat.le_refl _)) (.cons (Fm.Ev.add_str (Fm.Ev.add_str .str (Fm.Ev.name rfl) ?_) .str ?_) .nil))
    · rw [sizeLine_eq]; omega
    · rw [sizeLine_eq, Str.length_append]; omega
  refine Fm.wp_assignComp (n := v.length) (Pv := fun i => tI i) (ρ' := [("value", tS v)]) (ρt := fun i => [("place", tI i), ("value", tS v)]) (b := fun i => charAt v i == "'") (e := fun i => .int i)
    ⟨Fm.Src.range1 (Fm.Ev.len_str (Fm.Ev.name rfl) (by rw [sizeLine_eq]; omega)) (by omega), by rw [sizeLine_eq]; omega, rfl, .cons rfl rfl .nil, fun _ => .cons rfl rfl rfl (.inl rfl) (.inl rfl) .nil, fun _ _ _ _ _ _ _ => Fm.Asg.name, fun _ _ _ _ _ i hi => .one (Fm.Ts.cmp (Fm.Ev.sub (Fm.Ev.name rfl) (Fm.Ev.name rfl) (Fm.Gt.str ?_ ?_)) .str Fm.Cm.eq_str), fun _ _ _ _ _ i hi _ => Fm.Ev.name rfl, fun i x T hi h => ?_, rfl, by decide, fun _ => rfl, fun _ => rfl, fun _ _ => rfl⟩ S₇ fun s₈ S₈ => ?_
  · have h1 : ¬ ((i : Int) < -(2 ^ 63 : Int)) := by omega
    have h2 : ¬ ((i : Int) ≥ 2 ^ 63) := by omega
    simp only [h1, h2, decide_false, Bool.or_self]
  · refine StrLaws.at_nonneg (by omega) ?_
    have : i < v.cps.size := hi
    rw [Int.toNat_natCast, List.getD_eq_getElem?_getD, Array.getElem?_toList, Array.getElem?_eq_getElem this]; rfl
  · exact lookup_skip h (by
      by_cases hx : x = "place"
      · subst hx; exact nomatch h
      · simpa using hx)
  have ht : Fm.gath v.length (fun i => charAt v i == "'") (fun i => .int i) = (ticksOf v).map fun i => .int i := by
    unfold Fm.gath ticksOf
    rw [← List.filterMap_eq_map, ← List.filterMap_eq_filter, List.filterMap_filterMap]
    congr 1; funext i
    cases hc : charAt v i == "'" <;> simp [Option.guard, hc]
  rw [ht] at S₈
  have htl : (ticksOf v).length ≤ 16 := by
    have := List.length_filter_le (fun i => charAt v i == "'") (List.range v.length)
    rw [List.length_range] at this
    unfold ticksOf; omega
  refine Fm.wp_ifAdd (x := "parts") (T := tD (partsOf v)) S₈ (Fm.Ts.cmp (Fm.Ev.len_list (Fm.Ev.name rfl) (by rw [sizeLine_eq, List.length_map]; omega)) .int Fm.Cm.gt_int) (fun hb s₉ S₉ => ?_) (fun hb s₉ S₉ => ?_) fun s₉ S₉ => ?_
  · have hl : 1 < (ticksOf v).length := by have := of_decide_eq_true hb; rw [List.length_map] at this; omega
    rw [show partsOf v = .list [.str (partA v), .str (partB v), .str (partC v)] from by unfold partsOf; rw [if_pos hl]]
    have e0 : ((ticksOf v).map fun i : Nat => PyData.int i)[0]? = some (.int ((ticksOf v).getD 0 0 : Nat)) := by
      rw [List.getElem?_map, List.getD_eq_getElem?_getD, List.getElem?_eq_getElem (by omega)]; rfl
    have e1 : ((ticksOf v).map fun i : Nat => PyData.int i)[1]? = some (.int ((ticksOf v).getD 1 0 : Nat)) := by
      rw [List.getElem?_map, List.getD_eq_getElem?_getD, List.getElem?_eq_getElem (by omega)]; rfl
    have hz : v.length ≤ sizeLine := by rw [sizeLine_eq]; omega
    refine Fm.wp_assign S₉ (Fm.Ev.list (ds := [.str (partA v), .str (partB v), .str (partC v)]) (.cons (Fm.Ev.str_slice (Fm.Ev.name rfl) .none (.some (Fm.Ev.lst_at (Fm.Ev.name rfl) (hd := e0))) hz) (.cons (Fm.Ev.str_slice (Fm.Ev.name rfl) (.some (Fm.Ev.add_int (Fm.Ev.lst_at (Fm.Ev.name rfl) (hd := e0)) .int)) (.some (Fm.Ev.lst_at (Fm.Ev.name rfl) (hd := e1))) hz) (.cons (Fm.Ev.str_slice (Fm.Ev.name rfl) (.some (Fm.Ev.add_int (Fm.Ev.lst_at (Fm.Ev.name rfl) (hd := e1)) .int)) .none hz) .nil)))) fun s10 S10 _ => ?_
    exact Fm.wp_nil ⟨rfl, S10⟩
  · have hl : ¬ 1 < (ticksOf v).length := by have := of_decide_eq_false hb; rw [List.length_map] at this; omega
    rw [show partsOf v = .tuple [.none, .none, .str v] from by unfold partsOf; rw [if_neg hl]]
    refine Fm.wp_assign S₉ (Fm.Ev.tuple (ds := [.none, .none, .str v]) (.cons .none (.cons .none (.cons (Fm.Ev.name rfl) .nil)))) fun s10 S10 _ => ?_
    exact Fm.wp_nil ⟨rfl, S10⟩
  have hpl := pathOf_len v
  refine Fm.wp_assign (T := tD (plD (placeOf n))) S₉ (Fm.Ev.ite (b := hasIn "[" (pathOf v)) (Fm.Ts.cmp .str (Fm.Ev.parts2 (Fm.Ev.name rfl)) Fm.Cm.in_str) (fun hb => ?_) (fun hb => ?_)) fun s10 S10 _ => ?_
  · rw [show placeOf n = ((Str.ofString "", [Str.ofString ""]) : Str × List Str) from by unfold placeOf; rw [hv, if_pos hb]]
    exact Fm.Ev.tuple (ds := [.str "", .list [.str ""]]) (.cons .str (.cons (Fm.Ev.list (ds := [.str ""]) (.cons .str .nil)) .nil))
  · rw [show placeOf n = (hostOf n, Txt.split (pathOf v) "/") from by unfold placeOf; rw [hv, if_neg (by rw [hb]; exact Bool.false_ne_true)]]
    exact Fm.Ev.tuple (ds := [.str (hostOf n), .list (sds (Txt.split (pathOf v) "/"))]) (.cons (Fm.Ev.name rfl) (.cons (Fm.Ev.split (Fm.Ev.parts2 (Fm.Ev.name rfl)) .str (by rw [sizeLine_eq]; omega)) .nil))
  have hhl := hostOf_len n
  have hw : (writtenOf n).length ≤ 1000 := by
    unfold writtenOf; rw [hv]; split
    · omega
    · have := qu_len v; omega
  have hrd : (readOf n).length ≤ 1000 := by
    unfold readOf; split
    · rw [hv]; omega
    · rw [Str.length_append, Str.length_append, hv]; have : (Str.ofString "\"").length = 1 := by decide
      omega
  have he : (Str.ofString "=").length = 1 := by decide
  have hs1 : (hostOf n).length + (Str.ofString "=").length ≤ sizeLine := by rw [sizeLine_eq]; omega
  refine Fm.wp_return S10 (Fm.Ev.tuple (ds := [.str ((hostOf n ++ "=") ++ writtenOf n), .str ((hostOf n ++ "=") ++ readOf n), .tuple [.str (hostOf n), .str v], partsOf v, plD (placeOf n)])
    (.cons (Fm.Ev.add_str (Fm.Ev.add_str (Fm.Ev.name rfl) .str hs1) (Fm.Ev.name rfl) (by rw [sizeLine_eq, Str.length_append]; omega)) (.cons (Fm.Ev.add_str (Fm.Ev.add_str (Fm.Ev.name rfl) .str hs1) (Fm.Ev.name rfl) (by rw [sizeLine_eq, Str.length_append]; omega)) (.cons (Fm.Ev.tuple (ds := [.str (hostOf n), .str v]) (.cons (Fm.Ev.name rfl) (.cons (Fm.Ev.name rfl) .nil))) (.cons (Fm.Ev.name rfl) (.cons (Fm.Ev.name rfl) .nil)))))) fun r s' S' _ hr' => ?_
  unfold entryD
  rw [hv]
  exact S'.fin hr'
end Mine

/-! U3 -/
namespace Mine
open PySem PySem.Spec PyProof.Rows PySem.Builtin.Str

theorem chr_beq (c d : Nat) : (chr c == (⟨#[d]⟩ : Str)) = decide (c = d) := by
  by_cases h : c = d
  · subst h; simp
  · rw [decide_eq_false h]
    refine beq_eq_false_iff_ne.mpr fun e => h ?_
    have := congrArg L e
    simpa [L] using this

theorem hasIn_one (c : Nat) (x : Str) : hasIn ⟨#[c]⟩ x = decide (c ∈ L x) := by
  unfold hasIn
  rw [occ_one]
  by_cases h : c ∈ L x
  · cases hp : posF c (L x) 0 with
    | nil => exact absurd h ((posF_nil_iff c (L x) 0).mp hp)
    | cons a l => simp [h]
  · rw [posF_free c _ 0 h]; simp [h]

theorem ticks_eq (v : Str) : ticksOf v = posF 39 (L v) 0 := by
  rw [posF_eq, L_len]
  unfold ticksOf
  apply List.filter_congr
  intro i hi
  have hi : i < v.length := by simpa using hi
  have h : i < (L v).length := by rw [L_len]; exact hi
  have e : v.cps.toList.getD i 0 = (L v)[i] := by rw [List.getD_eq_getElem?_getD, List.getElem?_eq_getElem h]; rfl
  unfold charAt
  rw [show Str.ofString "'" = (⟨#[39]⟩ : Str) from rfl, chr_beq, List.getElem?_eq_getElem h, e]
  generalize (L v)[i] = a
  by_cases q : a = 39
  · subst q; rfl
  · rw [decide_eq_false q]
    exact (beq_eq_false_iff_ne.mpr fun e => q (Option.some.inj e)).symm

theorem dec_eq (v : Str) : dec v = partsOf v := by
  have hs : Txt.splitMax v "'" 2 = StrLaws.partsFrom v 1 0 ((posF 39 (L v) 0).take 2) := by
    rw [show Str.ofString "'" = (⟨#[39]⟩ : Str) from rfl, show (2 : Int) = ((2 : Nat) : Int) from rfl, splitMax_parts v 39 2 (by decide), StrLaws.partsBetween_eq]
  have hm := posF_mem 39 (L v) 0
  have hst := posF_sorted 39 (L v) 0
  unfold dec partsOf partA partB partC
  rw [ticks_eq, hs]
  generalize posF 39 (L v) 0 = p at *
  rw [L_len] at hm
  match p with
  | [] => rw [if_pos (by simp [StrLaws.partsFrom]), if_neg (by simp)]
  | [i] => rw [if_pos (by simp [StrLaws.partsFrom]), if_neg (by simp)]
  | i :: j :: r =>
    have hi := hm i (by simp)
    have hj := hm j (by simp)
    have hij : i < j := (List.pairwise_cons.mp hst).1 j (by simp)
    rw [if_neg (by simp [StrLaws.partsFrom]), if_pos (by simp)]
    show PyData.list ([strSub v 0 i, strSub v (i + 1) j, strSub v (j + 1) v.length].map .str) = .list [.str (Txt.slice v none (some (i : Nat))), .str (Txt.slice v (some ((i : Nat) + 1 : Int)) (some (j : Nat))), .str (Txt.slice v (some ((j : Nat) + 1 : Int)) none)]
    rw [show ((i : Nat) + 1 : Int) = ((i + 1 : Nat) : Int) from rfl, show ((j : Nat) + 1 : Int) = ((j + 1 : Nat) : Int) from rfl, slice_sub_to v (by omega), slice_sub_ss v (by omega) (by omega), slice_sub_from v (by omega)]
    rfl

/-! ## signs that can be seen -/
abbrev AZ (x : Str) : Prop := ∀ c ∈ L x, 33 ≤ c ∧ c < 128
theorem AZ.app {x y : Str} (h : AZ x) (k : AZ y) : AZ (x ++ y) := fun c hc => by
  rw [L_app] at hc
  rcases List.mem_append.mp hc with q | q
  · exact h c q
  · exact k c q
theorem AZ.slice {x : Str} (h : AZ x) (l u : Option Int) : AZ (Txt.slice x l u) := fun c hc => h c (subset_slice x l u c hc)
theorem AZ.ok {x : Str} (h : AZ x) : PyData.strOk x = true := by
  unfold PyData.strOk
  rw [Array.all_eq_true']
  intro c hc
  have := h c (by simpa [L] using hc)
  exact decide_eq_true (by omega)
theorem inter_nil : ∀ ps : List (List Nat), inter [] ps = ps.flatten
  | [] => rfl
  | [p] => by simp [inter]
  | p :: q :: r => by rw [inter, inter_nil (q :: r)]; simp
theorem AZ.slashed {names : List Str} (h : ∀ x ∈ names, AZ x) : AZ (slashed names) := fun c hc => by
  unfold Mine.slashed at hc
  rw [L_tjoin, show L (Str.ofString "") = [] from rfl, inter_nil] at hc
  obtain ⟨l, hl, hc⟩ := List.mem_flatten.mp hc
  obtain ⟨y, hy, rfl⟩ := List.mem_map.mp hl
  obtain ⟨x, hx, rfl⟩ := List.mem_map.mp hy
  rw [L_app] at hc
  rcases List.mem_append.mp hc with q | q
  · have : c ∈ [47] := q
    simp at this; omega
  · exact h x hx c q
theorem AZ.name (n : Int) (k : Nat) : AZ (nameAt n k) := getD_all (P := fun x : Str => AZ x) (by decide) (by decide) _
theorem AZ.host (n : Int) : AZ (hostOf n) := getD_all (P := fun x : Str => AZ x) (by decide) (by decide) _
theorem AZ.value (n : Int) : AZ (valueOf n) := by
  unfold valueOf
  refine AZ.app (getD_all (P := fun x : Str => AZ x) (by decide) (by decide) _) (AZ.slashed fun x hx => ?_)
  obtain ⟨k, _, rfl⟩ := List.mem_map.mp hx
  exact AZ.name n k
theorem AZ.path {v : Str} (h : AZ v) : AZ (pathOf v) := by
  unfold pathOf; split
  · exact AZ.slice h _ _
  · exact h
theorem AZ.read (n : Int) : AZ (readOf n) := by
  unfold readOf; split
  · exact AZ.value n
  · exact AZ.app (AZ.app (by decide) (AZ.value n)) (by decide)
theorem AZ.qu {x : Str} (h : AZ x) : AZ (qu x) := fun c hc => by
  rw [L_qu] at hc
  rcases List.mem_cons.mp hc with q | q
  · omega
  · rcases List.mem_append.mp q with q | q
    · obtain ⟨a, ha, q⟩ := List.mem_flatMap.mp q
      have := h a ha
      unfold esc at q
      split at q
      · simp at q; omega
      · split at q
        · simp at q; omega
        · simp at q; omega
    · simp at q; omega

/-! ## the entries, split at the equals sign -/
theorem host_free (n : Int) : 61 ∉ L (hostOf n) ∧ 34 ∉ L (hostOf n) ∧ 44 ∉ L (hostOf n) := getD_all (P := fun x : Str => 61 ∉ L x ∧ 34 ∉ L x ∧ 44 ∉ L x) (by decide) (by decide) _
theorem host_mem (n : Int) : hostOf n ∈ hostL := by
  have h := fmod_lt n 4 (by decide)
  exact getD_mem hostL _ _ (by show _ < 4; omega)
def rawOf (n : Int) : Str := (hostOf n ++ "=") ++ writtenOf n
def itemOf (n : Int) : Str := (hostOf n ++ "=") ++ readOf n
def prOf (n : Int) : Str × Str := (hostOf n, valueOf n)
theorem L_item (n : Int) : L (itemOf n) = L (hostOf n) ++ 61 :: L (readOf n) := by
  unfold itemOf; rw [L_app, L_app]; show L (hostOf n) ++ [61] ++ _ = _; simp
theorem L_raw (n : Int) : L (rawOf n) = L (hostOf n) ++ 61 :: L (writtenOf n) := by
  unfold rawOf; rw [L_app, L_app]; show L (hostOf n) ++ [61] ++ _ = _; simp
theorem eqSplit_item (n : Int) : eqSplit (itemOf n) = [hostOf n, readOf n] := splitMax_2 (c := 61) (L_item n) (host_free n).1
theorem read_len (n : Int) : 0 < (readOf n).length ∧ (readOf n).length ≤ 18 := by
  have := valueOf_len n
  unfold readOf; split
  · rename_i hb
    refine ⟨Nat.pos_of_ne_zero fun h => ?_, by omega⟩
    have e : valueOf n = Str.ofString "" := L_inj (show L (valueOf n) = [] from List.eq_nil_of_length_eq_zero (by rw [L_len]; exact h))
    unfold bareOf at hb
    simp only [Bool.and_eq_true, e] at hb
    exact absurd hb.2.1 (by decide)
  · rw [Str.length_append, Str.length_append]
    have : (Str.ofString "\"").length = 1 := by decide
    omega
theorem good_item (n : Int) : Good (itemOf n) := ⟨_, _, eqSplit_item n, (read_len n).1, by have := (read_len n).2; omega⟩
theorem bare_free {n : Int} (h : bareOf n = true) : 34 ∉ L (valueOf n) ∧ 44 ∉ L (valueOf n) := by
  unfold bareOf at h
  rw [show Str.ofString "\"" = (⟨#[34]⟩ : Str) from rfl, show Str.ofString "," = (⟨#[44]⟩ : Str) from rfl, hasIn_one, hasIn_one] at h
  simp only [Bool.and_eq_true, Bool.not_eq_true', decide_eq_false_iff_not] at h
  exact h.2.2
theorem chAt_ne {v : Str} (h : 34 ∉ L v) (hv : 0 < v.length) : (chAt v 0 == "\"") = false := by
  have h0 : 0 < (L v).length := by rw [L_len]; exact hv
  unfold chAt
  rw [show Str.ofString "\"" = (⟨#[34]⟩ : Str) from rfl, chr_beq]
  refine decide_eq_false fun e => h ?_
  rw [List.getD_eq_getElem?_getD, List.getElem?_eq_getElem h0] at e
  have e : (L v)[0] = 34 := e
  rw [← e]; exact List.getElem_mem _
theorem unq_read (n : Int) : unq (readOf n) = valueOf n := by
  have hl := (read_len n).1
  unfold readOf at hl ⊢
  split
  · rename_i hb
    rw [if_pos hb] at hl
    unfold unq quoted
    rw [chAt_ne (bare_free hb).1 hl]
    rfl
  · have hL : L ((Str.ofString "\"" ++ valueOf n) ++ Str.ofString "\"") = 34 :: (L (valueOf n) ++ [34]) := by
      rw [L_app, L_app]; rfl
    generalize hx : (Str.ofString "\"" ++ valueOf n) ++ Str.ofString "\"" = x at *
    have hq : quoted x = true := by
      unfold quoted chAt
      rw [show Str.ofString "\"" = (⟨#[34]⟩ : Str) from rfl, chr_beq, chr_beq, ← L_len]
      show (decide ((L x).getD 0 0 = 34) && decide ((L x).getD ((L x).length - 1) 0 = 34)) = true
      rw [hL]
      simp [List.getD_eq_getElem?_getD]
    unfold unq
    rw [if_pos hq]
    exact L_inj (L_slice_in x hL)
theorem kvStep_item (acc : List (Str × Str)) (n : Int) : kvStep acc (itemOf n) = put acc (hostOf n) (valueOf n) := by
  unfold kvStep; rw [eqSplit_item, ← unq_read n]
theorem kvAll_item (n : Int) : kvAll [itemOf n] = [prOf n] := by
  show kvStep [] (itemOf n) = _
  rw [kvStep_item]; rfl

def oddL : List Str := ["x=\"a", "y=a\"", "z=\"", "w=="]
def oddP : List (Str × Str) := [("x", "\"a"), ("y", "a\""), ("z", ""), ("w", "=")]
theorem put_new {kvs : List (Str × Str)} {k v : Str} (h : ∀ p ∈ kvs, p.1 ≠ k) : put kvs k v = kvs ++ [(k, v)] := by
  unfold put
  rw [if_neg]
  intro q
  obtain ⟨p, hp, hk⟩ := List.any_eq_true.mp q
  exact h p hp (of_decide_eq_true hk)
theorem put_keys {kvs : List (Str × Str)} {k v : Str} : ∀ p ∈ put kvs k v, p.1 = k ∨ ∃ q ∈ kvs, p.1 = q.1 := by
  unfold put; split
  · intro p hp
    obtain ⟨q, hq, rfl⟩ := List.mem_map.mp hp
    refine .inr ⟨q, hq, ?_⟩
    split <;> rfl
  · intro p hp
    rcases List.mem_append.mp hp with q | q
    · exact .inr ⟨p, q, rfl⟩
    · simp at q; subst q; exact .inl rfl
def putAll' (ps : List (Str × Str)) (acc : List (Str × Str)) : List (Str × Str) := ps.foldl (fun acc p => put acc p.1 p.2) acc
theorem putAll_keys : ∀ (ps acc : List (Str × Str)), ∀ p ∈ putAll' ps acc, (∃ q ∈ ps, p.1 = q.1) ∨ ∃ q ∈ acc, p.1 = q.1
  | [], acc, p, h => .inr ⟨p, h, rfl⟩
  | a :: ps, acc, p, h => by
    rcases putAll_keys ps (put acc a.1 a.2) p h with ⟨q, hq, e⟩ | ⟨q, hq, e⟩
    · exact .inl ⟨q, List.mem_cons_of_mem _ hq, e⟩
    · rcases put_keys q hq with h2 | ⟨r, hr, h2⟩
      · exact .inl ⟨a, by simp, e.trans h2⟩
      · exact .inr ⟨r, hr, e.trans h2⟩
theorem kv_items : ∀ (N : List Int) (acc : List (Str × Str)), (N.map itemOf).foldl kvStep acc = putAll' (N.map prOf) acc
  | [], _ => rfl
  | n :: N, acc => by
    rw [List.map_cons, List.foldl_cons, kvStep_item, kv_items N]; rfl
theorem kvStep_pair {x k v : Str} (h : L x = L k ++ 61 :: L v) (hk : 61 ∉ L k) {u : Str} (hu : unq v = u) {acc : List (Str × Str)} (hn : ∀ p ∈ acc, p.1 ≠ k) : kvStep acc x = acc ++ [(k, u)] := by
  have : eqSplit x = [k, v] := splitMax_2 (c := 61) h hk
  unfold kvStep
  rw [this, ← hu]
  exact put_new hn
theorem kvAll_odd (N : List Int) : kvAll (N.map itemOf ++ oddL) = putAll' (N.map prOf) [] ++ oddP := by
  unfold kvAll
  rw [List.foldl_append, kv_items]
  have hk : ∀ p ∈ putAll' (N.map prOf) [], p.1 ∈ hostL := fun p hp => by
    rcases putAll_keys _ _ p hp with ⟨q, hq, e⟩ | ⟨q, hq, e⟩
    · obtain ⟨n, _, rfl⟩ := List.mem_map.mp hq
      rw [e]; exact host_mem n
    · exact nomatch hq
  have nx : Str.ofString "x" ∉ hostL ∧ Str.ofString "y" ∉ hostL ∧ Str.ofString "z" ∉ hostL ∧ Str.ofString "w" ∉ hostL := by decide
  generalize putAll' (N.map prOf) [] = acc at *
  have ap : ∀ (l : List (Str × Str)) (k v z : Str), (∀ p ∈ l, p.1 ≠ z) → k ≠ z → ∀ p ∈ l ++ [(k, v)], p.1 ≠ z := fun l k v z h hz p hp => by
    rcases List.mem_append.mp hp with q | q
    · exact h p q
    · simp at q; subst q; exact hz
  have h0 : ∀ z, z ∉ hostL → ∀ p ∈ acc, p.1 ≠ z := fun z hz p hp e => hz (e ▸ hk p hp)
  show kvStep (kvStep (kvStep (kvStep acc "x=\"a") "y=a\"") "z=\"") "w==" = acc ++ oddP
  rw [kvStep_pair (x := "x=\"a") (k := "x") (v := "\"a") (u := "\"a") (by decide) (by decide) (by decide) (h0 _ nx.1),
    kvStep_pair (x := "y=a\"") (k := "y") (v := "a\"") (u := "a\"") (by decide) (by decide) (by decide) (ap _ _ _ _ (h0 _ nx.2.1) (by decide)),
    kvStep_pair (x := "z=\"") (k := "z") (v := "\"") (u := "") (by decide) (by decide) (by decide) (ap _ _ _ _ (ap _ _ _ _ (h0 _ nx.2.2.1) (by decide)) (by decide)),
    kvStep_pair (x := "w==") (k := "w") (v := "=") (u := "=") (by decide) (by decide) (by decide) (ap _ _ _ _ (ap _ _ _ _ (ap _ _ _ _ (h0 _ nx.2.2.2) (by decide)) (by decide)) (by decide))]
  simp [oddP]
theorem good_odd : ∀ x ∈ oddL, Good x := by
  intro x hx
  unfold oddL at hx
  simp only [List.mem_cons, List.not_mem_nil, or_false] at hx
  rcases hx with rfl | rfl | rfl | rfl
  · exact ⟨"x", "\"a", splitMax_2 (c := 61) (by decide) (by decide), by decide, by decide⟩
  · exact ⟨"y", "a\"", splitMax_2 (c := 61) (by decide) (by decide), by decide, by decide⟩
  · exact ⟨"z", "\"", splitMax_2 (c := 61) (by decide) (by decide), by decide, by decide⟩
  · exact ⟨"w", "=", splitMax_2 (c := 61) (by decide) (by decide), by decide, by decide⟩
theorem bad_h : Bad "ValueError" "h" := .inl ⟨rfl, "h", splitMax_1 (c := 61) (by decide)⟩
theorem bad_he : Bad "IndexError" "h=" := .inr ⟨rfl, "h", splitMax_2 (c := 61) (by decide) (by decide)⟩
end Mine

/-! U4 -/
namespace Mine
open PySem PySem.Spec PyProof.Rows PySem.Builtin.Str

abbrev mk (l : List Nat) : Str := ⟨l.toArray⟩
theorem app_assoc (x y z : Str) : (x ++ y) ++ z = x ++ (y ++ z) := L_inj (by simp [L_app])
theorem chr_mk (c : Nat) (l : List Nat) : chr c ++ mk l = mk (c :: l) := L_inj (by rw [L_app]; rfl)
theorem app_mk_nil (x : Str) : x ++ mk [] = x := L_inj (by rw [L_app]; simp)
theorem mk_L (x : Str) : mk (L x) = x := L_inj rfl
theorem mk_app (a b : List Nat) : mk (a ++ b) = mk a ++ mk b := L_inj (by rw [L_app])

theorem ps_plain (res : List Str) : ∀ (l : List Nat) (part : Str), 34 ∉ l → 44 ∉ l → l.foldl PS.step ⟨res, part, false, false⟩ = ⟨res, part ++ mk l, false, false⟩
  | [], part, _, _ => by rw [app_mk_nil]; rfl
  | c :: l, part, h, k => by
    have h1 : (chr c == Str.ofString ",") = false := by rw [show Str.ofString "," = (⟨#[44]⟩ : Str) from rfl, chr_beq]; exact decide_eq_false fun e => k (by simp [e])
    have h2 : (chr c == Str.ofString "\"") = false := by rw [show Str.ofString "\"" = (⟨#[34]⟩ : Str) from rfl, chr_beq]; exact decide_eq_false fun e => h (by simp [e])
    have e : PS.step ⟨res, part, false, false⟩ c = ⟨res, part ++ chr c, false, false⟩ := by
      unfold PS.step; rw [h1, h2]; rfl
    rw [List.foldl_cons, e, ps_plain res l (part ++ chr c) (fun e => h (List.mem_cons_of_mem _ e)) (fun e => k (List.mem_cons_of_mem _ e)), app_assoc, chr_mk]
theorem ps_body (res : List Str) : ∀ (l : List Nat) (part : Str), (l.flatMap esc).foldl PS.step ⟨res, part, false, true⟩ = ⟨res, part ++ mk l, false, true⟩
  | [], part => by rw [app_mk_nil]; rfl
  | c :: l, part => by
    have e : (esc c).foldl PS.step ⟨res, part, false, true⟩ = ⟨res, part ++ chr c, false, true⟩ := by
      unfold esc
      by_cases h : c = 92
      · subst h; rfl
      · rw [if_neg h]
        by_cases h2 : c = 34
        · subst h2; rfl
        · rw [if_neg h2]
          have h1 : (chr c == Str.ofString "\\") = false := by rw [show Str.ofString "\\" = (⟨#[92]⟩ : Str) from rfl, chr_beq]; exact decide_eq_false h
          have h3 : (chr c == Str.ofString "\"") = false := by rw [show Str.ofString "\"" = (⟨#[34]⟩ : Str) from rfl, chr_beq]; exact decide_eq_false h2
          show PS.step ⟨res, part, false, true⟩ c = _
          unfold PS.step; rw [h1, h3]; rfl
    rw [List.flatMap_cons, List.foldl_append, e, ps_body res l (part ++ chr c), app_assoc, chr_mk]
theorem ps_entry (res : List Str) (part : Str) (n : Int) : (L (rawOf n)).foldl PS.step ⟨res, part, false, false⟩ = ⟨res, part ++ itemOf n, false, false⟩ := by
  obtain ⟨_, h34, h44⟩ := host_free n
  have e : L (rawOf n) = (L (hostOf n) ++ [61]) ++ L (writtenOf n) := by rw [L_raw]; simp
  rw [e, List.foldl_append, ps_plain res (L (hostOf n) ++ [61]) part (by simp [h34]) (by simp [h44])]
  have e2 : itemOf n = mk (L (hostOf n) ++ [61]) ++ readOf n := L_inj (by rw [L_item, L_app]; exact List.append_cons _ _ _)
  rw [e2, ← app_assoc]
  unfold writtenOf readOf
  split
  · rename_i hb
    rw [ps_plain res _ _ (bare_free hb).1 (bare_free hb).2, mk_L]
  · rw [L_qu]
    generalize part ++ mk (L (hostOf n) ++ [61]) = p
    have s1 : PS.step ⟨res, p, false, false⟩ 34 = ⟨res, p ++ chr 34, false, true⟩ := rfl
    rw [List.foldl_cons, s1, List.foldl_append, ps_body]
    show PS.step ⟨res, (p ++ chr 34) ++ mk (L (valueOf n)), false, true⟩ 34 = _
    have s2 : ∀ q, PS.step ⟨res, q, false, true⟩ 34 = ⟨res, q ++ chr 34, false, false⟩ := fun _ => rfl
    rw [s2, mk_L]
    rw [show Str.ofString "\"" = chr 34 from rfl, app_assoc, app_assoc, app_assoc]

/-- the white signs at both ends -/
theorem strip_ends {a m b : List Nat} {x : Str} (hx : L x = a ++ m ++ b) (ha : ∀ c ∈ a, c = 9 ∨ c = 32) (hb : ∀ c ∈ b, c = 9 ∨ c = 32) (hm : ∀ c ∈ m, 33 ≤ c ∧ c < 128) (hne : m ≠ []) : L (Txt.strip x) = m := by
  have hA : ∀ c ∈ x.cps.toList, c < 128 := fun c hc => by
    have hc : c ∈ L x := hc
    rw [hx] at hc
    rcases List.mem_append.mp hc with q | q
    · rcases List.mem_append.mp q with q | q
      · have := ha c q; omega
      · exact (hm c q).2
    · have := hb c q; omega
  have hs : ∀ c, c = 9 ∨ c = 32 → spS ⟨#[c]⟩ = true := fun c h => by rcases h with rfl | rfl <;> decide
  have hv : ∀ c, 33 ≤ c ∧ c < 128 → spS ⟨#[c]⟩ = false := fun c h => by
    obtain ⟨h1, h2⟩ := h
    have : ∀ d : Fin 128, 33 ≤ d.val → spS ⟨#[d.val]⟩ = false := by decide +kernel
    exact this ⟨c, h2⟩ h1
  have hl : x.length = a.length + m.length + b.length := by rw [← L_len, hx]; simp; omega
  have hmp : 0 < m.length := List.length_pos_iff.mpr hne
  have gd : ∀ k, x.cps.getD k 0 = (L x).getD k 0 := fun k => (getD_list x k).symm
  have ia : ∀ k, k < a.length → spS ⟨#[x.cps.getD k 0]⟩ = true := fun k hk => by
    rw [gd, hx]
    refine hs _ (ha _ ?_)
    rw [List.getD_eq_getElem?_getD, List.getElem?_append_left (by simp; omega), List.getElem?_append_left hk, List.getElem?_eq_getElem hk]
    exact List.getElem_mem _
  have im : ∀ k, a.length ≤ k → k < a.length + m.length → spS ⟨#[x.cps.getD k 0]⟩ = false := fun k h1 h2 => by
    rw [gd, hx]
    refine hv _ (hm _ ?_)
    rw [List.getD_eq_getElem?_getD, List.getElem?_append_left (by simp; omega), List.getElem?_append_right h1, List.getElem?_eq_getElem (by omega)]
    exact List.getElem_mem _
  have ib : ∀ k, a.length + m.length ≤ k → k < x.length → spS ⟨#[x.cps.getD k 0]⟩ = true := fun k h1 h2 => by
    rw [gd, hx]
    refine hs _ (hb _ ?_)
    rw [List.getD_eq_getElem?_getD, List.getElem?_append_right (by simp; omega), List.getElem?_eq_getElem (by simp; omega)]
    exact List.getElem_mem _
  obtain ⟨lo, hi, h1, h2, h3, h4, h5, h6⟩ := strip_cut hA
  have no : ∀ {q : Prop} k, spS ⟨#[x.cps.getD k 0]⟩ = true → spS ⟨#[x.cps.getD k 0]⟩ = false → q := fun k h k' => by rw [h] at k'; cases k'
  have l1 : lo ≤ a.length := Nat.le_of_not_lt fun h => no a.length (h4 _ h) (im _ (Nat.le_refl _) (by omega))
  have l2 : a.length + m.length ≤ hi := Nat.le_of_not_lt fun h => by
    by_cases hh : hi ≤ a.length
    · exact no a.length (h5 _ hh (by omega)) (im _ (Nat.le_refl _) (by omega))
    · exact no hi (h5 hi (Nat.le_refl _) (by omega)) (im hi (by omega) h)
  rcases h6 with h6 | ⟨h6, h7⟩
  · omega
  have l3 : a.length ≤ lo := Nat.le_of_not_lt fun h => no lo (ia lo h) h6
  have l4 : hi ≤ a.length + m.length := Nat.le_of_not_lt fun h => no (hi - 1) (ib _ (by omega) (by omega)) h7
  have e1 : lo = a.length := by omega
  have e2 : hi = a.length + m.length := by omega
  rw [h3, L_sub, hx, e1, e2]
  simp
theorem item_az (n : Int) : AZ (itemOf n) := by
  unfold itemOf; exact AZ.app (AZ.app (AZ.host n) (by decide)) (AZ.read n)
theorem item_ne (n : Int) : L (itemOf n) ≠ [] := by rw [L_item]; simp
theorem strip_item {part : Str} {b : List Nat} {n : Int} {x : Str} (hp : L part = [] ∨ L part = [9]) (hb : b = [] ∨ b = [32]) (hx : L x = L part ++ L (itemOf n) ++ b) : Txt.strip x = itemOf n :=
  L_inj (strip_ends hx (fun c hc => by rcases hp with h | h <;> rw [h] at hc <;> simp at hc; exact .inl hc) (fun c hc => by rcases hb with h | h <;> rw [h] at hc <;> simp at hc; exact .inr hc) (item_az n) (item_ne n))

theorem ps_header : ∀ (N : List Int) (n : Int) (res : List Str) (part : Str), L part = [] ∨ L part = [9] →
    ∃ res' part' m, (inter [32, 44, 9] ((n :: N).map fun n => L (rawOf n))).foldl PS.step ⟨res, part, false, false⟩ = ⟨res', part', false, false⟩ ∧ (∃ q, (L q = [] ∨ L q = [9]) ∧ part' = q ++ itemOf m) ∧ res'.map Txt.strip ++ [itemOf m] = res.map Txt.strip ++ (n :: N).map itemOf
  | [], n, res, part, hp => ⟨res, part ++ itemOf n, n, ps_entry res part n, ⟨part, hp, rfl⟩, rfl⟩
  | m :: N, n, res, part, hp => by
    obtain ⟨res', part', k, h1, h2, h3⟩ := ps_header N m (res ++ [(part ++ itemOf n) ++ chr 32]) (chr 9) (.inr rfl)
    refine ⟨res', part', k, ?_, h2, ?_⟩
    · rw [List.map_cons, List.map_cons, inter, List.foldl_append, List.foldl_append, ps_entry]
      have s : [32, 44, 9].foldl PS.step ⟨res, part ++ itemOf n, false, false⟩ = ⟨res ++ [(part ++ itemOf n) ++ chr 32], chr 9, false, false⟩ := by
        show (⟨res ++ [(part ++ itemOf n) ++ chr 32], Str.ofString "" ++ chr 9, false, false⟩ : PS) = _
        rw [show Str.ofString "" ++ chr 9 = chr 9 from L_inj (by rw [L_app]; rfl)]
      rw [s]; exact h1
    · rw [h3, List.map_append]
      have : Txt.strip ((part ++ itemOf n) ++ chr 32) = itemOf n := strip_item hp (.inr rfl) (by rw [L_app, L_app])
      simp [this]
theorem parsed_header (n : Int) (N : List Int) : parsed (Txt.join " ,\t" ((n :: N).map rawOf)) = (n :: N).map itemOf := by
  obtain ⟨res', part', m, h1, ⟨q, hq, h2⟩, h3⟩ := ps_header N n [] "" (.inl rfl)
  generalize hx : Txt.join " ,\t" ((n :: N).map rawOf) = x
  have hL : L x = inter [32, 44, 9] ((n :: N).map fun n => L (rawOf n)) := by
    rw [← hx, L_tjoin, List.map_map]; rfl
  have e : psAt x x.length = ⟨res', part', false, false⟩ := by
    unfold psAt
    rw [show x.cps.toList = L x from rfl, ← L_len, List.take_length, hL]; exact h1
  unfold parsed
  rw [e]
  have hne : ((part'.length : Int) != 0) = true := by
    have : part'.length ≠ 0 := fun h => by
      rw [← L_len, h2, L_app, List.length_append] at h
      exact item_ne m (List.eq_nil_of_length_eq_zero (by omega))
    exact bne_iff_ne.mpr (by omega)
  show (if ((part'.length : Int) != 0) = true then res' ++ [part'] else res').map Txt.strip = _
  rw [if_pos hne, List.map_append, List.map_cons, List.map_nil, h2, strip_item (n := m) (b := []) hq (.inl rfl) (by rw [L_app]; simp), h3]
  rfl
end Mine

/-! U5 -/
namespace Mine
open PySem PySem.Spec PyProof.Rows PySem.Builtin.Str

def givenOf (n : Int) : Str × Str := (hostOf n, pathOf (valueOf n))
def pairOf (n : Int) : Str × Str := valid (givenOf n)
theorem place_eq (n : Int) : placeOf n = ((pairOf n).1, Txt.split (pairOf n).2 "/") := by
  unfold placeOf pairOf valid givenOf
  dsimp only
  split
  · rw [show Str.ofString "/" = (⟨#[47]⟩ : Str) from rfl]
    have : Txt.split (Str.ofString "") ⟨#[47]⟩ = [Str.ofString ""] := by
      have h := L_split (Str.ofString "") 47
      rw [show L (Str.ofString "") = [] from rfl] at h
      match hh : Txt.split (Str.ofString "") ⟨#[47]⟩ with
      | [] => exact absurd hh (split_ne _ _)
      | [a] =>
        rw [hh] at h
        have h : [L a] = [[]] := h
        rw [show a = Str.ofString "" from L_inj (by rw [List.cons.inj h |>.1]; rfl)]
      | a :: b :: r => rw [hh] at h; simp [spl] at h
    rw [this]
  · rfl
theorem pair_join (n : Int) : pairOf n = ((placeOf n).1, Txt.join "/" (placeOf n).2) := by
  rw [place_eq]
  unfold Txt.join
  rw [StrLaws.glued_eq_join, StrLaws.join_split]

/-! ## equality of data -/
theorem eqv_strs : ∀ ps qs : List Str, PyData.eqvAll (sds ps) (sds qs) = decide (ps = qs)
  | [], [] => by simp [PyData.eqvAll]
  | [], q :: qs => by simp [PyData.eqvAll]
  | p :: ps, [] => by simp [PyData.eqvAll]
  | p :: ps, q :: qs => by
    show (PyData.eqv (.str p) (.str q) && PyData.eqvAll (sds ps) (sds qs)) = _
    rw [eqv_strs ps qs, PyData.eqv]
    by_cases h : p = q
    · subst h; simp
    · rw [beq_eq_false_iff_ne.mpr h]; simp [h]
theorem eqv_pair (h p h' p' : Str) : PyData.eqv (pairD h p) (pairD h' p') = (h == h' && p == p') := by
  simp [PyData.eqv, PyData.eqvAll]
theorem eqv_place (h : Str) (ps : List Str) (h' : Str) (qs : List Str) : PyData.eqv (placeD h ps) (placeD h' qs) = (h == h' && decide (ps = qs)) := by
  show (PyData.eqv (.str h) (.str h') && (PyData.eqv (.list (sds ps)) (.list (sds qs)) && true)) = _
  rw [PyData.eqv, PyData.eqv, eqv_strs, Bool.and_true]

/-! ## a path's pieces -/
theorem inter_app (sep : List Nat) : ∀ (F R : List (List Nat)), F ≠ [] → R ≠ [] → inter sep (F ++ R) = inter sep F ++ sep ++ inter sep R
  | [], _, h, _ => absurd rfl h
  | [p], [], _, h => absurd rfl h
  | [p], q :: r, _, _ => rfl
  | p :: q :: r, R, _, h => by
    show inter sep (p :: q :: (r ++ R)) = _
    rw [inter, inter, show q :: (r ++ R) = (q :: r) ++ R from rfl, inter_app sep (q :: r) R (by simp) h]
    simp
theorem spl_app (c : Nat) : ∀ (F : List (List Nat)) (r : List Nat), F ≠ [] → (∀ p ∈ F, c ∉ p) → spl c (inter [c] F ++ c :: r) = F ++ spl c r
  | [], _, h, _ => absurd rfl h
  | [p], r, _, h => spl_cons c p r (h p (by simp))
  | p :: q :: F, r, _, h => by
    rw [inter, List.append_assoc, List.append_assoc, List.singleton_append, spl_cons c p _ (h p (by simp)), spl_app c (q :: F) r (by simp) (fun x hx => h x (List.mem_cons_of_mem _ hx))]
    rfl
def frontL (P : List (List Nat)) : List (List Nat) := if 1 < P.length ∧ P[P.length - 1]? = some [] then P.take (P.length - 1) else P
theorem frontL_spl (c : Nat) (l : List Nat) : frontL (spl c l) ≠ [] ∧ (∀ p ∈ frontL (spl c l), c ∉ p) ∧ (if l.getLast? = some c then l else l ++ [c]) = inter [c] (frontL (spl c l)) ++ [c] := by
  by_cases h : l.getLast? = some c
  · obtain ⟨m, rfl⟩ := List.getLast?_eq_some_iff.mp h
    have e : spl c (m ++ [c]) = spl c m ++ [[]] := by
      have := spl_app c (spl c m) [] (spl_ne c m) (fun p hp => spl_mem_free c m p hp)
      rw [inter_spl] at this; exact this
    have hf : frontL (spl c m ++ [[]]) = spl c m := by
      have : 0 < (spl c m).length := List.length_pos_iff.mpr (spl_ne c m)
      unfold frontL
      rw [if_pos ⟨by simp; omega, by simp⟩]
      simp
    rw [if_pos h, e, hf, inter_spl]
    exact ⟨spl_ne c m, fun p hp => spl_mem_free c m p hp, rfl⟩
  · have hf : frontL (spl c l) = spl c l := by
      unfold frontL
      rw [if_neg]
      rintro ⟨h1, h2⟩
      obtain ⟨P, hP⟩ : ∃ P, spl c l = P ++ [[]] := by
        refine ⟨(spl c l).take ((spl c l).length - 1), ?_⟩
        have hlt : (spl c l).length - 1 < (spl c l).length := by omega
        rw [List.getElem?_eq_getElem hlt] at h2
        have h2 := Option.some.inj h2
        have := List.take_succ_eq_append_getElem hlt
        rw [h2, Nat.sub_add_cancel (by omega), List.take_length] at this
        exact this
      have hne : P ≠ [] := fun e => by rw [hP, e] at h1; simp at h1
      have := inter_spl c l
      rw [hP, inter_app [c] P [[]] hne (by simp)] at this
      apply h
      rw [← this]
      simp [inter]
    rw [if_neg h, hf, inter_spl]
    exact ⟨spl_ne c l, fun p hp => spl_mem_free c l p hp, rfl⟩
theorem prefix_spl (c : Nat) (F : List (List Nat)) (hF : F ≠ []) (hf : ∀ p ∈ F, c ∉ p) (l : List Nat) : inter [c] F ++ [c] <+: l ↔ F.length < (spl c l).length ∧ (spl c l).take F.length = F := by
  constructor
  · rintro ⟨r, rfl⟩
    rw [List.append_assoc, List.singleton_append, spl_app c F r hF hf]
    have := List.length_pos_iff.mpr (spl_ne c r)
    exact ⟨by simp; omega, by simp⟩
  · rintro ⟨h1, h2⟩
    have e := inter_spl c l
    have e2 : spl c l = F ++ (spl c l).drop F.length := by conv => lhs; rw [← List.take_append_drop F.length (spl c l), h2]
    have hR : (spl c l).drop F.length ≠ [] := fun q => by have := congrArg List.length q; simp at this; omega
    rw [e2, inter_app [c] F _ hF hR] at e
    exact ⟨inter [c] ((spl c l).drop F.length), e⟩

theorem last_slash (p : Str) : (Txt.slice p (some (-1)) none != "/") = !decide ((L p).getLast? = some 47) := by
  have hlen : (L p).length = p.length := L_len p
  by_cases hp : p.length = 0
  · have e : p = Str.ofString "" := L_inj (show L p = [] from List.eq_nil_of_length_eq_zero (by rw [L_len]; exact hp))
    subst e; decide
  · have hs : L (Txt.slice p (some (-1)) none) = (L p).drop (p.length - 1) := by
      have : Txt.slice p (some (-1)) none = Txt.slice p (some ((p.length - 1 : Nat) : Int)) none := by
        show StrLaws.sliceText p _ _ = StrLaws.sliceText p _ _
        rw [StrLaws.sliceText_neg_lo p none (by decide) (by omega)]
        congr 2; omega
      rw [this, L_slice_from p (by omega)]
    have hlt : p.length - 1 < (L p).length := by omega
    rw [List.drop_eq_getElem_cons hlt, List.drop_eq_nil_of_le (by omega)] at hs
    have hl : (L p).getLast? = some (L p)[p.length - 1] := by
      rw [List.getLast?_eq_getElem?, hlen, List.getElem?_eq_getElem hlt]
    rw [hl]
    have e : Txt.slice p (some (-1)) none = chr (L p)[p.length - 1] := L_inj hs
    rw [e]
    show (!(chr (L p)[p.length - 1] == (⟨#[47]⟩ : Str))) = _
    rw [chr_beq]
    simp
theorem L_pre (p : Str) : L (pre p) = if (L p).getLast? = some 47 then L p else L p ++ [47] := by
  unfold pre
  rw [last_slash]
  by_cases h : (L p).getLast? = some 47
  · rw [if_pos h, decide_eq_true h, if_neg (by decide)]
  · rw [if_neg h, decide_eq_false h, if_pos (by decide), L_app]; rfl
theorem startswith_iff (x y : Str) : Txt.startswith x y = true ↔ L y <+: L x := by
  unfold Txt.startswith
  rw [Bool.and_eq_true, decide_eq_true_iff, StrLaws.subAt_eq, beq_iff_eq]
  show 0 + y.length ≤ x.length ∧ ((L x).drop 0).take y.length = L y ↔ _
  rw [List.drop_zero, Nat.zero_add]
  constructor
  · rintro ⟨_, h⟩; exact ⟨(L x).drop y.length, by rw [← h]; simp⟩
  · rintro ⟨r, h⟩
    rw [← h, ← L_len y, ← L_len x, ← h]
    simp
theorem map_front (ps : List Str) : (frontOf ps).map L = frontL (ps.map L) := by
  unfold frontOf frontL
  have hi : (ps[ps.length - 1]? = some (Str.ofString "")) ↔ ((ps.map L)[(ps.map L).length - 1]? = some []) := by
    rw [List.length_map, List.getElem?_map]
    cases h : ps[ps.length - 1]? with
    | none => simp
    | some a =>
      simp only [Option.some.injEq, Option.map_some]
      exact ⟨fun e => by rw [e]; rfl, fun e => L_inj e⟩
  by_cases h : 1 < ps.length ∧ ps[ps.length - 1]? = some (Str.ofString "")
  · rw [if_pos h, if_pos ⟨by simpa using h.1, hi.mp h.2⟩]; simp
  · rw [if_neg h, if_neg fun q => h ⟨by simpa using q.1, hi.mpr q.2⟩]
theorem longer_iff (ps qs : List Str) : longer ps qs = true ↔ (frontL (ps.map L)).length < (qs.map L).length ∧ (qs.map L).take (frontL (ps.map L)).length = frontL (ps.map L) := by
  unfold longer
  rw [PyData.eqv, eqv_strs, Bool.and_eq_true, decide_eq_true_iff, decide_eq_true_iff, ← map_front, List.length_map, List.length_map]
  refine and_congr Iff.rfl ⟨fun h => ?_, fun h => ?_⟩
  · rw [← List.map_take, h]
  · rw [← List.map_take] at h
    exact (List.map_inj_right fun a b e => L_inj e).mp h
theorem starts_longer (p p' : Str) : Txt.startswith p' (pre p) = longer (Txt.split p "/") (Txt.split p' "/") := by
  rw [Bool.eq_iff_iff, startswith_iff, longer_iff, show Str.ofString "/" = (⟨#[47]⟩ : Str) from rfl, L_split, L_split, L_pre]
  obtain ⟨h1, h2, h3⟩ := frontL_spl 47 (L p)
  rw [h3]
  exact prefix_spl 47 _ h1 h2 _
theorem split_inj {p p' : Str} (h : Txt.split p "/" = Txt.split p' "/") : p = p' := by
  rw [← StrLaws.join_split p "/", h, StrLaws.join_split]
theorem suburi_covers (h p h' p' : Str) : suburi h p h' p' = covers h (Txt.split p "/") h' (Txt.split p' "/") := by
  unfold suburi covers
  rw [eqv_pair, eqv_place, starts_longer]
  by_cases e1 : h = h'
  · subst e1
    by_cases e2 : p = p'
    · subst e2; simp
    · have : ¬ Txt.split p "/" = Txt.split p' "/" := fun q => e2 (split_inj q)
      simp [this, e2]
  · simp [e1]
theorem told_covers (n m : Int) : suburi (pairOf n).1 (pairOf n).2 (pairOf m).1 (pairOf m).2 = covers (placeOf n).1 (placeOf n).2 (placeOf m).1 (placeOf m).2 := by
  rw [place_eq, place_eq]; exact suburi_covers ..

/-- to cover is transitive -/
theorem suburi_trans {h p h' p' h'' p'' : Str} (a : suburi h p h' p' = true) (b : suburi h' p' h'' p'' = true) : suburi h p h'' p'' = true := by
  unfold suburi at *
  rw [eqv_pair] at *
  by_cases e1 : h = h'
  · subst e1
    by_cases e2 : h = h''
    · subst e2
      by_cases e3 : p = p'
      · subst e3; exact b
      · by_cases e4 : p' = p''
        · subst e4; exact a
        · simp only [beq_self_eq_true, Bool.true_and, beq_iff_eq, e3, e4, if_false, bne_self_eq_false, Bool.false_eq_true] at a b
          rw [startswith_iff] at a b
          have hp : L p' <+: L (pre p') := by
            rw [L_pre]; split
            · exact List.prefix_rfl
            · exact List.prefix_append _ _
          have : Txt.startswith p'' (pre p) = true := (startswith_iff _ _).mpr (a.trans (hp.trans b))
          rw [this]
          simp
    · simp [e2] at b
  · simp [e1] at a
theorem path_len (n : Int) : (pairOf n).2.length ≤ 16 ∧ (pairOf n).1.length ≤ 2 := by
  have := pathOf_len (valueOf n)
  have := valueOf_len n
  have := hostOf_len n
  unfold pairOf valid givenOf
  dsimp only
  split
  · exact ⟨by decide, by decide⟩
  · exact ⟨by dsimp only; omega, by dsimp only; omega⟩
theorem pair_az (n : Int) : AZ (pairOf n).1 ∧ AZ (pairOf n).2 := by
  unfold pairOf valid givenOf
  dsimp only
  split
  · exact ⟨by decide, by decide⟩
  · exact ⟨AZ.host n, AZ.path (AZ.value n)⟩
end Mine

/-! N1 -/
namespace Mine
open PySem PySem.Spec PyProof.Rows

abbrev ids (ns : List Nat) : List PyData := ns.map fun (i : Nat) => PyData.int i
abbrev pairsD (ps : List (Str × Str)) : PyData := .list (ps.map fun p => pairD p.1 p.2)
abbrev toldD (N : Nat) (told : Nat → Nat → Bool) : PyData := .list ((List.range N).map fun i => .list ((List.range N).map fun j => .bool (told i j)))
structure NS where
  rh : List Nat
  text : Str
  word : Str
  begins : List Nat
def close (p : Nat → Bool) : List Nat → Str → Str → List Nat × Str × Str
  | [], t, w => ([], t, w)
  | h :: r, t, w => if p h then (h :: r, t, w) else close p r (t ++ ")") (w ++ ")")
def NS.step (told : Nat → Nat → Bool) (path : Nat → Str) (n : NS) (one : Nat) : NS :=
  let c := close (fun h => told h one) n.rh n.text n.word
  ⟨one :: c.1, (c.2.1 ++ "(") ++ qu (path one), c.2.2 ++ "(", n.begins ++ [c.2.2.length]⟩
def nsAt (told : Nat → Nat → Bool) (path : Nat → Str) : Nat → NS
  | 0 => ⟨[], "", "", []⟩
  | i + 1 => (nsAt told path i).step told path i
def nestD (n : NS) : PyData := .tuple [.str (n.text ++ Fm.rep 41 n.rh.length), .str (n.word ++ Fm.rep 41 n.rh.length), .list (ids (n.begins ++ [n.word.length + n.rh.length]))]

theorem close_spec (p : Nat → Bool) : ∀ (r : List Nat) (t w : Str), (close p r t w).2.1.length + (close p r t w).1.length = t.length + r.length ∧ (close p r t w).2.2.length + (close p r t w).1.length = w.length + r.length ∧ ∀ x ∈ (close p r t w).1, x ∈ r
  | [], t, w => ⟨rfl, rfl, fun _ h => h⟩
  | h :: r, t, w => by
    unfold close
    split
    · exact ⟨rfl, rfl, fun _ h => h⟩
    · obtain ⟨a, b, c⟩ := close_spec p r (t ++ ")") (w ++ ")")
      have e : (Str.ofString ")").length = 1 := by decide
      rw [Str.length_append, e] at a b
      refine ⟨by rw [a]; simp only [List.length_cons]; omega, by rw [b]; simp only [List.length_cons]; omega, fun x hx => List.mem_cons_of_mem _ (c x hx)⟩

theorem nsAt_bound {told : Nat → Nat → Bool} {path : Nat → Str} {B : Nat} (hB : ∀ i, (qu (path i)).length ≤ B) : ∀ i, (nsAt told path i).text.length + (nsAt told path i).rh.length ≤ i * (B + 2) ∧ (nsAt told path i).word.length + (nsAt told path i).rh.length = 2 * i ∧ (∀ x ∈ (nsAt told path i).rh, x < i) ∧ (nsAt told path i).begins.length = i
  | 0 => by
    have e0 : (Str.ofString "").length = 0 := by decide
    refine ⟨?_, ?_, by simp [nsAt], rfl⟩
    · show (Str.ofString "").length + 0 ≤ _; omega
    · show (Str.ofString "").length + 0 = _; omega
  | i + 1 => by
    obtain ⟨a, b, c, d⟩ := nsAt_bound (told := told) hB i
    obtain ⟨a', b', c'⟩ := close_spec (fun h => told h i) (nsAt told path i).rh (nsAt told path i).text (nsAt told path i).word
    have e : (Str.ofString "(").length = 1 := by decide
    have := hB i
    unfold nsAt NS.step
    simp only [Str.length_append, List.length_cons, List.length_append, List.length_nil, e]
    refine ⟨?_, by omega, fun x hx => ?_, by omega⟩
    · rw [Nat.succ_mul]; omega
    · rcases List.mem_cons.mp hx with q | q
      · omega
      · have := c x (c' x q); omega

theorem sh_ids (l : List Nat) : Sh 1 (.list (ids l)) := Sh.list fun d hd => by obtain ⟨x, _, rfl⟩ := List.mem_map.mp hd; exact Sh.int _
theorem close_len (p : Nat → Bool) (r : List Nat) (t w : Str) : (close p r t w).1.length ≤ r.length := by
  induction r generalizing t w with
  | nil => exact Nat.le_refl _
  | cons h r ih => unfold close; split; exact Nat.le_refl _; exact Nat.le_succ_of_le (ih _ _)

theorem fn_nest {w : World} {mg mb : Str → Option Value} {ps : List (Str × Str)} {told : Nat → Nat → Bool} {path : Nat → Str} (hN : ps.length ≤ 100) (hB : ∀ i, (qu (path i)).length ≤ 1000) (hB' : ∀ i, (path i).length ≤ 1000) (hpath : ∀ i, i < ps.length → ∃ h, ps[i]? = some (h, path i)) :
    Fn w mg mb 2 "_law_nest" [tD (pairsD ps), tD (toldD ps.length told)] (tD (nestD (nsAt told path ps.length))) := by
  refine Fn.intro (List.mem_of_getElem? (i := 12) (show theDefs[12]? = some (_, _, _, _) from rfl)) (xs := ["pairs", "told"]) rfl ?_ (by decide) (by decide) ?_
  · intro pm cd doc vals hv
    obtain ⟨v, u, rfl⟩ := vals2 hv; rfl
  intro A a cd s X hr s₁ S
  refine Fm.wp_assign S .str fun s₂ S₂ _ => ?_
  refine Fm.wp_assign S₂ .str fun s₃ S₃ _ => ?_
  refine Fm.wp_newOwn S₃ fun a₁ s₄ ha S₄ => ?_
  refine Fm.wp_assign S₄ (Fm.Ev.list (ds := []) .nil (by decide)) fun s₅ S₅ _ => ?_
  let ρP : NS → List (Str × Ty) := fun n => [("held", tD (.list (ids n.rh.reverse))), ("begins", tV (.ref a₁)), ("word", tS n.word), ("text", tS n.text), ("pairs", tD (pairsD ps)), ("told", tD (toldD ps.length told))]
  let pnP : NS → Addr → Pn := fun n b => if b = a₁ then pnList (ids n.begins) else pnAny
  have S₆ := (S₅.congrPn (pn := pnP (nsAt told path 0)) (fun b hb => by
    rcases List.mem_cons.mp hb with q | q
    · subst q; simp [Fm.add, pnP, nsAt]
    · exact nomatch q)).weaken (ρ' := ρP (nsAt told path 0)) (sub_cons rfl (sub_cons rfl (sub_cons rfl (sub_cons rfl (sub_cons rfl (sub_cons rfl sub_nil))))))
  refine Fm.wp_for (n := ps.length) (Pv := fun i => tI i) (pn := fun i => pnP (nsAt told path i)) (ρi := fun i => ρP (nsAt told path i)) S₆ (Fm.Src.range1 (n := (ps.length : Int)) (Fm.Ev.to (Fm.Ev.len_list (Fm.Ev.name rfl) (by rw [List.length_map, sizeLine_eq]; omega)) (by rw [List.length_map])) (by omega)) ?_ ?_
  · intro I P G i hI hi s₇ S₇
    obtain ⟨b1, b2, b3, b4⟩ := nsAt_bound (told := told) (path := path) hB i
    have hst : nsAt told path (i + 1) = (nsAt told path i).step told path i := rfl
    obtain ⟨hi1, hi2⟩ := hpath i hi
    have hbig : i * (1000 + 2) ≤ 200000 := by
      have : i * 1002 ≤ 100 * 1002 := Nat.mul_le_mul_right _ (by omega)
      omega
    generalize hn : nsAt told path i = n at *
    generalize hn' : nsAt told path (i + 1) = n' at *
    have e1 : (Str.ofString "(").length = 1 := by decide
    have e2 : (Str.ofString ")").length = 1 := by decide
    refine Fm.wp_while (σ := List Nat × Str × Str) (fun x => x.1.length) (fun x => [("held", tD (.list (ids x.1.reverse))), ("text", tS x.2.1), ("word", tS x.2.2), ("one", tI i), ("begins", tV (.ref a₁)), ("pairs", tD (pairsD ps)), ("told", tD (toldD ps.length told))])
      (fun x => match x.1 with | [] => false | h :: _ => !told h i)
      (fun x => close (fun h => told h i) x.1 x.2.1 x.2.2 = close (fun h => told h i) n.rh n.text n.word ∧ (∀ h ∈ x.1, h < i) ∧ x.2.1.length + x.1.length ≤ 200000 ∧ x.2.2.length + x.1.length ≤ 200000)
      (n.rh, n.text, n.word) ⟨rfl, b3, by show n.text.length + n.rh.length ≤ _; omega, by show n.word.length + n.rh.length ≤ _; omega⟩ (S₇.weaken (sub_cons rfl (sub_cons rfl (sub_cons rfl (sub_cons rfl (sub_cons rfl (sub_cons rfl (sub_cons rfl sub_nil)))))))) ?_ ?_ ?_
    · rintro ⟨rh, t, wd⟩ ⟨h1, h2, h3, h4⟩
      have hsh : SeqAt.shaped (.list (ids rh.reverse)) = true := (sh_ids _).shaped (by decide)
      refine Fm.Ts.to (Fm.Ts.and (Fm.Ts.cmp (Fm.Ev.name rfl) (Fm.Ev.list (ds := []) .nil (by decide)) (Fm.Cm.ne_data hsh (by decide))) (c := match rh with | [] => false | h :: _ => !told h i) fun hb => Fm.Ts.and1 ?_) ?_
      · match rh, hb, h2 with
        | [], hb, _ => exact absurd (show (!(PyData.list []).eqv (PyData.list [])) = true from hb) (by decide)
        | h :: r, _, h2 =>
          have hh := h2 h (List.mem_cons_self ..)
          have hlt : h < ps.length := by omega
          refine Fm.Ts.not (Fm.Ts.ev (Fm.Ev.list_at (Fm.Ev.list_at (ds := (List.range ps.length).map fun i => .list ((List.range ps.length).map fun j => .bool (told i j))) (i := (h : Int)) (d := .list ((List.range ps.length).map fun j => .bool (told h j))) (Fm.Ev.name rfl) (Fm.Ev.sub (Fm.Ev.name rfl) (Fm.Ev.neg_int .int) (Fm.Gt.listNeg ?_ ?_ ?_ ?_)) ?_ ?_ ?_) (i := (i : Int)) (Fm.Ev.name rfl) ?_ ?_ ?_))
          · decide
          · decide
          · simp only [ids, List.length_map, List.length_reverse, List.length_cons]; omega
          · have e5 : (ids (h :: r).reverse).length = r.length + 1 := by simp [ids]
            show (ids (h :: r).reverse)[((-1 : Int) + ((ids (h :: r).reverse).length : Int)).toNat]? = _
            rw [e5, show ((-1 : Int) + ((r.length + 1 : Nat) : Int)).toNat = r.length from by omega]
            simp [ids, List.reverse_cons, List.map_append]
          · omega
          · omega
          · rw [Int.toNat_natCast, List.getElem?_map, List.getElem?_range hlt]; rfl
          · omega
          · omega
          · rw [Int.toNat_natCast, List.getElem?_map, List.getElem?_range hi]; rfl
      · cases rh with
        | nil => rfl
        | cons h r =>
          have : (PyData.list (ids (h :: r).reverse)).eqv (PyData.list []) = false := by
            rw [PyData.eqv, SeqAt.eqvAll_other_length]
            simp [ids]
          show ((!(PyData.list (ids (h :: r).reverse)).eqv (PyData.list [])) && !told h i) = !told h i
          rw [this]; rfl
    · rintro ⟨rh, t, wd⟩ ⟨h1, h2, h3, h4⟩ hb s₈ S₈
      match rh, hb, h1, h2, h3, h4, S₈ with
      | h :: r, hb, h1, h2, h3, h4, S₈ =>
      simp only [List.length_cons] at h3 h4
      dsimp only at S₈
      refine Fm.wp_assign S₈ (Fm.Ev.list_slice (Fm.Ev.name rfl) .none (.some (Fm.Ev.neg_int .int)) ?_) fun s₉ S₉ _ => ?_
      · simp only [ids, List.length_map, List.length_reverse, List.length_cons]; rw [sizeLine_eq]; omega
      refine Fm.wp_assign S₉ (Fm.Ev.add_str (Fm.Ev.name rfl) .str (by rw [sizeLine_eq, e2]; show t.length + 1 ≤ _; omega)) fun s10 S10 _ => ?_
      refine Fm.wp_assign S10 (Fm.Ev.add_str (Fm.Ev.name rfl) .str (by rw [sizeLine_eq, e2]; show wd.length + 1 ≤ _; omega)) fun s11 S11 _ => ?_
      refine Fm.wp_nil ⟨rfl, (r, t ++ ")", wd ++ ")"), ⟨?_, fun x hx => h2 x (List.mem_cons_of_mem _ hx), ?_, ?_⟩, Nat.lt_succ_self _, ?_⟩
      · rw [← h1]
        show _ = close (fun h => told h i) (h :: r) t wd
        rw [close, if_neg]
        intro q; have hb : (!told h i) = true := hb; rw [q] at hb; exact absurd hb (by decide)
      · show (t ++ ")").length + r.length ≤ _; rw [Str.length_append, e2]; omega
      · show (wd ++ ")").length + r.length ≤ _; rw [Str.length_append, e2]; omega
      · have el : sl (ids (h :: r).reverse) none (some (-1)) = ids r.reverse := by
          rw [sl_butLast]
          simp [ids]
        have S12 := S11
        simp only [el] at S12
        exact S12.weaken (sub_cons rfl (sub_cons rfl (sub_cons rfl (sub_cons rfl (sub_cons rfl (sub_cons rfl (sub_cons rfl sub_nil)))))))
    · rintro ⟨rh, t, wd⟩ s₈ ⟨h1, h2, h3, h4⟩ hb S₈
      have hc : close (fun h => told h i) n.rh n.text n.word = (rh, t, wd) := by
        rw [← h1]
        show close (fun h => told h i) rh t wd = _
        cases rh with
        | nil => rfl
        | cons h r => rw [close, if_pos]; have hb : (!told h i) = false := hb; simpa using hb
      have hlen : rh.length ≤ n.rh.length := by
        have := close_len (fun h => told h i) n.rh n.text n.word
        rw [hc] at this; exact this
      have e' : n' = ⟨i :: rh, (t ++ "(") ++ qu (path i), wd ++ "(", n.begins ++ [wd.length]⟩ := by
        rw [hst]; unfold NS.step; simp only [hc]
      have hq := hB i
      dsimp only at h3 h4 S₈
      refine Fm.wp_assign S₈ (Fm.Ev.add_list (Fm.Ev.name rfl) (Fm.Ev.list (ds := [.int i]) (.cons (Fm.Ev.name rfl) .nil)) ?_) fun s₉ S₉ _ => ?_
      · simp only [ids, List.length_map, List.length_reverse, List.length_cons, List.length_nil]; rw [sizeLine_eq]; omega
      have hIa : a₁ ≠ I := fun q => hI (q ▸ List.mem_cons_self ..)
      refine Fm.wp_append (a := a₁) (ds := ids n.begins) (d := .int wd.length) S₉ rfl (by simp [Fm.add, Fm.withPn]) (by simp [Fm.add, Fm.withPn, hIa, pnP]) (Fm.Ev.len_str (Fm.Ev.name rfl) (by rw [sizeLine_eq]; omega)) (by rw [sizeLine_eq, List.length_map]; omega) fun s10 S10 => ?_
      refine Fm.wp_assign S10 (Fm.Ev.add_str (Fm.Ev.add_str (Fm.Ev.name rfl) .str (by rw [sizeLine_eq, e1]; omega)) (Fm.Ev.call (List.mem_of_getElem? (i := 8) (show theDefs[8]? = some (_, _, _, _) from rfl)) (fn_quoted (hB' i)) (.cons (Fm.Ev.tup_at (i := 1) (ds := [.str hi1, .str (path i)]) (Fm.Ev.list_at (ds := ps.map fun p => pairD p.1 p.2) (i := (i : Int)) (Fm.Ev.name rfl) (Fm.Ev.name rfl) ?_ ?_ ?_)) .nil) (Nat.le_refl _)) (by rw [sizeLine_eq, Str.length_append, e1]; omega)) fun s11 S11 _ => ?_
      · omega
      · omega
      · rw [Int.toNat_natCast, List.getElem?_map, hi2]; rfl
      refine Fm.wp_assign S11 (Fm.Ev.add_str (Fm.Ev.name rfl) .str (by rw [sizeLine_eq, e1]; omega)) fun s12 S12 _ => ?_
      refine Fm.wp_nil ?_
      have hids : ids rh.reverse ++ [.int i] = ids (i :: rh).reverse := by simp [ids]
      rw [hids] at S12
      have := Fm.St.turn (p' := pnP n') (ρ := ρP n') S12 hI (List.mem_cons_self ..) (fun b hb => by simp only [pnP, e', ids, List.map_append]; split <;> rfl) (by rw [e']; exact sub_cons rfl (sub_cons rfl (sub_cons rfl (sub_cons rfl (sub_cons rfl (sub_cons rfl sub_nil))))))
      exact this
  · intro s₇ S₇
    obtain ⟨b1, b2, b3, b4⟩ := nsAt_bound (told := told) (path := path) hB ps.length
    have hbig : ps.length * (1000 + 2) ≤ 200000 := by
      have : ps.length * 1002 ≤ 100 * 1002 := Nat.mul_le_mul_right _ hN
      omega
    generalize hn : nsAt told path ps.length = n at *
    refine Fm.wp_freeze (x := "begins") (a := a₁) (Z' := []) (ds := ids n.begins) S₇ rfl (by simp) (by simp [Fm.withPn, pnP]) rfl fun S₈ => ?_
    have hlen : (ids n.rh.reverse).length = n.rh.length := by simp [ids]
    have e0 : (Str.ofString ")") = (⟨#[41]⟩ : Str) := rfl
    have hrl : (Fm.rep 41 n.rh.length).length = n.rh.length := by unfold Fm.rep; show (List.replicate _ _).toArray.size = _; simp
    refine Fm.wp_return S₈ (Fm.Ev.tuple (ds := [.str (n.text ++ Fm.rep 41 n.rh.length), .str (n.word ++ Fm.rep 41 n.rh.length), .list (ids (n.begins ++ [n.word.length + n.rh.length]))])
      (.cons (Fm.Ev.add_str (Fm.Ev.name rfl) (Fm.Ev.mul_one (c := 41) (k := n.rh.length) (Fm.Ev.to .str (by rw [e0])) (Fm.Ev.to (Fm.Ev.len_list (Fm.Ev.name rfl) ?_) ?_) ?_) ?_)
      (.cons (Fm.Ev.add_str (Fm.Ev.name rfl) (Fm.Ev.mul_one (c := 41) (k := n.rh.length) (Fm.Ev.to .str (by rw [e0])) (Fm.Ev.to (Fm.Ev.len_list (Fm.Ev.name rfl) ?_) ?_) ?_) ?_)
      (.cons (Fm.Ev.to (Fm.Ev.add_list (xs := ids n.begins) (Fm.Ev.name rfl) (Fm.Ev.list (ds := [.int ((n.word.length : Int) + ((ids n.rh.reverse).length : Int))]) (.cons (Fm.Ev.add_int (Fm.Ev.len_str (Fm.Ev.name rfl) ?_) (Fm.Ev.len_list (Fm.Ev.name rfl) ?_)) .nil)) ?_) ?_) .nil)))) fun v s' S' _ hv => ?_
    · rw [hlen, sizeLine_eq]; omega
    · rw [hlen]
    · omega
    · rw [hrl, sizeLine_eq]; omega
    · rw [hlen, sizeLine_eq]; omega
    · rw [hlen]
    · omega
    · rw [hrl, sizeLine_eq]; omega
    · rw [sizeLine_eq]; omega
    · rw [hlen, sizeLine_eq]; omega
    · rw [sizeLine_eq]; simp only [ids, List.length_map, List.length_cons, List.length_nil]; omega
    · rw [hlen]; simp [ids]
    exact S'.fin hv
end Mine

/-! G12 -/
namespace Mine
open PySem PySem.Spec PyProof.Rows

def gpGen (I : Addr) (g : Nat) : Gp := ⟨fun V => ∃ o nm qn, V I = some o ∧ o.cls = .type "generator" ∧ o.data = .fields #[.int g 0, nm, qn] ∧ o.slots = #[], fun _ _ h ⟨o, nm, qn, q, r⟩ => ⟨o, nm, qn, h _ _ q, r⟩⟩

namespace Fm
variable {F : Fm} {ρ : List (Str × Ty)} {s s' : Shared}

/-- where a generator's loop stands -/
structure GInv (F : Fm) (ρi : Nat → List (Str × Ty)) (pn : Nat → Addr → Pn) (items : List (Nat × Str)) (I L En It : Addr) (g : Nat) (i : Nat) (s : Shared) : Prop where
  le : i ≤ items.length
  st : ∃ Zs pnS, ({ F with Z := Zs ++ F.Z, pn := pnS, gh := F.gh.and (gpGen I g), s0 := { F.s0 with gens := s.gens } } : Fm).St (ρi i) s ∧ (∀ a ∈ Zs, a ∈ [L, En, It]) ∧ (∀ a ∈ [L, En, It], a ∈ Zs ∨ s.heap.get? a = none) ∧ ∀ a ∈ F.Z, pnS a = pn i a
  gen : ∃ gs, s.gens[g]? = some gs ∧ gs.Goes (model PP F.w) F.A.in1 (gEndR [L, En, It]) (genY F.mg F.mb [L, En, It] items) (items.length - i) (.send .none) (s.setGen g .running)
  gens : GExt F.s0.gens s.gens

theorem GInv.step {ρi : Nat → List (Str × Ty)} {pn : Nat → Addr → Pn} {items : List (Nat × Str)} {I L En It : Addr} {g i : Nat} {E : Value → Shared → Prop} {Q : Option Value → Shared → Prop} (v : F.GInv ρi pn items I L En It g i s) (hdis : ∀ a ∈ F.Z, a ∉ [L, En, It]) (hI : I ∉ [L, En, It])
    (hold : ∀ (i : Nat) (y : GenState), F.s0.gens[i]? = some y → i ≠ g) (hnd : L ≠ En ∧ L ≠ It ∧ En ≠ It)
    (hitem : i < items.length → ∀ T oL oE oI u z s', ({ F with Z := L :: En :: It :: F.Z, pn := fun b => if b = L then pnIs oL else if b = En then pnIs oE else if b = It then pnIs oI else pn i b, gh := F.gh.and (gpGen I g), s0 := { F.s0 with gens := s'.gens } } : Fm).St (ρi i) s' →
      s'.heap.IsTuple T #[.int (items.getD i (0, "")).1 u, .str (items.getD i (0, "")).2 z] → GExt F.s0.gens s'.gens →
      (∃ gs, s'.gens[g]? = some gs ∧ ∀ s'', (∀ b ∈ [L, En, It], s''.heap.get? b = s'.heap.get? b) → Gl F.mg F.mb (ghostS s'' [L, En, It]).heap → 0 < s''.toks → gs.Goes (model PP F.w) F.A.in1 (gEndR [L, En, It]) (genY F.mg F.mb [L, En, It] items) (items.length - (i + 1)) (.send .none) s'') →
      s'.heap.IsGen I g → Q (some (.ref T)) s')
    (hdone : i = items.length → ∀ s', (F.withPn (pn i)).St (ρi i) s' → Q none s') : wpAny F.M F.A (pyNext (.ref I)) Q E s := by
  obtain ⟨hle, ⟨Zs, pnS, S, hz1, hz2, hz3⟩, ⟨gs, hgs, hgo⟩, hge⟩ := v
  have hgen : s.heap.IsGen I g := by
    obtain ⟨o, nm, qn, h1, h2⟩ := S.ghost.2
    exact ⟨o, nm, qn, (cut_of h1).2, h2⟩
  have S1 : ({ F with Z := Zs ++ F.Z, pn := pnS, gh := F.gh.and (gpGen I g) } : Fm).St (ρi i) s := St.unG (F := { F with Z := Zs ++ F.Z, pn := pnS, gh := F.gh.and (gpGen I g) }) S hge
  have hp0 : ∀ a ∈ [L, En, It], F.s0.heap.get? a = none := fun a ha => by
    rcases hz2 a ha with q | q
    · exact (S1.pinNew a (List.mem_append_left _ q)).2
    · cases h : F.s0.heap.get? a with
      | none => rfl
      | some o => have : s.heap.get? a = some o := S1.base.all a o h; rw [q] at this; cases this
  have hglt : g < s.gens.size := (Array.getElem?_eq_some_iff.mp hgs).1
  refine next_gen (P := genR [L, En, It]) S.room.1 S.g.nolimit S.room.depth hgen hgs hgo (fun v s₁ gs' hb hY => ?_) (fun s₁ hP h' hk' => ?_)
  · obtain ⟨hkept, ⟨pre, q, rem, hit, hrem, hrd⟩, hth, hfut⟩ := hY
    have ht1 : 0 < s₁.toks := Nat.lt_of_lt_of_le S.toks hkept.toks
    have hgen1 : GExt F.s0.gens (s₁.gens.setIfInBounds g gs') := gext_set hkept.gens hb hold hge rfl
    by_cases hlt : i < items.length
    · obtain ⟨m, hm⟩ : ∃ m, items.length - i = m + 1 := ⟨items.length - (i + 1), by omega⟩
      simp only [hm] at hfut
      have hm' : m = items.length - (i + 1) := by omega
      have hq : q = items.getD i (0, "") := by
        have : pre.length = i := by
          have h1 : items.length = pre.length + (rem.length + 1) := by rw [hit]; simp
          omega
        rw [List.getD_eq_getElem?_getD, hit, List.getElem?_append_right (by omega), this]; simp
      obtain ⟨T, vs, nn, rfl, hT, hall⟩ := hrd.tuple_inv
      obtain ⟨oL, hL⟩ := hth L (by simp)
      obtain ⟨oE, hE⟩ := hth En (by simp)
      obtain ⟨oI, hI'⟩ := hth It (by simp)
      have hvs : ∃ u z, vs = #[.int q.1 u, .str q.2 z] := by
        obtain ⟨l⟩ := vs
        cases hall with
        | cons h1 h2 => cases h2 with
          | cons h3 h4 =>
            cases h4
            obtain ⟨u, rfl⟩ := h1.int_inv
            obtain ⟨z, rfl⟩ := h3.str_inv
            exact ⟨u, z, rfl⟩
      obtain ⟨u, z, rfl⟩ := hvs
      rw [hq] at hT
      have S2 := St.moved (s' := s₁.setGen g gs') (Z' := L :: En :: It :: F.Z) (K := [L, En, It]) (pn' := fun b => if b = L then pnIs oL else if b = En then pnIs oE else if b = It then pnIs oI else pn i b) (gh' := F.gh.and (gpGen I g)) S1
        (fun a ha => by
          rcases List.mem_append.mp ha with r | r
          · exact List.mem_append_left F.Z (hz1 a r)
          · exact List.mem_append_right [L, En, It] r)
        (fun a ha => by
          rcases List.mem_append.mp (show a ∈ [L, En, It] ++ F.Z from ha) with r | r
          · rcases hz2 a r with q' | q'
            · exact .inl (List.mem_append_left _ q')
            · exact .inr q'
          · exact .inl (List.mem_append_right _ r))
        (fun a ha => List.mem_append_left F.Z ha) (fun b o hb' h => hkept.keep b o hb' h) hkept.os hgen1 hkept.toks
        (fun a ha => by
          rcases List.mem_append.mp (show a ∈ [L, En, It] ++ F.Z from ha) with r | r
          · refine .inl ⟨r, ?_⟩
            by_cases h1 : a = L
            · subst h1; exact ⟨oL, hL, fun V => by simp only [if_true]; rfl⟩
            · by_cases h2 : a = En
              · subst h2; exact ⟨oE, hE, fun V => by simp only [h1, if_false, if_true]; rfl⟩
              · have h3 : a = It := by simpa [h1, h2] using r
                subst h3; exact ⟨oI, hI', fun V => by simp only [h1, h2, if_false, if_true]; rfl⟩
          · have hd := hdis a r
            refine .inr ⟨hd, List.mem_append_right _ r, ?_⟩
            have h1 : a ≠ L := fun e => hd (by simp [e])
            have h2 : a ≠ En := fun e => hd (by simp [e])
            have h3 : a ≠ It := fun e => hd (by simp [e])
            simp only [h1, h2, h3, if_false]; exact (hz3 a r).symm)
        (fun V h => (F.gh.and (gpGen I g)).mono _ _ h S1.ghost)
      have hgg : (s₁.setGen g gs').gens[g]? = some gs' := by
        have h1 : (s.gens.setIfInBounds g .running)[g]? = some .running := by simp [hglt]
        have h2 := hkept.gens.1 g .running h1
        have h3 : g < s₁.gens.size := (Array.getElem?_eq_some_iff.mp h2).1
        show (s₁.gens.setIfInBounds g gs')[g]? = _
        simp [h3]
      refine hitem hlt T oL oE oI u z (s₁.setGen g gs') (St.reG (F := { F with Z := L :: En :: It :: F.Z, pn := _, gh := F.gh.and (gpGen I g) }) S2) ⟨_, (cut_of hT).2, rfl, nn, rfl⟩ hgen1 ⟨gs', hgg, fun s'' h1 h2 h3 => ?_⟩ ?_
      · rw [← hm']; exact hfut s'' h1 h2 h3
      · obtain ⟨o, nm, qn, h1, h2⟩ := S2.ghost.2
        exact ⟨o, nm, qn, (cut_of h1).2, h2⟩
    · exfalso
      have h0 : items.length - i = 0 := by omega
      simp only [h0] at hfut
      refine hfut s₁ (fun _ _ => rfl) (S1.gl.keeps fun b o h => W.hideAll_get _ (hkept.keep b o (fun q' => ?_) (S1.base.all b o h)) fun q' => ?_) ht1
      · rw [hp0 b q'] at h; cases h
      · rw [hp0 b q'] at h; cases h
  · obtain ⟨h0, hkept⟩ := hP
    have hie : i = items.length := by omega
    have hgen1 : GExt F.s0.gens (s₁.gens.setIfInBounds g .finished) := gext_set hkept.gens rfl hold hge rfl
    refine hdone hie _ ?_
    have S9 := St.movedDrop (F := { F with Z := Zs ++ F.Z, pn := pnS, gh := F.gh.and (gpGen I g) }) (s := s) (s' := { s₁.setGen g .finished with heap := h' }) (Z' := F.Z) (K := [L, En, It]) (pn' := pn i) (gh' := F.gh) S1 (fun a ha => ⟨List.mem_append_right _ ha, hdis a ha, (hz3 a ha).symm⟩) (fun a ha => by
      rcases hz2 a ha with q' | q'
      · exact .inl (List.mem_append_left _ q')
      · exact .inr q') (fun b o hb' h => hk' b o (hkept.keep b o hb' h)) hkept.os hgen1 hkept.toks (fun V h => F.gh.mono _ _ h S1.ghost.1)
    exact S9
end Fm
end Mine

/-! G13 -/
namespace Mine
open PySem PySem.Spec PyProof.Rows
namespace Fm
variable {F : Fm} {ρ : List (Str × Ty)} {s s' : Shared}

/-- for y1, y2 in _iter_escaped_chars(e) -/
theorem wp_forGen {x y1 y2 : Str} {p1 p2 tp pos np cp : Pos} {k : Nat} {e : Expr} {body rest : List Stmt} {ρi : Nat → List (Str × Ty)} {pn : Nat → Addr → Pn} {E : Value → Shared → Prop} {Q : Flow → Shared → Prop}
    (S : (F.withPn (pn 0)).St (ρi 0) s) (he : (F.withPn (pn 0)).Ev (ρi 0) e (tS x)) (hx : x.length ≤ 1000000) (hend' : escEnd x.cps.toList false = false) (hn : 2 ≤ F.n)
    (hturn : ∀ L En It oL oE oI gI gs i, (∀ a ∈ F.Z, a ∉ [L, En, It]) → GExt F.s0.gens gs → i < (escItems x).length → ∀ s, (F.lp (pn i) L En It oL oE oI gI gs).St ((y2, tS ((escItems x).getD i (0, "")).2) :: (y1, tI ((escItems x).getD i (0, "")).1) :: ρi i) s →
      (F.lp (pn i) L En It oL oE oI gI gs).Run body (fun fl s' => match fl with
        | .next | .cont => (F.lp (pn (i + 1)) L En It oL oE oI gI gs).St (ρi (i + 1)) s'
        | .brk => False
        | .ret v => Q (.ret v) s') (fun _ _ => False) s)
    (hend : ∀ s', (F.withPn (pn (escItems x).length)).St (ρi (escItems x).length) s' → (F.withPn (pn (escItems x).length)).Run rest Q E s')
    (hk1 : F.env.kindOf y1 = some .local := by rfl) (hk2 : F.env.kindOf y2 = some .local := by rfl) (hk : F.env.kindOf "_iter_escaped_chars" = some .globalImplicit := by rfl) (hs : starEach [e] F.env = (false, eval e F.env) :: starEach [] F.env := by rfl)
    (hf : ∀ z, foldedSetIterable (.Call (.Name "_iter_escaped_chars" np) [e] [] cp) F.env z = pure z := by intro _; rfl) :
    F.Run (.For (.Tuple [.Name y1 p1, .Name y2 p2] k tp) (.Call (.Name "_iter_escaped_chars" np) [e] [] cp) body [] pos :: rest) Q E s := by
  refine .mk <| wpAny_execs_cons (wpAny_For (wp_genCall (F := F.withPn (pn 0)) S he (fun I L a cd g s₁ N => ?_) hk hs) hf)
  refine wpAny_pyIter_gen N.isGen ?_
  obtain ⟨m, t, hns, hm⟩ := N.ns
  have exS : Ext s s₁ := ⟨fun b o _ h => N.keep b o h, fun b o h => ⟨o, N.keep b o h⟩, N.os, N.gens, N.toks⟩
  have S₁ := S.ext exS
  obtain ⟨oI0, nmI, qnI, hoI, hoI'⟩ := id N.isGen
  have hIlt : I < s₁.heap.objs.size := Heap.lt_size hoI
  obtain ⟨oL, _, _, hoL, _⟩ := id hns
  have hLlt : L < s₁.heap.objs.size := Heap.lt_size hoL
  have hnd : L ≠ s₁.heap.objs.size + 1 ∧ L ≠ s₁.heap.objs.size ∧ s₁.heap.objs.size + 1 ≠ s₁.heap.objs.size := ⟨Nat.ne_of_lt (Nat.lt_succ_of_lt hLlt), Nat.ne_of_lt hLlt, Nat.succ_ne_self _⟩
  have big : ∀ b, s₁.heap.objs.size ≤ b → s₁.heap.get? b = none := fun b hb => by
    cases h : s₁.heap.get? b with
    | none => rfl
    | some o => exact absurd (Heap.lt_size h) (Nat.not_lt.mpr hb)
  have hdis : ∀ a ∈ F.Z, a ∉ [L, s₁.heap.objs.size + 1, s₁.heap.objs.size] := fun b hb q => by
    obtain ⟨o, ho, _⟩ := S.pinned b hb
    rcases List.mem_cons.mp q with q | q
    · rw [q, N.newL] at ho; cases ho
    · have h9 := N.keep b o ho
      rcases List.mem_cons.mp q with q | q
      · rw [q, big _ (Nat.le_succ _)] at h9; cases h9
      · have : b = s₁.heap.objs.size := by simpa using q
        rw [this, big _ (Nat.le_refl _)] at h9; cases h9
  have hI : I ∉ [L, s₁.heap.objs.size + 1, s₁.heap.objs.size] := fun q => by
    rcases List.mem_cons.mp q with q | q
    · exact N.ne q
    · rcases List.mem_cons.mp q with q | q
      · exact absurd hIlt (by rw [q]; exact Nat.not_lt.mpr (Nat.le_succ _))
      · have : I = s₁.heap.objs.size := by simpa using q
        exact absurd hIlt (by rw [this]; exact Nat.lt_irrefl _)
  have hold : ∀ (i : Nat) (y : GenState), F.s0.gens[i]? = some y → i ≠ g := fun i y h => N.old i y (S.base.gens.1 i y h)
  have glk : ∀ s'' : Shared, ∀ P : List Addr, (∀ b o, F.s0.heap.get? b = some o → s''.heap.get? b = some o) → (∀ a ∈ P, F.s0.heap.get? a = none) → Gl F.mg F.mb (ghostS s'' P).heap := fun s'' P h1 h2 => S.gl.keeps fun b o h => W.hideAll_get _ (h1 b o h) fun q => by
    have h : F.s0.heap.get? b = some o := h
    rw [h2 b q] at h; cases h
  have z0 : F.s0.heap.get? L = none := by
    cases h : F.s0.heap.get? L with
    | none => rfl
    | some o => have := S.base.all L o h; rw [N.newL] at this; cases this
  have hr1 : Room 1 F.A.in1 := by
    obtain ⟨r1, r2, r3⟩ := S.room
    have r2 : F.A.depth + F.n < recursionLimit := r2
    have r3 : F.A.units + 20 * F.n + 200 < cLine := r3
    refine ⟨r1, ?_, ?_⟩
    · show F.A.depth + 1 < _; omega
    · show F.A.units + 1 + 20 * 1 + 200 < _; omega
  have start : F.GInv ρi pn (escItems x) I L (s₁.heap.objs.size + 1) s₁.heap.objs.size g 0 s₁ := by
    have Sp := S.pin (a := L) (P := pnIs oL) (G := gpGen I g) exS N.newL ⟨oL, hoL, rfl⟩ ⟨oI0, nmI, qnI, cut_mk (fun q => ?_) hoI, hoI'⟩
    · refine ⟨Nat.zero_le _, ⟨[L], fun b => if b = L then pnIs oL else pn 0 b, St.reG (F := { F with Z := [L] ++ F.Z, pn := _, gh := F.gh.and (gpGen I g) }) Sp, fun b hb => ?_, fun b hb => ?_, fun b hb => ?_⟩, ⟨_, N.gen, rfl, ?_⟩, S₁.base.gens⟩
      · have : b = L := by simpa using hb
        rw [this]; exact List.mem_cons_self ..
      · rcases List.mem_cons.mp hb with q | q
        · exact .inl (by simp [q])
        · refine .inr (big b ?_)
          rcases List.mem_cons.mp q with q | q
          · rw [q]; exact Nat.le_succ _
          · have : b = s₁.heap.objs.size := by simpa using q
            rw [this]; exact Nat.le_refl _
      · have : b ≠ L := fun q => hdis b hb (by rw [q]; exact List.mem_cons_self ..)
        simp only [this, if_false]
      · have Sg := gf_new (w := F.w) (mg := F.mg) (mb := F.mb) (a := a) (cd := cd) (x := x) (s := s₁.setGen g .running) (room_func (L := L) (a := a) (cd := cd) hr1) (glk _ _ S₁.base.all fun b hb => by
          have : b = L := by simpa using hb
          rw [this]; exact z0) S₁.toks hns hm
        have := esc_start hx hr1 hend' Sg ⟨fun b o hb h => W.hideAll_get _ h hb, rfl, rfl, Nat.le_refl _⟩
        rw [Nat.sub_zero]; exact this
    · rcases List.mem_append.mp q with r | r
      · obtain ⟨o, ho⟩ := S.dom I r; rw [N.newI] at ho; cases ho
      · rcases List.mem_append.mp r with r | r
        · rcases List.mem_cons.mp r with r | r
          · exact N.ne r
          · obtain ⟨o, ho, _⟩ := S.pinned I r; rw [N.newI] at ho; cases ho
        · obtain ⟨o, ho⟩ := S.domX I r; have := S.base.all I o ho; rw [N.newI] at this; cases this
  refine codeAny_forLoop_any (fun kk s' => ∃ i, kk = (escItems x).length + 1 - i ∧ i ≤ (escItems x).length ∧ F.GInv ρi pn (escItems x) I L (s₁.heap.objs.size + 1) s₁.heap.objs.size g i s') ?_ ((escItems x).length + 1) ⟨0, rfl, Nat.zero_le _, start⟩
  rintro kk s₂ ⟨i, rfl, hi, v⟩
  refine v.step hdis hI hold hnd (fun hlt T oL' oE oI u z s₃ S₃ hT hge hgs hG => ?_) (fun hie s₃ S₃ => ?_)
  · obtain ⟨gs, hgs, hfut⟩ := hgs
    refine letGo_gen hG ?_
    refine assign_Tuple_tuple S₃.room.1 hT rfl rfl fun h' he' => ?_
    have ex := ext_extBut he'
    refine wp_stores (F := F.lp (pn i) L (s₁.heap.objs.size + 1) s₁.heap.objs.size oL' oE oI (gpGen I g) s₃.gens) [(y1, p1), (y2, p2)] (ds := [.int ((escItems x).getD i (0, "")).1, .str ((escItems x).getD i (0, "")).2]) (ρ := ρi i) (s := { s₃ with heap := h' }) (St.ext S₃ ex) rfl (.cons (.int _ _) (.cons (.str _ _) .nil)) (fun y hy => by
      rcases List.mem_cons.mp hy with q | q
      · subst q; exact hk1
      · rcases List.mem_cons.mp q with q | q
        · subst q; exact hk2
        · exact nomatch q) fun s₄ S₄ => ?_
    refine wpAny_mono (hturn L _ _ oL' oE oI (gpGen I g) s₃.gens i hdis hge hlt s₄ S₄).wp (fun fl s₅ h => ?_) (fun _ _ x => x.elim)
    have pins : ∀ {p : Addr → Pn} {gs' : Array GenState} {ρ : List (Str × Ty)} {s : Shared}, (F.lp p L (s₁.heap.objs.size + 1) s₁.heap.objs.size oL' oE oI (gpGen I g) gs').St ρ s → s.heap.get? L = some oL' ∧ s.heap.get? (s₁.heap.objs.size + 1) = some oE ∧ s.heap.get? s₁.heap.objs.size = some oI := fun {p gs' ρ s} S => by
      obtain ⟨q1, q2, q3⟩ := hnd
      refine ⟨?_, ?_, ?_⟩
      · obtain ⟨o, h1, h2⟩ := S.pinned L (by simp [lp])
        have h2 : o = oL' := by simpa [lp, pnIs] using h2
        rw [← h2]; exact h1
      · obtain ⟨o, h1, h2⟩ := S.pinned (s₁.heap.objs.size + 1) (by simp [lp])
        have h2 : o = oE := by simpa [lp, pnIs, Ne.symm q1] using h2
        rw [← h2]; exact h1
      · obtain ⟨o, h1, h2⟩ := S.pinned s₁.heap.objs.size (by simp [lp])
        have h2 : o = oI := by simpa [lp, pnIs, Ne.symm q2, Ne.symm q3] using h2
        rw [← h2]; exact h1
    have next : (F.lp (pn (i + 1)) L (s₁.heap.objs.size + 1) s₁.heap.objs.size oL' oE oI (gpGen I g) s₃.gens).St (ρi (i + 1)) s₅ → ∃ m, m < (escItems x).length + 1 - i ∧ ∃ j, m = (escItems x).length + 1 - j ∧ j ≤ (escItems x).length ∧ F.GInv ρi pn (escItems x) I L (s₁.heap.objs.size + 1) s₁.heap.objs.size g j s₅ := fun S₅ => by
      obtain ⟨a1, a2, a3⟩ := pins (p := pn i) (gs' := s₃.gens) S₃
      obtain ⟨b1, b2, b3⟩ := pins S₅
      refine ⟨(escItems x).length + 1 - (i + 1), by omega, i + 1, rfl, hlt, hlt, ⟨[L, s₁.heap.objs.size + 1, s₁.heap.objs.size], _, St.reG S₅, fun _ h => h, fun _ h => .inl h, fun b hb => ?_⟩, ⟨gs, S₅.base.gens.1 g gs hgs, hfut _ (fun b hb => ?_) (glk _ _ S₅.base.all fun b hb => ?_) S₅.toks⟩, hge.trans S₅.base.gens⟩
      · have hd := hdis b hb
        have h1 : b ≠ L := fun e => hd (by simp [e])
        have h2 : b ≠ s₁.heap.objs.size + 1 := fun e => hd (by simp [e])
        have h3 : b ≠ s₁.heap.objs.size := fun e => hd (by simp [e])
        simp only [lp, h1, h2, h3, if_false]
      · show s₅.heap.get? b = s₃.heap.get? b
        rcases List.mem_cons.mp hb with q | q
        · rw [q, a1, b1]
        · rcases List.mem_cons.mp q with q | q
          · rw [q, a2, b2]
          · have : b = s₁.heap.objs.size := by simpa using q
            rw [this, a3, b3]
      · exact (S₅.pinNew b (List.mem_append_left F.Z hb)).2
    cases fl with
    | next => exact next h
    | cont => exact next h
    | brk => exact h.elim
    | ret v => exact h
  · subst hie
    exact wpAny_execs_nil (hend s₃ S₃).wp
end Fm
end Mine

/-! P1 -/
namespace Mine
open PySem PySem.Spec PyProof.Rows
namespace Fm
variable {F : Fm} {ρ ρ' : List (Str × Ty)} {s s' : Shared} {p p' : Addr → Pn} {L En It : Addr} {oL oE oI : Obj} {gI : Gp} {gs : Array GenState}
theorem St.turnG0 (S : (F.lp p L En It oL oE oI gI gs).St ρ' s) (hp : ∀ b ∈ F.Z, p' b = p b) (hd : ∀ b ∈ F.Z, b ∉ [L, En, It]) (hw : ∀ x T, ρ.lookup x = some T → ρ'.lookup x = some T) : (F.lp p' L En It oL oE oI gI gs).St ρ s := by
  have := (S.congrPn (pn := (F.lp p' L En It oL oE oI gI gs).pn) (fun b hb => ?_)).weaken hw
  · exact this
  · simp only [lp]
    rcases List.mem_append.mp (show b ∈ [L, En, It] ++ F.Z from hb) with q | q
    · by_cases h1 : b = L
      · simp [h1]
      · by_cases h2 : b = En
        · simp [h1, h2]
        · have h3 : b = It := by simpa [h1, h2] using q
          subst h3; simp [h1, h2]
    · rw [hp b q]
theorem St.turnG {a : Addr} {P' : Pn} (S : ((F.lp p L En It oL oE oI gI gs).setPin a P').St ρ' s) (ha : a ∈ F.Z) (hp : ∀ b ∈ F.Z, p' b = if b = a then P' else p b) (hd : ∀ b ∈ F.Z, b ∉ [L, En, It]) (hw : ∀ x T, ρ.lookup x = some T → ρ'.lookup x = some T) : (F.lp p' L En It oL oE oI gI gs).St ρ s := by
  have := (S.congrPn (pn := (F.lp p' L En It oL oE oI gI gs).pn) (fun b hb => ?_)).weaken hw
  · exact this
  · have hda := hd a ha
    simp only [lp, setPin]
    rcases List.mem_append.mp (show b ∈ [L, En, It] ++ F.Z from hb) with q | q
    · have hba : b ≠ a := fun e => hda (e ▸ q)
      by_cases h1 : b = L
      · subst h1; simp [hba]
      · by_cases h2 : b = En
        · subst h2; simp [h1, hba]
        · have h3 : b = It := by simpa [h1, h2] using q
          subst h3; simp [h1, h2, hba]
    · have hdb := hd b q
      have h1 : b ≠ L := fun e => hdb (by simp [e])
      have h2 : b ≠ En := fun e => hdb (by simp [e])
      have h3 : b ≠ It := fun e => hdb (by simp [e])
      simp only [h1, h2, h3, if_false]; exact hp b q
def optD : Option Nat → PyData
  | none => .none
  | some n => .int n
theorem Cm.is_none {o : Option Nat} : F.Cm ρ .Is (tD (optD o)) (tD .none) o.isNone := fun s S a c ha hc E Q k => by
  obtain rfl := hc.none_inv
  cases o with
  | none => obtain rfl := Rd.none_inv ha; exact PyProof.Rows.is_none_gen (k s (.refl _ _))
  | some n => obtain ⟨t, rfl⟩ := Rd.int_inv ha; exact PyProof.Rows.is_int_none (k s (.refl _ _))
end Fm
end Mine

/-! P2 -/
namespace Mine
open PySem PySem.Spec PyProof.Rows

def quot : Str := "\""
structure SS where
  start : Nat
  opn : Option Nat
  res : List Str
def SS.step (x : Str) (st : SS) (q : Nat × Str) : SS :=
  if q.2 == quot then (match st.opn with
    | none => ⟨st.start, some q.1, st.res⟩
    | some o => ⟨q.1 + 1, none, if (st.start : Int) != (o : Int) then st.res ++ [Txt.slice x (some (st.start : Nat)) (some (o : Nat))] else st.res⟩)
  else st
def ssAt (x : Str) (i : Nat) : SS := ((escItems x).take i).foldl (SS.step x) ⟨0, none, []⟩
theorem ssAt_succ {x : Str} {i : Nat} (h : i < (escItems x).length) : ssAt x (i + 1) = (ssAt x i).step x ((escItems x).getD i (0, "")) := by
  unfold ssAt
  rw [List.take_succ_eq_append_getElem h, List.foldl_append, List.getD_eq_getElem?_getD, List.getElem?_eq_getElem h]; rfl
theorem step_len (x : Str) (st : SS) (q : Nat × Str) : (st.step x q).res.length ≤ st.res.length + 1 := by
  unfold SS.step
  split
  · split
    · exact Nat.le_succ _
    · dsimp only; split
      · simp
      · exact Nat.le_succ _
  · exact Nat.le_succ _
theorem ssAt_len (x : Str) : ∀ i, i ≤ (escItems x).length → (ssAt x i).res.length ≤ i
  | 0, _ => by simp [ssAt]
  | i + 1, h => by rw [ssAt_succ h]; have := step_len x (ssAt x i) ((escItems x).getD i (0, "")); have := ssAt_len x i (by omega); omega
theorem escGo_len : ∀ (l : List Nat) (p : Nat) (e : Bool), (escGo l p e).length ≤ l.length + 1
  | [], p, e => by unfold escGo; split <;> simp
  | c :: r, p, true => by unfold escGo; simp only [List.length_cons]; have := escGo_len r (p + 1) false; omega
  | c :: r, p, false => by
    unfold escGo; split
    · have := escGo_len r (p + 1) true; simp only [List.length_cons]; omega
    · simp only [List.length_cons]; have := escGo_len r (p + 1) false; omega
def stripParts (x : Str) : List Str := if ((ssAt x (escItems x).length).start : Int) < x.length then (ssAt x (escItems x).length).res ++ [Txt.slice x (some ((ssAt x (escItems x).length).start : Nat)) none] else (ssAt x (escItems x).length).res
def hasQ (x : Str) : Bool := !(Builtin.Str.occurrences x quot 0 x.length 1).isEmpty
def stripped (x : Str) : Str := if hasQ x then Txt.join "" (stripParts x) else x

theorem fn_strip {w : World} {mg mb : Str → Option Value} {x : Str} (hx : x.length ≤ 1000) (hend : escEnd x.cps.toList false = false) (hjoin : JoinOk "" (stripParts x) = true) : Fn w mg mb 3 "_strip_quoted_realnames" [tS x] (tS (stripped x)) := by
  refine Fn.intro (List.mem_of_getElem? (i := 4) (show theDefs[4]? = some (_, _, _, _) from rfl)) (xs := ["addr"]) rfl ?_ (by decide) (by decide) ?_
  · intro pm cd doc vals hv
    obtain ⟨v, rfl⟩ := vals1 hv; rfl
  intro A a cd s X hr s₁ S
  refine Fm.wp_if S (Fm.Ts.cmp .str (Fm.Ev.name rfl) Fm.Cm.notIn_str) (fun hb s₂ S₂ _ => ?_) (fun hb s₂ S₂ _ => ?_)
  · refine Fm.wp_return S₂ (Fm.Ev.name rfl) fun v s' S' _ hv => ?_
    have hb : (!hasQ x) = true := hb
    rw [show stripped x = x from by unfold stripped; rw [if_neg]; intro q; rw [q] at hb; exact absurd hb (by decide)]
    exact S'.fin hv
  refine Fm.wp_nil ?_
  have hq : hasQ x = true := by have hb : (!hasQ x) = false := hb; simpa using hb
  refine Fm.wp_assign S₂ .int fun s₃ S₃ _ => ?_
  refine Fm.wp_assign S₃ .none fun s₄ S₄ _ => ?_
  refine Fm.wp_newOwn S₄ fun a₁ s₅ ha S₅ => ?_
  let ρP : SS → List (Str × Ty) := fun st => [("result", tV (.ref a₁)), ("open_pos", tD (Fm.optD st.opn)), ("start", tI st.start), ("addr", tS x)]
  let pnP : SS → Addr → Pn := fun st b => if b = a₁ then pnList (sds st.res) else pnAny
  have S₆ := (S₅.congrPn (pn := pnP (ssAt x 0)) (fun b hb => by
    rcases List.mem_cons.mp hb with q | q
    · subst q; simp [Fm.add, pnP, ssAt]
    · exact nomatch q)).weaken (ρ' := ρP (ssAt x 0)) (sub_cons rfl (sub_cons rfl (sub_cons rfl (sub_cons rfl sub_nil))))
  refine Fm.wp_forGen (x := x) (pn := fun i => pnP (ssAt x i)) (ρi := fun i => ρP (ssAt x i)) S₆ (Fm.Ev.name rfl) (by omega) hend (Nat.le_refl _) ?_ ?_
  · intro L En It oL oE oI gI gs i hd hge hi s₇ S₇
    have hst := ssAt_succ hi
    have hl := ssAt_len x i (Nat.le_of_lt hi)
    have hel : (escItems x).length ≤ x.length + 1 := by have := escGo_len x.cps.toList 0 false; unfold escItems; simpa [Str.length] using this
    generalize (escItems x).getD i (0, "") = q at *
    generalize ssAt x i = st at *
    generalize ssAt x (i + 1) = st' at *
    have aZ : a₁ ∈ L :: En :: It :: [a₁] := by simp
    have hda := hd a₁ (List.mem_cons_self ..)
    have n1 : a₁ ≠ L := fun e => hda (by simp [e])
    have n2 : a₁ ≠ En := fun e => hda (by simp [e])
    have n3 : a₁ ≠ It := fun e => hda (by simp [e])
    refine Fm.wp_if S₇ (Fm.Ts.cmp (Fm.Ev.name rfl) .str Fm.Cm.eq_str) (fun hb s₈ S₈ _ => ?_) (fun hb s₈ S₈ _ => ?_)
    · have hb : (q.2 == quot) = true := hb
      refine Fm.wp_if S₈ (Fm.Ts.cmp (Fm.Ev.name rfl) .none Fm.Cm.is_none) (fun hb2 s₉ S₉ _ => ?_) (fun hb2 s₉ S₉ _ => ?_)
      · cases ho : st.opn with
        | some o => rw [ho] at hb2; exact absurd hb2 (by simp)
        | none =>
          have e : st' = ⟨st.start, some q.1, st.res⟩ := by rw [hst]; unfold SS.step; rw [if_pos hb, ho]
          refine Fm.wp_assign S₉ (Fm.Ev.name rfl) fun s10 S10 _ => Fm.wp_nil (Fm.wp_nil (Fm.wp_nil ?_))
          have := Fm.St.turnG0 (p' := pnP st') (ρ := ρP st') S10 (fun b _ => by simp only [pnP, e]) hd (by rw [e]; exact sub_cons rfl (sub_cons rfl (sub_cons rfl (sub_cons rfl sub_nil))))
          exact this
      · cases ho : st.opn with
        | none => rw [ho] at hb2; exact absurd hb2 (by simp)
        | some o =>
          have S9 := S₉
          simp only [ρP, ho] at S9
          refine Fm.wp_if S9 (Fm.Ts.cmp (Fm.Ev.name rfl) (Fm.Ev.name (T := tI o) rfl) Fm.Cm.ne_int) (fun hb3 s10 S10 _ => ?_) (fun hb3 s10 S10 _ => ?_)
          · have e : st' = ⟨q.1 + 1, none, st.res ++ [Txt.slice x (some (st.start : Nat)) (some (o : Nat))]⟩ := by rw [hst]; unfold SS.step; rw [if_pos hb, ho]; dsimp only; rw [if_pos hb3]
            refine Fm.wp_append (a := a₁) (ds := sds st.res) S10 rfl aZ (by simp [Fm.lp, n1, n2, n3, pnP]) (Fm.Ev.str_slice (Fm.Ev.name rfl) (.some (Fm.Ev.name rfl)) (.some (Fm.Ev.name (T := tI o) rfl)) (by rw [sizeLine_eq]; omega)) (by rw [sizeLine_eq, List.length_map]; omega) fun s11 S11 => ?_
            refine Fm.wp_nil ?_
            refine Fm.St.on S11 ?_
            refine Fm.wp_assign S11 (Fm.Ev.add_int (Fm.Ev.name rfl) .int) fun s12 S12 _ => ?_
            refine Fm.wp_assign S12 .none fun s13 S13 _ => Fm.wp_nil (Fm.wp_nil (Fm.wp_nil ?_))
            have := Fm.St.turnG (p' := pnP st') (ρ := ρP st') S13 (List.mem_cons_self ..) (fun b _ => by simp only [pnP, e, sds, List.map_append]; split <;> rfl) hd (by rw [e]; exact sub_cons rfl (sub_cons rfl (sub_cons rfl (sub_cons rfl sub_nil))))
            exact this
          · have e : st' = ⟨q.1 + 1, none, st.res⟩ := by rw [hst]; unfold SS.step; rw [if_pos hb, ho]; dsimp only; rw [if_neg (by rw [hb3]; exact Bool.false_ne_true)]
            refine Fm.wp_nil ?_
            refine Fm.wp_assign S10 (Fm.Ev.add_int (Fm.Ev.name rfl) .int) fun s12 S12 _ => ?_
            refine Fm.wp_assign S12 .none fun s13 S13 _ => Fm.wp_nil (Fm.wp_nil (Fm.wp_nil ?_))
            have := Fm.St.turnG0 (p' := pnP st') (ρ := ρP st') S13 (fun b _ => by simp only [pnP, e]) hd (by rw [e]; exact sub_cons rfl (sub_cons rfl (sub_cons rfl (sub_cons rfl sub_nil))))
            exact this
    · have e : st' = st := by rw [hst]; unfold SS.step; rw [if_neg]; intro h; have hb : (q.2 == quot) = false := hb; rw [h] at hb; exact absurd hb (by decide)
      refine Fm.wp_nil (Fm.wp_nil ?_)
      have := Fm.St.turnG0 (p' := pnP st') (ρ := ρP st') S₈ (fun b _ => by rw [e]) hd (by rw [e]; exact sub_cons rfl (sub_cons rfl (sub_cons rfl (sub_cons rfl sub_nil))))
      exact this
  · intro s₇ S₇
    have hl := ssAt_len x (escItems x).length (Nat.le_refl _)
    have hel : (escItems x).length ≤ x.length + 1 := by have := escGo_len x.cps.toList 0 false; unfold escItems; simpa [Str.length] using this
    have hsp : stripParts x = if ((ssAt x (escItems x).length).start : Int) < x.length then (ssAt x (escItems x).length).res ++ [Txt.slice x (some ((ssAt x (escItems x).length).start : Nat)) none] else (ssAt x (escItems x).length).res := rfl
    rw [show stripped x = Txt.join "" (stripParts x) from by unfold stripped; rw [if_pos hq]]
    generalize ssAt x (escItems x).length = st at *
    refine Fm.wp_if S₇ (Fm.Ts.cmp (Fm.Ev.name rfl) (Fm.Ev.len_str (Fm.Ev.name rfl) (by rw [sizeLine_eq]; omega)) Fm.Cm.lt_int) (fun hb s₈ S₈ _ => ?_) (fun hb s₈ S₈ _ => ?_)
    · rw [if_pos (of_decide_eq_true hb)] at hsp
      refine Fm.wp_append (a := a₁) (ds := sds st.res) S₈ rfl (by simp [Fm.withPn, Fm.add]) (by simp [Fm.withPn, pnP]) (Fm.Ev.str_slice (Fm.Ev.name rfl) (.some (Fm.Ev.name rfl)) .none (by rw [sizeLine_eq]; omega)) (by rw [sizeLine_eq, List.length_map]; omega) fun s₉ S₉ => Fm.wp_nil ?_
      refine Fm.St.on S₉ ?_
      refine Fm.wp_freeze (x := "result") (a := a₁) (Z' := []) (ds := sds (stripParts x)) S₉ rfl (by simp) (by simp [Fm.setPin, hsp]) rfl fun S10 => ?_
      exact Fm.wp_return S10 (Fm.Ev.join .str (Fm.Ev.name rfl) hjoin) fun v s' S' _ hv => S'.fin hv
    · rw [if_neg (of_decide_eq_false hb)] at hsp
      refine Fm.wp_nil ?_
      refine Fm.wp_freeze (x := "result") (a := a₁) (Z' := []) (ds := sds (stripParts x)) S₈ rfl (by simp) (by simp [Fm.withPn, pnP, hsp]) rfl fun S10 => ?_
      exact Fm.wp_return S10 (Fm.Ev.join .str (Fm.Ev.name rfl) hjoin) fun v s' S' _ hv => S'.fin hv
end Mine

/-! P3 -/
namespace Mine
open PySem PySem.Spec PyProof.Rows

def lpar : Str := "("
def rpar : Str := ")"
def opStep (o : Option Int) (c : Str) : Option Int := match o with
  | none => none
  | some n => if c == lpar then some (n + 1) else if c == rpar then (if decide (n - 1 < 0) then none else some (n - 1)) else some n
def opAt (y : Str) (i : Nat) : Option Int := ((escItems y).take i).foldl (fun o q => opStep o q.2) (some 0)
theorem opAt_succ {y : Str} {i : Nat} (h : i < (escItems y).length) : opAt y (i + 1) = opStep (opAt y i) ((escItems y).getD i (0, "")).2 := by
  unfold opAt
  rw [List.take_succ_eq_append_getElem h, List.foldl_append, List.getD_eq_getElem?_getD, List.getElem?_eq_getElem h]; rfl
theorem opAt_none {y : Str} {i : Nat} (h : opAt y i = none) : ∀ j, i ≤ j → j ≤ (escItems y).length → opAt y j = none := by
  intro j hij
  induction j with
  | zero => intro _; have : i = 0 := by omega
            subst this; exact h
  | succ j ih =>
    intro hj
    rcases Nat.lt_or_eq_of_le hij with q | q
    · rw [opAt_succ hj, ih (by omega) (by omega)]; rfl
    · rw [← q]; exact h
def chk (y : Str) : Bool := opAt y (escItems y).length == some 0
def tOpn : Option Int → Ty
  | some n => tI n
  | none => ⟨fun _ _ => False, fun _ _ _ _ h => h⟩

theorem fn_check {w : World} {mg mb : Str → Option Value} {x : Str} (hx : x.length ≤ 1000) (hend : escEnd x.cps.toList false = false) (hjoin : JoinOk "" (stripParts x) = true) (hy : (stripped x).length ≤ 1000) (hend' : escEnd (stripped x).cps.toList false = false) :
    Fn w mg mb 4 "_check_parenthesis" [tS x] (tB (chk (stripped x))) := by
  refine Fn.intro (List.mem_of_getElem? (i := 5) (show theDefs[5]? = some (_, _, _, _) from rfl)) (xs := ["addr"]) rfl ?_ (by decide) (by decide) ?_
  · intro pm cd doc vals hv
    obtain ⟨v, rfl⟩ := vals1 hv; rfl
  intro A a cd s X hr s₁ S
  refine Fm.wp_assign S (Fm.Ev.call (List.mem_of_getElem? (i := 4) (show theDefs[4]? = some (_, _, _, _) from rfl)) (fn_strip hx hend hjoin) (.cons (Fm.Ev.name rfl) .nil) (Nat.le_refl _)) fun s₂ S₂ _ => ?_
  generalize stripped x = y at *
  refine Fm.wp_assign S₂ .int fun s₃ S₃ _ => ?_
  have S₄ := S₃.weaken (ρ' := [("opens", tOpn (opAt y 0)), ("addr", tS y)]) (sub_cons rfl (sub_cons rfl sub_nil))
  refine Fm.wp_forGen (x := y) (pn := fun _ _ => pnAny) (ρi := fun i => [("opens", tOpn (opAt y i)), ("addr", tS y)]) S₄ (Fm.Ev.name rfl) (by omega) hend' (by show 2 ≤ 3; omega) ?_ ?_
  · intro L En It oL oE oI gI gs i hd hge hi s₇ S₇
    have hst := opAt_succ hi
    have hno : opAt y (i + 1) = none → chk y = false := fun h => by unfold chk; rw [opAt_none h _ hi (Nat.le_refl _)]; rfl
    generalize (escItems y).getD i (0, "") = q at *
    generalize opAt y i = o at *
    generalize opAt y (i + 1) = o' at *
    cases o with
    | none => exfalso; obtain ⟨v, h1, _⟩ := S₇.names "opens" (tOpn none) rfl; exact h1
    | some n =>
      have done : ∀ {F : Fm} (m : Int) (s₈ : Shared) (ρ' : List (Str × Ty)), o' = some m → F.St ρ' s₈ → (∀ z T, ([("opens", tI m), ("addr", tS y)] : List (Str × Ty)).lookup z = some T → ρ'.lookup z = some T) → F.St [("opens", tOpn o'), ("addr", tS y)] s₈ := fun m s₈ ρ' e S₈ hw => by
        rw [e]; exact S₈.weaken hw
      have hn' : (tOpn (some n)) = tI n := rfl
      have S7 := S₇
      simp only [tOpn] at S7
      refine Fm.wp_if S7 (Fm.Ts.cmp (Fm.Ev.name rfl) .str Fm.Cm.eq_str) (fun hb s₈ S₈ _ => ?_) (fun hb s₈ S₈ _ => ?_)
      · have hb : (q.2 == lpar) = true := hb
        have e : o' = some (n + 1) := by rw [hst]; simp only [opStep]; rw [if_pos hb]
        refine Fm.wp_aug S₈ (T := tI n) rfl .int Fm.iadd_int_op fun s₉ S₉ _ => Fm.wp_nil (Fm.wp_nil ?_)
        exact done (n + 1) s₉ _ e S₉ (sub_cons rfl (sub_cons rfl sub_nil))
      · have hb : (q.2 == lpar) = false := hb
        refine Fm.wp_if S₈ (Fm.Ts.cmp (Fm.Ev.name rfl) .str Fm.Cm.eq_str) (fun hb2 s₉ S₉ _ => ?_) (fun hb2 s₉ S₉ _ => ?_)
        · have hb2 : (q.2 == rpar) = true := hb2
          refine Fm.wp_aug S₉ (T := tI n) rfl .int Fm.isub_int_op fun s10 S10 _ => ?_
          refine Fm.wp_if S10 (Fm.Ts.cmp (Fm.Ev.name rfl) .int Fm.Cm.lt_int) (fun hb3 s11 S11 _ => ?_) (fun hb3 s11 S11 _ => ?_)
          · have e : o' = none := by rw [hst]; simp only [opStep]; rw [if_neg (by rw [hb]; exact Bool.false_ne_true), if_pos hb2, if_pos hb3]
            refine Fm.wp_return S11 .bool fun v s' S' _ hv => ?_
            rw [hno e]
            exact ⟨v, rfl, ⟨S'.base.keep, S'.base.there, S'.base.os, hge.trans S'.base.gens, S'.base.toks⟩, Ty.mono _ _ _ _ (cut_sub fun z hz => List.mem_append_right _ (List.mem_append_right _ hz)) hv⟩
          · have e : o' = some (n - 1) := by rw [hst]; simp only [opStep]; rw [if_neg (by rw [hb]; exact Bool.false_ne_true), if_pos hb2, if_neg (by rw [hb3]; exact Bool.false_ne_true)]
            refine Fm.wp_nil (Fm.wp_nil (Fm.wp_nil (Fm.wp_nil ?_)))
            exact done (n - 1) s11 _ e S11 (sub_cons rfl (sub_cons rfl sub_nil))
        · have hb2 : (q.2 == rpar) = false := hb2
          have e : o' = some n := by rw [hst]; simp only [opStep]; rw [if_neg (by rw [hb]; exact Bool.false_ne_true), if_neg (by rw [hb2]; exact Bool.false_ne_true)]
          refine Fm.wp_nil (Fm.wp_nil (Fm.wp_nil ?_))
          exact done n s₉ _ e S₉ (sub_cons rfl (sub_cons rfl sub_nil))
  · intro s₇ S₇
    cases ho : opAt y (escItems y).length with
    | none => exfalso; rw [ho] at S₇; obtain ⟨v, h1, _⟩ := S₇.names "opens" (tOpn none) rfl; exact h1
    | some n =>
      rw [ho] at S₇
      have S7 := S₇
      simp only [tOpn] at S7
      refine Fm.wp_return S7 (Fm.Ev.cmp (Fm.Ev.name (T := tI n) rfl) .int Fm.Cm.eq_int) fun v s' S' _ hv => ?_
      rw [show chk y = (n == 0) from by unfold chk; rw [ho]; rfl]
      exact S'.fin hv
end Mine

/-! U6 -/
namespace Mine
open PySem PySem.Spec PyProof.Rows PySem.Builtin.Str

/-! ## the scan of signs -/
theorem escGo_app : ∀ (l r : List Nat) (p : Nat) (e : Bool), escEnd l e = false → escGo (l ++ r) p e = escGo l p e ++ escGo r (p + l.length) false
  | [], r, p, e, h => by
    have h : e = false := h
    subst h; simp [escGo]
  | c :: l, r, p, true, h => by
    have h : escEnd l false = false := h
    show _ :: escGo (l ++ r) (p + 1) false = _ :: escGo l (p + 1) false ++ _
    rw [escGo_app l r (p + 1) false h, List.length_cons, show p + 1 + l.length = p + (l.length + 1) from by omega]; rfl
  | c :: l, r, p, false, h => by
    have h : escEnd l (chr c == bsl) = false := h
    show (if chr c == bsl then escGo (l ++ r) (p + 1) true else _ :: escGo (l ++ r) (p + 1) false) = (if chr c == bsl then escGo l (p + 1) true else _ :: escGo l (p + 1) false) ++ _
    rw [List.length_cons, show p + (l.length + 1) = p + 1 + l.length from by omega]
    by_cases hc : (chr c == bsl) = true
    · rw [hc] at h; rw [if_pos hc, if_pos hc, escGo_app l r (p + 1) true h]
    · have hc' : (chr c == bsl) = false := by simpa using hc
      rw [hc'] at h; rw [if_neg hc, if_neg hc, escGo_app l r (p + 1) false h]; rfl
theorem escEnd_app : ∀ (l r : List Nat) (e : Bool), escEnd l e = false → escEnd (l ++ r) e = escEnd r false
  | [], r, e, h => by
    have h : e = false := h
    subst h; rfl
  | c :: l, r, true, h => escEnd_app l r false h
  | c :: l, r, false, h => escEnd_app l r (chr c == bsl) h
theorem bsl_beq (c : Nat) : (chr c == bsl) = decide (c = 92) := chr_beq c 92
theorem escEnd_free : ∀ l : List Nat, 92 ∉ l → escEnd l false = false
  | [], _ => rfl
  | c :: l, h => by
    show escEnd l (chr c == bsl) = false
    rw [bsl_beq, decide_eq_false fun e => h (by simp [e])]
    exact escEnd_free l fun q => h (List.mem_cons_of_mem _ q)
theorem escGo_free : ∀ (l : List Nat) (p : Nat), 92 ∉ l → (escGo l p false).map (·.2) = l.map chr
  | [], _, _ => rfl
  | c :: l, p, h => by
    have e : escGo (c :: l) p false = (p, chr c) :: escGo l (p + 1) false := by
      show (if chr c == bsl then _ else _) = _
      rw [bsl_beq, decide_eq_false fun e => h (by simp [e]), if_neg (by decide)]
    rw [e, List.map_cons, List.map_cons, escGo_free l (p + 1) fun q => h (List.mem_cons_of_mem _ q)]
theorem escEnd_esc (a : Nat) : escEnd (esc a) false = false := by
  unfold esc
  split
  · rfl
  · split
    · rfl
    · exact escEnd_free [a] (by simp; omega)
theorem escEnd_body : ∀ l : List Nat, escEnd (l.flatMap esc) false = false
  | [] => rfl
  | a :: l => by rw [List.flatMap_cons, escEnd_app _ _ _ (escEnd_esc a), escEnd_body l]

/-! ## the count of open brackets -/
def opC (o : Option Int) (c : Nat) : Option Int := opStep o (chr c)
theorem chk_run {y : Str} (h : 92 ∉ L y) : chk y = ((L y).foldl opC (some 0) == some 0) := by
  unfold chk opAt
  rw [List.take_length]
  congr 1
  have e := escGo_free (L y) 0 h
  have : ∀ (l : List (Nat × Str)) (o : Option Int), l.foldl (fun o q => opStep o q.2) o = (l.map (·.2)).foldl opStep o := fun l => by
    induction l with
    | nil => intro o; rfl
    | cons a l ih => intro o; exact ih _
  rw [this]
  unfold escItems
  rw [show y.cps.toList = L y from rfl, e]
  generalize some (0 : Int) = o
  induction L y generalizing o with
  | nil => rfl
  | cons a l ih => exact ih _
theorem opC_open (n : Int) : opC (some n) 40 = some (n + 1) := rfl
theorem opC_close (n : Int) : opC (some n) 41 = if n - 1 < 0 then none else some (n - 1) := by
  show (if decide (n - 1 < 0) = true then none else some (n - 1)) = _
  by_cases h : n - 1 < 0 <;> simp [h]
theorem run_none : ∀ l : List Nat, l.foldl opC none = none
  | [] => rfl
  | _ :: l => run_none l
theorem run_close : ∀ (m : Nat) (n : Int), 0 ≤ n → (List.replicate m 41).foldl opC (some n) = if (m : Int) ≤ n then some (n - m) else none
  | 0, n, h => by rw [if_pos (by simpa using h)]; simp
  | m + 1, n, h => by
    rw [List.replicate_succ, List.foldl_cons, opC_close]
    by_cases hn : n - 1 < 0
    · rw [if_pos hn, run_none, if_neg (by push_cast; omega)]
    · rw [if_neg hn, run_close m (n - 1) (by omega)]
      by_cases hm : (m : Int) ≤ n - 1
      · rw [if_pos hm, if_pos (by push_cast; omega)]; congr 1; push_cast; omega
      · rw [if_neg hm, if_neg (by push_cast; omega)]

/-! ## the row of stacks -/
section
variable (N : Nat) (told : Nat → Nat → Bool) (path : Nat → Str)
/-- the pairs that stand open ahead of pair k, the innermost first; ahead of the end none does -/
def stk : Nat → List Nat
  | 0 => []
  | k + 1 => (k :: stk k).dropWhile fun h => !(decide (k + 1 < N) && told h (k + 1))
def shut (k : Nat) : Nat := (stk N told k).length + 1 - (stk N told (k + 1)).length
def wordAt : Nat → List Nat
  | 0 => []
  | k + 1 => wordAt k ++ 40 :: List.replicate (shut N told k) 41
def textAt : Nat → List Nat
  | 0 => []
  | k + 1 => textAt k ++ 40 :: (L (qu (path k)) ++ List.replicate (shut N told k) 41)
end

section
variable {N : Nat} {told : Nat → Nat → Bool} {path : Nat → Str}
theorem stk_suffix (k : Nat) : stk N told (k + 1) <:+ k :: stk N told k := List.dropWhile_suffix _
theorem stk_lt : ∀ k, ∀ x ∈ stk N told k, x < k
  | 0, _, h => nomatch h
  | k + 1, x, h => by
    rcases List.mem_cons.mp ((stk_suffix k).subset h) with q | q
    · omega
    · have := stk_lt k x q; omega
theorem stk_len (k : Nat) : (stk N told (k + 1)).length ≤ (stk N told k).length + 1 := (stk_suffix k).length_le
theorem drop_all : ∀ l : List Nat, l.dropWhile (fun _ => true) = []
  | [] => rfl
  | a :: l => drop_all l
theorem stk_end : stk N told N = [] := by
  cases N with
  | zero => rfl
  | succ M =>
    show (M :: stk (M + 1) told M).dropWhile (fun h => !(decide (M + 1 < M + 1) && told h (M + 1))) = []
    rw [decide_eq_false (Nat.lt_irrefl _)]
    exact drop_all _

theorem L_rep (k : Nat) : L (Fm.rep 41 k) = List.replicate k 41 := rfl
theorem close_eq (p : Nat → Bool) : ∀ (r : List Nat) (t w : Str), close p r t w = (r.dropWhile (fun h => !p h), t ++ Fm.rep 41 (r.length - (r.dropWhile fun h => !p h).length), w ++ Fm.rep 41 (r.length - (r.dropWhile fun h => !p h).length))
  | [], t, w => by
    have e : ∀ x : Str, x ++ Fm.rep 41 0 = x := fun x => app_mk_nil x
    show ([], t, w) = ([], t ++ Fm.rep 41 0, w ++ Fm.rep 41 0)
    rw [e, e]
  | h :: r, t, w => by
    have e : ∀ x : Str, x ++ Fm.rep 41 0 = x := fun x => app_mk_nil x
    unfold close
    by_cases hp : p h = true
    · rw [if_pos hp, List.dropWhile_cons_of_neg (by simp [hp]), Nat.sub_self, e, e]
    · have hp' : p h = false := by simpa using hp
      rw [if_neg hp, List.dropWhile_cons_of_pos (by simp [hp']), close_eq p r]
      have hle : (r.dropWhile fun h => !p h).length ≤ r.length := (List.dropWhile_suffix _).length_le
      have e2 : ∀ x : Str, (x ++ ")") ++ Fm.rep 41 (r.length - (r.dropWhile fun h => !p h).length) = x ++ Fm.rep 41 ((h :: r).length - (r.dropWhile fun h => !p h).length) := fun x => by
        have : (h :: r).length - (r.dropWhile fun h => !p h).length = (r.length - (r.dropWhile fun h => !p h).length) + 1 := by rw [List.length_cons]; omega
        rw [this, app_assoc]
        refine L_inj ?_
        rw [L_app, L_app, L_app, L_rep, L_rep, List.replicate_succ]; rfl
      rw [e2, e2]

/-- the row's states -/
theorem ns_eq : ∀ k, k < N → (nsAt told path (k + 1)).rh = k :: stk N told k ∧ L (nsAt told path (k + 1)).word = wordAt N told k ++ [40] ∧ L (nsAt told path (k + 1)).text = textAt N told path k ++ 40 :: L (qu (path k)) ∧
    (nsAt told path (k + 1)).begins = (List.range (k + 1)).map fun j => (wordAt N told j).length
  | 0, _ => by
    refine ⟨rfl, ?_, ?_, rfl⟩
    · show L (Str.ofString "" ++ "(") = _; rw [L_app]; rfl
    · show L ((Str.ofString "" ++ "(") ++ qu (path 0)) = _; rw [L_app, L_app]; rfl
  | k + 1, hk => by
    obtain ⟨h1, h2, h3, h4⟩ := ns_eq k (by omega)
    have e : (nsAt told path (k + 1)).rh.dropWhile (fun h => !told h (k + 1)) = stk N told (k + 1) := by
      rw [h1]
      show _ = (k :: stk N told k).dropWhile fun h => !(decide (k + 1 < N) && told h (k + 1))
      rw [decide_eq_true hk]
      simp only [Bool.true_and]
    have es : (nsAt told path (k + 1)).rh.length - (stk N told (k + 1)).length = shut N told k := by rw [h1]; rfl
    have hw : L ((nsAt told path (k + 1)).word ++ Fm.rep 41 (shut N told k)) = wordAt N told (k + 1) := by
      rw [L_app, h2, L_rep, wordAt]; simp
    have ht : L ((nsAt told path (k + 1)).text ++ Fm.rep 41 (shut N told k)) = textAt N told path (k + 1) := by
      rw [L_app, h3, L_rep, textAt]; simp
    have hs : nsAt told path (k + 1 + 1) = (nsAt told path (k + 1)).step told path (k + 1) := rfl
    rw [hs]
    unfold NS.step
    simp only [close_eq, e, es]
    refine ⟨by trivial, ?_, ?_, ?_⟩
    · rw [L_app, hw]; rfl
    · rw [L_app, L_app, ht, List.append_assoc]; rfl
    · rw [h4, List.range_succ (n := k + 1), List.map_append, ← L_len, hw]; rfl
theorem shut_last {M : Nat} : shut (M + 1) told M = (stk (M + 1) told M).length + 1 := by
  unfold shut; rw [stk_end]; rfl
theorem nest_word {M : Nat} : L ((nsAt told path (M + 1)).word ++ Fm.rep 41 (nsAt told path (M + 1)).rh.length) = wordAt (M + 1) told (M + 1) := by
  obtain ⟨h1, h2, h3, h4⟩ := ns_eq (N := M + 1) (told := told) (path := path) M (by omega)
  rw [L_app, h2, L_rep, h1, wordAt, shut_last, List.length_cons]; simp
theorem nest_text {M : Nat} : L ((nsAt told path (M + 1)).text ++ Fm.rep 41 (nsAt told path (M + 1)).rh.length) = textAt (M + 1) told path (M + 1) := by
  obtain ⟨h1, h2, h3, h4⟩ := ns_eq (N := M + 1) (told := told) (path := path) M (by omega)
  rw [L_app, h3, L_rep, h1, textAt, shut_last, List.length_cons]; simp
theorem nest_begins {M : Nat} : (nsAt told path (M + 1)).begins ++ [(nsAt told path (M + 1)).word.length + (nsAt told path (M + 1)).rh.length] = (List.range (M + 2)).map fun j => (wordAt (M + 1) told j).length := by
  obtain ⟨h1, h2, h3, h4⟩ := ns_eq (N := M + 1) (told := told) (path := path) M (by omega)
  have e := congrArg List.length (nest_word (told := told) (path := path) (M := M))
  rw [L_app, List.length_append, L_rep, List.length_replicate, L_len] at e
  rw [h4, e, List.range_succ (n := M + 1), List.map_append]; rfl

/-! ## a stretch of the word -/
theorem word_only : ∀ k, ∀ c ∈ wordAt N told k, c = 40 ∨ c = 41
  | 0, _, h => nomatch h
  | k + 1, c, h => by
    rcases List.mem_append.mp h with q | q
    · exact word_only k c q
    · rcases List.mem_cons.mp q with q | q
      · exact .inl q
      · exact .inr (List.eq_of_mem_replicate q)
def segAt (N : Nat) (told : Nat → Nat → Bool) (i : Nat) : Nat → List Nat
  | 0 => []
  | d + 1 => segAt N told i d ++ 40 :: List.replicate (shut N told (i + d)) 41
theorem word_seg (i : Nat) : ∀ d, wordAt N told (i + d) = wordAt N told i ++ segAt N told i d
  | 0 => by simp [segAt]
  | d + 1 => by
    show wordAt N told (i + d) ++ _ = _
    rw [word_seg i d, segAt, List.append_assoc]
    rfl
theorem seg_run (i : Nat) : ∀ d, (segAt N told i d).foldl opC (some 0) = if stk N told i <:+ stk N told (i + d) then some ((stk N told (i + d)).length - (stk N told i).length : Int) else none
  | 0 => by
    show some (0 : Int) = if stk N told i <:+ stk N told i then some ((stk N told i).length - (stk N told i).length : Int) else none
    rw [if_pos List.suffix_rfl, Int.sub_self]
  | d + 1 => by
    rw [segAt, List.foldl_append, seg_run i d, List.foldl_cons]
    have hs := stk_suffix (N := N) (told := told) (i + d)
    have hl := hs.length_le
    rw [List.length_cons] at hl
    show _ = if stk N told i <:+ stk N told (i + d + 1) then some ((stk N told (i + d + 1)).length - (stk N told i).length : Int) else none
    by_cases h : stk N told i <:+ stk N told (i + d)
    · have hle := h.length_le
      rw [if_pos h, opC_open, run_close _ _ (by omega)]
      have em : ((shut N told (i + d) : Nat) : Int) = (stk N told (i + d)).length + 1 - (stk N told (i + d + 1)).length := by unfold shut; omega
      rw [em]
      by_cases h2 : (stk N told i).length ≤ (stk N told (i + d + 1)).length
      · have h3 : stk N told i <:+ stk N told (i + d + 1) := List.suffix_of_suffix_length_le (h.trans (List.suffix_cons _ _)) hs h2
        rw [if_pos h3, if_pos (by omega)]; congr 1; omega
      · rw [if_neg (by omega), if_neg (fun q => h2 (List.IsSuffix.length_le q))]
    · rw [if_neg h, if_neg]
      · exact run_none _
      · intro q
        rcases List.suffix_cons_iff.mp (q.trans hs) with e | e
        · have := stk_lt (N := N) (told := told) i (i + d) (by rw [e]; simp)
          omega
        · exact h e
theorem seg_check (i d : Nat) : ((segAt N told i d).foldl opC (some 0) == some 0) = decide (stk N told i = stk N told (i + d)) := by
  rw [seg_run]
  by_cases h : stk N told i = stk N told (i + d)
  · rw [← h, if_pos List.suffix_rfl]; simp
  · rw [decide_eq_false h]
    by_cases h2 : stk N told i <:+ stk N told (i + d)
    · rw [if_pos h2]
      refine beq_eq_false_iff_ne.mpr fun e => h (h2.eq_of_length ?_)
      have := Option.some.inj e
      omega
    · rw [if_neg h2]; rfl
theorem chk_seg {x : Str} {i k : Nat} (hik : i ≤ k) (h : L x = ((wordAt N told N).drop (wordAt N told i).length).take ((wordAt N told k).length - (wordAt N told i).length)) (hk : k ≤ N) : chk x = decide (stk N told i = stk N told k) := by
  obtain ⟨d, rfl⟩ := Nat.exists_eq_add_of_le hik
  obtain ⟨r, hr⟩ := Nat.exists_eq_add_of_le hk
  have e1 := word_seg (N := N) (told := told) (i + d) r
  rw [← hr] at e1
  have e2 := word_seg (N := N) (told := told) i d
  have hx : L x = segAt N told i d := by
    rw [h, e1, e2]; simp
  have hf : 92 ∉ L x := fun q => by
    rw [hx] at q
    have : 92 ∈ wordAt N told (i + d) := by rw [e2]; exact List.mem_append_right _ q
    rcases word_only _ _ this with q | q <;> omega
  rw [chk_run hf, hx, seg_check]
end
end Mine

/-! U7 -/
namespace Mine
open PySem PySem.Spec PyProof.Rows PySem.Builtin.Str

/-! ## the stacks are what the law calls still -/
def row (N : Nat) (told : Nat → Nat → Bool) (i : Nat) : List Bool := (List.range N).map (told i)
def stl (N : Nat) (told : Nat → Nat → Bool) (k i : Nat) : Bool := !((sl (row N told i) (some ((i : Int) + 1)) (some ((k : Int) + 1))).any fun b => !b)
def stillAt (N : Nat) (told : Nat → Nat → Bool) (k : Nat) : List Nat := if k < N then (List.range k).filter (stl N told k) else []

theorem sl_nat {α : Type} (ds : List α) (i j : Nat) (hj : j ≤ ds.length) (hij : i ≤ j) : sl ds (some (i : Int)) (some (j : Int)) = (ds.drop i).take (j - i) := by
  unfold sl
  simp only [Option.elim, clipAt_nat, Nat.min_eq_left hj, Nat.min_eq_left (Nat.le_trans hij hj)]
theorem stl_iff {N : Nat} {told : Nat → Nat → Bool} {k i : Nat} (hk : k < N) (hi : i ≤ k) : stl N told k i = true ↔ ∀ j, i < j → j ≤ k → told i j = true := by
  unfold stl row
  rw [show ((i : Int) + 1) = ((i + 1 : Nat) : Int) from rfl, show ((k : Int) + 1) = ((k + 1 : Nat) : Int) from rfl, sl_nat _ _ _ (by simp; omega) (by omega)]
  rw [Bool.not_eq_true', List.any_eq_false]
  constructor
  · intro h j h1 h2
    have hm : told i j ∈ (((List.range N).map (told i)).drop (i + 1)).take (k + 1 - (i + 1)) := by
      rw [List.mem_iff_getElem?]
      refine ⟨j - (i + 1), ?_⟩
      rw [List.getElem?_take_of_lt (by omega), List.getElem?_drop, List.getElem?_map, show i + 1 + (j - (i + 1)) = j from by omega, List.getElem?_range (by omega)]
      rfl
    have := h _ hm
    simpa using this
  · intro h b hb
    obtain ⟨m, hm⟩ := List.mem_iff_getElem?.mp hb
    have hlt : m < k + 1 - (i + 1) := by
      refine Nat.lt_of_not_le fun q => ?_
      rw [List.getElem?_take, if_neg (by omega)] at hm; cases hm
    rw [List.getElem?_take_of_lt hlt, List.getElem?_drop, List.getElem?_map, List.getElem?_range (show i + 1 + m < N by omega)] at hm
    have hm := Option.some.inj hm
    have := h (i + 1 + m) (by omega) (by omega)
    rw [← hm, this]; decide
theorem dropWhile_filter {α : Type} (p : α → Bool) : ∀ l : List α, l.Pairwise (fun a b => p a = true → p b = true) → l.dropWhile (fun a => !p a) = l.filter p
  | [], _ => rfl
  | a :: l, h => by
    obtain ⟨h1, h2⟩ := List.pairwise_cons.mp h
    by_cases hp : p a = true
    · rw [List.dropWhile_cons_of_neg (by simp [hp]), List.filter_cons_of_pos hp, List.filter_eq_self.mpr fun b hb => h1 b hb hp]
    · have hp' : p a = false := by simpa using hp
      rw [List.dropWhile_cons_of_pos (by simp [hp']), List.filter_cons_of_neg hp, dropWhile_filter p l h2]

theorem stk_still {N : Nat} {told : Nat → Nat → Bool} (ht : ∀ a b c, told a b = true → told b c = true → told a c = true) : ∀ k, k < N → stk N told k = ((List.range k).filter (stl N told k)).reverse
  | 0, _ => rfl
  | k + 1, hk => by
    have ih := stk_still (N := N) ht k (Nat.lt_of_succ_lt hk)
    have hc : k :: stk N told k = ((List.range (k + 1)).filter fun i => decide (i = k) || stl N told k i).reverse := by
      rw [ih, List.range_succ, List.filter_append, List.reverse_append]
      have e1 : (List.filter (fun i => decide (i = k) || stl N told k i) [k]).reverse = [k] := by simp
      have e2 : (List.range k).filter (fun i => decide (i = k) || stl N told k i) = (List.range k).filter (stl N told k) := List.filter_congr fun i hi => by
        have : i < k := by simpa using hi
        rw [decide_eq_false (by omega), Bool.false_or]
      rw [e1, e2]; rfl
    show (k :: stk N told k).dropWhile (fun h => !(decide (k + 1 < N) && told h (k + 1))) = _
    rw [decide_eq_true hk, hc]
    simp only [Bool.true_and]
    have hs : ∀ a b, a < b → b ≤ k → (decide (a = k) || stl N told k a) = true → told a b = true := fun a b hab hb h => by
      rw [Bool.or_eq_true] at h
      rcases h with h | h
      · have := of_decide_eq_true h; omega
      · exact (stl_iff (by omega) (by omega)).mp h b hab hb
    have hp : ((List.range (k + 1)).filter fun i => decide (i = k) || stl N told k i).reverse.Pairwise (fun a b => told a (k + 1) = true → told b (k + 1) = true) := by
      rw [List.pairwise_reverse]
      refine List.Pairwise.imp_of_mem ?_ ((List.pairwise_lt_range (n := k + 1)).filter _)
      intro a b ha hb hab h
      have hb' : b ≤ k := by have := List.mem_range.mp (List.mem_filter.mp hb).1; omega
      exact ht a b (k + 1) (hs a b hab hb' (List.mem_filter.mp ha).2) h
    rw [dropWhile_filter _ _ hp, List.filter_reverse, List.filter_filter]
    congr 1
    refine List.filter_congr fun i hi => ?_
    have hi : i ≤ k := by have := List.mem_range.mp hi; omega
    rw [Bool.eq_iff_iff, stl_iff hk (by omega), Bool.and_eq_true, Bool.or_eq_true, decide_eq_true_iff]
    constructor
    · rintro ⟨h1, h2⟩ j hj hjk
      by_cases e : j = k + 1
      · rw [e]; exact h1
      · rcases h2 with h2 | h2
        · omega
        · exact (stl_iff (by omega) hi).mp h2 j hj (by omega)
    · intro h
      refine ⟨h (k + 1) (by omega) (Nat.le_refl _), ?_⟩
      by_cases e : i = k
      · exact .inl e
      · exact .inr ((stl_iff (by omega) hi).mpr fun j hj hjk => h j hj (by omega))
theorem stk_stillAt {N : Nat} {told : Nat → Nat → Bool} (ht : ∀ a b c, told a b = true → told b c = true → told a c = true) {k : Nat} (hk : k ≤ N) : stillAt N told k = (stk N told k).reverse := by
  unfold stillAt
  by_cases h : k < N
  · rw [if_pos h, stk_still ht k h, List.reverse_reverse]
  · have : k = N := by omega
    subst this
    rw [if_neg h, stk_end]; rfl
theorem chk_still {N : Nat} {told : Nat → Nat → Bool} (ht : ∀ a b c, told a b = true → told b c = true → told a c = true) {x : Str} {i k : Nat} (hik : i ≤ k) (hk : k ≤ N) (h : L x = ((wordAt N told N).drop (wordAt N told i).length).take ((wordAt N told k).length - (wordAt N told i).length)) : chk x = decide (stillAt N told i = stillAt N told k) := by
  rw [chk_seg hik h hk, stk_stillAt ht (by omega), stk_stillAt ht hk]
  refine decide_eq_decide.mpr ⟨fun e => by rw [e], fun e => ?_⟩
  have := congrArg List.reverse e
  rwa [List.reverse_reverse, List.reverse_reverse] at this

/-! ## the quoted stretches are left out -/
theorem hasQ_one (x : Str) : hasQ x = decide (34 ∈ L x) := hasIn_one 34 x
theorem quot_beq (c : Nat) : (chr c == quot) = decide (c = 34) := chr_beq c 34
theorem stripped_free {x : Str} (h : 34 ∉ L x) : stripped x = x := by
  unfold stripped; rw [hasQ_one, decide_eq_false h, if_neg (by decide)]

theorem ss_free (x : Str) : ∀ (l : List Nat) (p : Nat) (st : SS), 34 ∉ l → 92 ∉ l → (escGo l p false).foldl (SS.step x) st = st
  | [], _, _, _, _ => rfl
  | c :: l, p, st, h, k => by
    have e : escGo (c :: l) p false = (p, chr c) :: escGo l (p + 1) false := by
      show (if chr c == bsl then _ else _) = _
      rw [bsl_beq, decide_eq_false fun e => k (by simp [e]), if_neg (by decide)]
    have e2 : st.step x (p, chr c) = st := by
      unfold SS.step
      rw [quot_beq, decide_eq_false fun e => h (by simp [e]), if_neg (by decide)]
    rw [e, List.foldl_cons, e2, ss_free x l (p + 1) st (fun q => h (List.mem_cons_of_mem _ q)) fun q => k (List.mem_cons_of_mem _ q)]
theorem ss_body (x : Str) : ∀ (l : List Nat) (p : Nat) (st : SS), (escGo (l.flatMap esc) p false).foldl (SS.step x) st = st
  | [], _, _ => rfl
  | c :: l, p, st => by
    rw [List.flatMap_cons, escGo_app _ _ _ _ (escEnd_esc c), List.foldl_append, ss_body x l]
    unfold esc
    by_cases h : c = 92
    · subst h; rfl
    · rw [if_neg h]
      by_cases h2 : c = 34
      · subst h2; rfl
      · rw [if_neg h2]
        exact ss_free x [c] p st (by simp; omega) (by simp; omega)
theorem ss_quote (x : Str) (p : Nat) (st : SS) : (escGo [34] p false).foldl (SS.step x) st = st.step x (p, chr 34) := rfl

section
variable {N : Nat} {told : Nat → Nat → Bool} {path : Nat → Str}
theorem escEnd_qu (y : Str) : escEnd (L (qu y)) false = false := by
  rw [L_qu, show (34 : Nat) :: ((L y).flatMap esc ++ [34]) = [34] ++ ((L y).flatMap esc ++ [34]) from rfl, escEnd_app [34] _ _ rfl, escEnd_app _ _ _ (escEnd_body _)]; rfl
theorem escEnd_text : ∀ k, escEnd (textAt N told path k) false = false
  | 0 => rfl
  | k + 1 => by
    rw [textAt, escEnd_app _ _ _ (escEnd_text k), show (40 : Nat) :: (L (qu (path k)) ++ List.replicate (shut N told k) 41) = [40] ++ (L (qu (path k)) ++ List.replicate (shut N told k) 41) from rfl, escEnd_app [40] _ _ rfl, escEnd_app _ _ _ (escEnd_qu _)]
    exact escEnd_free _ fun q => by have := List.eq_of_mem_replicate q; omega

theorem text_prefix : ∀ k m, k ≤ m → textAt N told path k <+: textAt N told path m := by
  intro k m h
  obtain ⟨d, rfl⟩ := Nat.exists_eq_add_of_le h
  clear h
  induction d with
  | zero => exact List.prefix_rfl
  | succ d ih => exact ih.trans (List.prefix_append _ _)

theorem text_scan (x : Str) (hx : L x = textAt N told path N) : ∀ k, k ≤ N → ∃ st : SS, (escGo (textAt N told path k) 0 false).foldl (SS.step x) ⟨0, none, []⟩ = st ∧ st.opn = none ∧ st.start ≤ (textAt N told path k).length ∧ (st.res.map L).flatten ++ (textAt N told path k).drop st.start = wordAt N told k
  | 0, _ => ⟨⟨0, none, []⟩, rfl, rfl, Nat.le_refl _, rfl⟩
  | k + 1, hk => by
    obtain ⟨st, h1, h2, h3, h4⟩ := text_scan x hx k (by omega)
    obtain ⟨start, opn, res⟩ := st
    have h2 : opn = none := h2
    subst h2
    have h3 : start ≤ (textAt N told path k).length := h3
    have h4 : (res.map L).flatten ++ (textAt N told path k).drop start = wordAt N told k := h4
    have hpre : textAt N told path (k + 1) <+: L x := by rw [hx]; exact text_prefix _ _ hk
    generalize hT : textAt N told path k = T at *
    have hT1 : textAt N told path (k + 1) = T ++ (([40] ++ ([34] ++ ((L (path k)).flatMap esc ++ [34]))) ++ List.replicate (shut N told k) 41) := by
      rw [textAt, hT, L_qu]; simp
    generalize hB : (L (path k)).flatMap esc = B at *
    have hBe : escEnd B false = false := by rw [← hB]; exact escEnd_body _
    have hend : escEnd T false = false := by rw [← hT]; exact escEnd_text k
    rw [hT1] at hpre ⊢
    have hxl : T.length + 1 ≤ x.length := by
      have := hpre.length_le
      rw [L_len] at this
      simp at this; omega
    have hsl : L (Txt.slice x (some (start : Nat)) (some ((T.length + 1 : Nat) : Int))) = T.drop start ++ [40] := by
      rw [L_slice_ss x (by omega) hxl]
      obtain ⟨r, hr⟩ := hpre
      rw [← hr]
      have e : T ++ (([40] ++ ([34] ++ (B ++ [34]))) ++ List.replicate (shut N told k) 41) ++ r = (T ++ [40]) ++ ([34] ++ (B ++ [34]) ++ List.replicate (shut N told k) 41 ++ r) := by simp
      rw [e, List.drop_append_of_le_length (by simp <;> omega), List.take_append_of_le_length (by simp <;> omega), List.drop_append_of_le_length h3]
      rw [List.take_of_length_le (by simp <;> omega)]
    have hscan : (escGo (T ++ (([40] ++ ([34] ++ (B ++ [34]))) ++ List.replicate (shut N told k) 41)) 0 false).foldl (SS.step x) ⟨0, none, []⟩ = ⟨T.length + 2 + B.length + 1, none, res ++ [Txt.slice x (some (start : Nat)) (some ((T.length + 1 : Nat) : Int))]⟩ := by
      rw [escGo_app T _ _ _ hend, List.foldl_append, h1, Nat.zero_add, List.append_assoc, escGo_app [40] _ _ _ rfl, List.foldl_append, ss_free x [40] _ _ (by decide) (by decide)]
      rw [List.append_assoc, escGo_app [34] _ _ _ rfl, List.foldl_append, ss_quote]
      have s1 : (⟨start, none, res⟩ : SS).step x (T.length + [40].length, chr 34) = ⟨start, some (T.length + 1), res⟩ := rfl
      rw [s1, List.append_assoc, escGo_app B _ _ _ hBe, List.foldl_append, ← hB, ss_body, hB, escGo_app [34] _ _ _ rfl, List.foldl_append, ss_quote]
      have s2 : (⟨start, some (T.length + 1), res⟩ : SS).step x (T.length + [40].length + [34].length + B.length, chr 34) = ⟨T.length + 2 + B.length + 1, none, res ++ [Txt.slice x (some (start : Nat)) (some ((T.length + 1 : Nat) : Int))]⟩ := by
        have hne : ((start : Int) != ((T.length + 1 : Nat) : Int)) = true := bne_iff_ne.mpr (by omega)
        show (⟨T.length + [40].length + [34].length + B.length + 1, none, if ((start : Int) != ((T.length + 1 : Nat) : Int)) = true then _ else res⟩ : SS) = _
        rw [if_pos hne]
        rfl
      rw [s2, ss_free x _ _ _ (fun q => by have := List.eq_of_mem_replicate q; omega) (fun q => by have := List.eq_of_mem_replicate q; omega)]
    refine ⟨_, hscan, rfl, ?_, ?_⟩
    · simp; omega
    · show ((res ++ [Txt.slice x (some (start : Nat)) (some ((T.length + 1 : Nat) : Int))]).map L).flatten ++ (T ++ (([40] ++ ([34] ++ (B ++ [34]))) ++ List.replicate (shut N told k) 41)).drop (T.length + 2 + B.length + 1) = _
      rw [List.map_append, List.flatten_append, List.map_cons, List.map_nil, hsl, wordAt, ← h4]
      have e : (T ++ (([40] ++ ([34] ++ (B ++ [34]))) ++ List.replicate (shut N told k) 41)).drop (T.length + 2 + B.length + 1) = List.replicate (shut N told k) 41 := by
        have e : T ++ (([40] ++ ([34] ++ (B ++ [34]))) ++ List.replicate (shut N told k) 41) = (T ++ ([40] ++ ([34] ++ (B ++ [34])))) ++ List.replicate (shut N told k) 41 := by simp
        rw [e]
        have el : (T ++ ([40] ++ ([34] ++ (B ++ [34])))).length = T.length + 2 + B.length + 1 := by simp; omega
        rw [← el, List.drop_left]
      rw [e]; simp
theorem stripped_text {x : Str} (hx : L x = textAt N told path N) : L (stripped x) = wordAt N told N := by
  obtain ⟨st, h1, h2, h3, h4⟩ := text_scan x hx N (Nat.le_refl _)
  have hst : ssAt x (escItems x).length = st := by
    unfold ssAt
    rw [List.take_length]
    unfold escItems
    rw [show x.cps.toList = L x from rfl, hx]; exact h1
  have hj : L (Txt.join "" (stripParts x)) = wordAt N told N := by
    rw [L_tjoin, show L (Str.ofString "") = [] from rfl, inter_nil]
    unfold stripParts
    rw [hst, ← h4]
    rw [← hx, L_len] at h3
    by_cases hlt : (st.start : Int) < x.length
    · rw [if_pos hlt, List.map_append, List.flatten_append, List.map_cons, List.map_nil, L_slice_from x h3, hx]; simp
    · rw [if_neg hlt, ← hx, List.drop_eq_nil_of_le (by rw [L_len]; omega), List.append_nil]
  by_cases hq : 34 ∈ L x
  · unfold stripped; rw [hasQ_one, decide_eq_true hq, if_pos rfl]; exact hj
  · rw [stripped_free hq, ← hj, L_tjoin, show L (Str.ofString "") = [] from rfl, inter_nil]
    have e : ssAt x (escItems x).length = ⟨0, none, []⟩ := by
      have hn : N = 0 := by
        cases N with
        | zero => rfl
        | succ M => exact absurd (by rw [hx, textAt, L_qu]; simp) hq
      subst hn
      unfold ssAt
      rw [List.take_length]
      unfold escItems
      rw [show x.cps.toList = L x from rfl, hx]; rfl
    unfold stripParts
    rw [e]
    by_cases hlt : ((0 : Nat) : Int) < x.length
    · rw [if_pos hlt, List.nil_append, List.map_cons, List.map_nil, L_slice_from x (Nat.zero_le _)]; simp
    · rw [if_neg hlt]
      have e0 : L x = [] := List.eq_nil_of_length_eq_zero (by rw [L_len]; omega)
      rw [e0]; rfl
end

/-! ## the pieces are not too long -/
theorem ss_res_len (x : Str) : ∀ (l : List (Nat × Str)) (st : SS), (∀ y ∈ st.res, y.length ≤ x.length) → (∀ y ∈ (l.foldl (SS.step x) st).res, y.length ≤ x.length)
  | [], _, h => h
  | q :: l, st, h => by
    refine ss_res_len x l _ ?_
    unfold SS.step
    split
    · split
      · exact h
      · dsimp only
        split
        · intro y hy
          rcases List.mem_append.mp hy with r | r
          · exact h y r
          · simp at r; subst r; exact Txt.slice_le ..
        · exact h
    · exact h
theorem join_parts {x : Str} (hx : x.length ≤ 1000) : JoinOk "" (stripParts x) = true := by
  have hl := ssAt_len x (escItems x).length (Nat.le_refl _)
  have hel : (escItems x).length ≤ x.length + 1 := by have := escGo_len x.cps.toList 0 false; unfold escItems; simpa [Str.length] using this
  have hr : ∀ y ∈ (ssAt x (escItems x).length).res, y.length ≤ x.length := by
    unfold ssAt; exact ss_res_len x _ _ (by simp)
  have hlen : (stripParts x).length ≤ x.length + 2 := by
    unfold stripParts; split
    · rw [List.length_append]; simp; omega
    · omega
  have hall : ∀ y ∈ stripParts x, y.length ≤ 1000 := by
    unfold stripParts; split
    · intro y hy
      rcases List.mem_append.mp hy with r | r
      · have := hr y r; omega
      · simp at r; subst r; exact Nat.le_trans (Txt.slice_le ..) hx
    · intro y hy; have := hr y hy; omega
  have hs := StrLaws.sumLen_le (B := 1000) (stripParts x) hall
  refine joinOk_of ?_
  have e : (Str.ofString "").length = 0 := by decide
  rw [e]
  have : (stripParts x).length * 1000 ≤ 1002 * 1000 := Nat.mul_le_mul_right _ (by omega)
  omega
end Mine

/-! T2 -/
namespace Mine
open PySem PySem.Spec PyProof.Rows

theorem wp_env1 {M : Model} {A : Around} {E : Value → Shared → Prop} {s : Shared} {scope : Scope} {globals : Addr} {x : Str} {v : Value} {qual : Str} {func : Option Addr} {code : Value} {builtins : Addr} {Q : Env → Shared → Prop}
    (hk : scope.kind = .function) (hl : scope.names.lookup x = some .local)
    (hQ : ∀ env, env = newEnv scope s.heap.objs.size globals (cellsFrom (s.heap.objs.size + 1) scope.names []) qual func code none builtins →
      ∀ s', s.toks < s'.toks → InCallC s env.locals (bindL env.kindOf [(x, v)] fun _ => none) env.cells (bindC env.kindOf [(x, v)] fun _ => none) s' → Q env s') :
    wpAny M A (newFunctionEnv scope globals [] [(x, v)] qual func code none builtins) Q E s := by
  simp only [newFunctionEnv, Option.isSome_none, Bool.false_eq_true, if_false]
  refine wpAny_bind (wpAny_alloc ?_)
  refine wpAny_bind (wpAny_layCells _ (fun name kind cells => by cases hkc : kind == NameKind.cell <;> simp [hkc]) _ _ _ _ ?_)
  have ok := cellsFrom_ok scope.names (s.heap.push { cls := .type "frame", data := .dict #[] }) (s.heap.objs.size + 1) [] ⟨fun _ _ hm => (nomatch hm), List.Pairwise.nil⟩ (by rw [Heap.size_push]; exact Nat.le_refl _)
  rw [Heap.size_push] at ok
  rw [show ({ s with heap := s.heap.push { cls := .type "frame", data := .dict #[] } } : Shared).heap.objs.size = s.heap.objs.size + 1 from Heap.size_push ..]
  have x₀ : InCallC s (newEnv scope s.heap.objs.size globals (cellsFrom (s.heap.objs.size + 1) scope.names []) qual func code none builtins).locals (fun _ => none) (newEnv scope s.heap.objs.size globals (cellsFrom (s.heap.objs.size + 1) scope.names []) qual func code none builtins).cells (fun _ => none) { s with heap := pushCells (s.heap.push { cls := .type "frame", data := .dict #[] }) scope.names } :=
    ⟨⟨⟨_, _, rfl⟩, (Heap.Ns.new s.heap (.type "frame")).keeps (pushCells_keeps _ _), fun b o e => pushCells_keeps _ _ b o (Heap.get?_push_of_some _ e), Nat.le_refl _⟩,
      fun n c hc => (ok.empty n c (PySem.mem_of_lookup hc)).1, ok.apart, fun n c hm => (ok.empty n c hm).2⟩
  refine wpAny_bind ?_
  rw [List.forIn_cons]
  refine wpAny_bind (wpAny_bind ?_)
  refine wpAny_storeName_local (env := newEnv scope s.heap.objs.size globals (cellsFrom (s.heap.objs.size + 1) scope.names []) qual func code none builtins) hl x₀.toInCall.ns (fun h' hn' hs' => ?_) (by rw [show (newEnv scope s.heap.objs.size globals (cellsFrom (s.heap.objs.size + 1) scope.names []) qual func code none builtins).scope.kind = .function from hk]; rfl)
  refine wpAny_pure ?_
  dsimp only
  rw [List.forIn_nil]
  refine wpAny_pure (wpAny_pure (hQ _ rfl _ (Nat.lt_succ_self _) ⟨⟨?_, ?_, fun b o e => ?_, x₀.toInCall.fresh⟩, fun k c hc => ?_, x₀.apart, x₀.above⟩))
  · exact ⟨h', _, rfl⟩
  · unfold bindL; rw [if_pos (show (newEnv scope s.heap.objs.size globals (cellsFrom (s.heap.objs.size + 1) scope.names []) qual func code none builtins).kindOf x = some .local from hl)]; exact hn'
  · exact hs'.extBut b o (Nat.ne_of_lt (Nat.lt_of_lt_of_le (Heap.lt_size e) x₀.toInCall.fresh)) (x₀.toInCall.keep b o e)
  · unfold bindC; rw [if_pos (show (newEnv scope s.heap.objs.size globals (cellsFrom (s.heap.objs.size + 1) scope.names []) qual func code none builtins).kindOf x = some .local from hl)]
    exact (x₀.cell k c hc).sameBut hs' (Nat.ne_of_gt (x₀.above k c (PySem.mem_of_lookup hc)))

/-- a call, once, from the state at hand -/
theorem callC {w : World} {mg mb : Str → Option Value} {n : Nat} {a : Addr} {f : Str} {U T : Ty} {params : Arguments} {body : List Stmt} {scope : Scope} {x : Str} {A : Around} {s : Shared} {v : Value}
    (hr : Room (n + 1) A) (G : Gl mg mb s.heap) (hv : U.P (vw s) v)
    (hd : ∃ o pm cd doc, s.heap.get? a = some o ∧ o.data = .func (Calls.docDef f params body scope pm cd doc) ∧ s.heap.CodeRec cd f)
    (hbind : ∀ pm cd doc v, bindArgs (Calls.docDef f params body scope pm cd doc) ⟨[v], []⟩ = pure [(x, v)])
    (hl : scope.names.lookup x = some .local) (hnd : ∀ m, ((cellsFrom m scope.names []).map (·.1)).Nodup)
    (hbody : ∀ cd, (Fm.fmC w mg mb n A f scope a cd { s with toks := s.toks + 1 } []).Bd [(x, U)] body T)
    {E : Value → Shared → Prop} {Q : Value → Shared → Prop} (k : ∀ v s', Ext s s' → T.P (vw s') v → Q v s')
    (hco : scope.isCoroutine = false := by rfl) (hgen : scope.isGenerator = false := by rfl) (hk : scope.kind = .function := by rfl) : wpAny (model PP w) A (PySem.call (.ref a) [v]) Q E s := by
  obtain ⟨o, pm, cd, doc, h2, h3, h4⟩ := hd
  refine wpAny_call (codeAny_call_function hr.depth h2 h3 hco hgen rfl h4 ?_)
  rw [hbind]
  refine wpAny_pure (wp_env1 hk hl fun env he s₁ htk x₁ => ?_)
  have he' : env = envOfC f scope s.heap.objs.size a cd := he
  subst he'
  obtain ⟨h₁, tk, rfl, _⟩ := x₁.done
  have keep := x₁.toInCall.keep
  refine ⟨G.nolimit.keeps keep, codeAny_func ?_⟩
  have ext : Ext { s with toks := s.toks + 1 } { s with heap := h₁, toks := tk } := Ext.mk' (s := { s with toks := s.toks + 1 }) keep htk
  have big : ∀ m, s.heap.objs.size ≤ m → s.heap.get? m = none := fun m hm => by
    cases e : s.heap.get? m with
    | none => rfl
    | some o => exact absurd (Heap.lt_size e) (Nat.not_lt.mpr hm)
  have hY : ∀ y ∈ (Fm.fmC w mg mb n A f scope a cd { s with toks := s.toks + 1 } []).Y, s.heap.objs.size ≤ y ∧ ∃ o, h₁.get? y = some o := fun y hy => by
    rcases List.mem_cons.mp hy with q | q
    · subst q; obtain ⟨o, _, _, ho, _⟩ := x₁.toInCall.ns; exact ⟨Nat.le_refl _, o, ho⟩
    · obtain ⟨⟨z, c⟩, hm, rfl⟩ := List.mem_map.mp q
      refine ⟨Nat.le_of_lt (x₁.above z c hm), ?_⟩
      obtain ⟨o, ho, _⟩ := x₁.cell z c (lookup_of_mem (hnd _) hm)
      exact ⟨o, ho⟩
  refine wpAny_mono (Fm.Run.wp (hbody cd { s with heap := h₁, toks := tk } ⟨ext, fun y hy => big _ (hY y hy).1, fun y hy => (hY y hy).2, (fun _ hx => nomatch hx), G, hr.deeper _, Nat.succ_pos _, hk, rfl, rfl, List.mem_cons_self .., ⟨_, x₁.toInCall.ns⟩, fun z c hc => ⟨_, x₁.cell z c hc⟩, x₁.apart, fun z c hc => .inl (Fm.fmC_mem hc),
    (fun _ ha => nomatch ha), (fun _ ha => nomatch ha), trivial, ?_⟩)) ?_ (fun _ _ x => x.elim)
  · intro y T' hy
    have hyx : y = x ∧ T' = U := by
      rw [List.lookup_cons] at hy
      cases hb : y == x with
      | true => rw [hb] at hy; cases hy; exact ⟨eq_of_beq hb, rfl⟩
      | false => rw [hb] at hy; cases hy
    obtain ⟨rfl, rfl⟩ := hyx
    refine ⟨v, T'.mono _ _ _ ?_ hv, .inl ⟨hl, _, x₁.toInCall.ns, by simp [bindL, Env.kindOf, envOfC, hl]⟩⟩
    intro b o e
    refine cut_mk (fun hb => ?_) (keep _ _ e)
    rcases List.mem_append.mp hb with hb | hb
    · have h9 : s.heap.get? b = some o := e; rw [big _ (hY b hb).1] at h9; cases h9
    · exact nomatch (show b ∈ ([] : List Addr) by simpa [Fm.fmC] using hb)
  · rintro fl s' ⟨v, rfl, h5, h6⟩
    refine k v s' ⟨h5.keep, h5.there, h5.os, h5.gens, Nat.le_of_succ_le h5.toks⟩ (T.mono _ _ _ (cut_le _ _) h6)
end Mine

/-! T1 -/
namespace Mine
open PySem PySem.Spec PySem.W PyProof.Rows

structure TopOk (K : W.Frag) : Prop where
  ok : KOk K
  free : ∀ x ∈ freeNames, W.nsIn K mainGlobals x = some none
  tick : ∃ t, W.nsIn K mainGlobals "TICK" = some (some (.str "'" t))
  cls : W.nsIn K mainGlobals "HTTPPasswordMgr" = some (some (.ref 67))

theorem gl_of {q : Program} {loose : List Str} {mean : ExcName → Option Value} {mg mb : Str → Option Value} {h : Heap} {K : W.Frag} (T : Top q loose mean mg mb h) (X : K.In h) (ok : TopOk K) (hq : (recsOf q).map (fun r => (r.name, r.params, r.body, r.scope)) = theDefs) : Gl mg mb h where
  free := fun x hx => W.mg_none_of X T.g (ok.free x hx)
  tick := let ⟨t, ht⟩ := ok.tick; ⟨t, W.mg_of X T.g ht⟩
  g := T.g
  b := T.b
  builtins := T.builtins
  nolimit := T.nolimit
  cls := W.mg_of X T.g ok.cls
  kin := ⟨K, ok.ok, X⟩
  fn := fun d hd => by
    rw [← hq] at hd
    obtain ⟨r, hr, rfl⟩ := List.mem_map.mp hd
    exact T.fn r hr

/-- what the law's walk is to show -/
def LawRun : Prop := ∀ (w : World) (mg mb : Str → Option Value) (s : Shared) (a : Addr) (ns : List Int) (v : Value), Gl mg mb s.heap → mg "law" = some (.ref a) → ns.length ≤ 63 → Rd (vw s) v (.list (ns.map .int)) →
    ∀ (E : Value → Shared → Prop) (Q : Value → Shared → Prop), (∀ s', Ext s s' → Q (.bool true) s') → wpAny (model PP w) callerA (PySem.call (.ref a) [v]) Q E s

theorem rd_ints {P : Params} {s : Shared} : ∀ {vs : List Value} {ns : List Int}, WellAll P s.heap vs (ofPys (ns.map PyData.int)) → RdAll (vw s) vs (ns.map .int)
  | _, [], h => by
    simp only [List.map_nil, ofPys] at h
    cases h; exact .nil
  | _, n :: ns, h => by
    simp only [List.map_cons, ofPys, ofPy] at h
    cases h with
    | cons a b =>
      cases a
      exact .cons (.int _ _) (rd_ints b)
theorem rd_of_well {P : Params} {s : Shared} {a : Addr} {ns : List Int} (h : Well P s.heap (.ref a) (ofPy (.list (ns.map .int)))) : Rd (vw s) (.ref a) (.list (ns.map .int)) := by
  simp only [ofPy] at h
  cases h with
  | list h1 h2 => exact .list h1 (by simpa using rd_ints h2)

theorem walk_of (L : LawRun) {q : Program} {loose : List Str} {XP : (Str → Option Value) → Heap → Prop} {K : Params → W.Frag} {as : List Addr} {e : ∀ P, as = (K P).map (·.1)} {d : DefRec} {kwd : List (Str × Expr)} (hq : (recsOf q).map (fun r => (r.name, r.params, r.body, r.scope)) = theDefs) (hK : ∀ P, TopOk (K P)) (hn : d.name = "law") :
    W.WalkO q loose XP (W.kHook K as e).says Challenge.rw_pk0090_01.row.toRowW d kwd (fun f vs => PySem.call f vs) := by
  intro w s₀ s₁ mg mb G Y fa o pm cd doc dV kV ho hd hcd hD hmg hg args vals as hpre hlay hrd hwl hlo
  have X := W.kIn_of Y
  have gl := gl_of G.T X (hK _) hq
  rw [hn] at hmg
  have hwl' := hwl
  wrow_args hpre hlay hrd hwl hlo
  rename_i ns _ _ _ _ _ _ _ l vs _ _ _ w1 _ _ _ h63 _
  refine L w mg mb s₁ fa ns _ gl hmg (by omega) (rd_of_well w1) _ _ fun s' e' => ?_
  refine ⟨.inl ⟨_, .bool true, [], rfl, fun _ => rfl, .bool true, postW_of (by wrow_shape) (by wtm_val) (by w_fin), fun _ => ⟨.nil, fun _ h => nomatch h⟩⟩, .of_keep e'.all, e'.os, e'.gens.2 (.of_eq hg)⟩
end Mine

/-! L0 -/
namespace Mine
open PySem PySem.Spec PyProof.Rows
namespace Fm
variable {F : Fm} {ρ : List (Str × Ty)} {s s' : Shared}

theorem Ts.same {l r : Expr} {pos : Pos} {d : PyData} (hl : F.Ev ρ l (tD d)) (hr : F.Ev ρ r (tD d)) (h : SeqAt.shaped d = true) (hm : behindInMarks .NotEq r = false := by with_unfolding_all rfl) : F.Ts ρ (.Compare l [.NotEq] [r] pos) false :=
  (Ts.cmp hl hr (Cm.ne_data h h) hm).to (by
    unfold SeqAt.shaped at h
    rw [Bool.and_eq_true] at h
    rw [PySem.SeqAt.eqv_refl d h.1]; rfl)
theorem wp_ifNot {pos : Pos} {test : Expr} {body rest : List Stmt} {E : Value → Shared → Prop} {Q : Flow → Shared → Prop} (S : F.St ρ s) (ht : F.Ts ρ test false) (h : ∀ s', F.St ρ s' → F.Run rest Q E s') : F.Run (.If test body [] pos :: rest) Q E s :=
  wp_if S ht (fun h => nomatch h) fun _ s' S' _ => wp_nil (h s' S')

theorem Src.congr {iter : Expr} {n : Nat} {Pv Pv' : Nat → Ty} (h : F.Src ρ iter n Pv) (e : ∀ i, i < n → Pv i = Pv' i) : F.Src ρ iter n Pv' := fun s S E Q k =>
  h s S E Q fun I s' G C q1 q2 wk q4 q5 => k I s' G C q1 q2 ⟨fun i s hi hG hC E Q k => wk.item i s hi hG hC E Q fun v s' a b c => k v s' a b (e i hi ▸ c), wk.done, wk.self⟩ q4 q5

section
variable {elt iter : Expr} {scope : Scope} {pos p : Pos} {cl : List (Str × Addr)} {ρ' : List (Str × Ty)}

/-- a comprehension over a list, with no cell of its own -/
theorem Cmp.map {α : Type} {x : Str} (xs : List α) (d : α) (f g : α → PyData) (he : F.Ev ρ iter (tD (.list (xs.map f)))) (hn : xs.length ≤ 1000)
    (clos : closureFor scope F.env = pure cl) (clok : ClOk F.env cl) (fv : ∀ C, Fv F (compEnvC scope cl C F.env) ρ ρ')
    (helt : ∀ C s2 Z pn G a, a ∈ xs → (F.cf scope cl C [] s2 Z pn G).Ev ((x, tD (f a)) :: ρ') elt (tD (g a)))
    (hx : ρ'.lookup x = none := by rfl) (hk : ∀ C s2 Z pn G, (F.cf scope cl C [] s2 Z pn G).env.kindOf x = some .local := by intros; rfl)
    (kind : scope.kind = .function := by rfl) (names : ∀ x ∈ scope.names, x.2 = .local → scope.names.lookup x.1 = some .local := by decide) (nocell : ∀ m, cellsFrom m scope.names cl = cl := by intro _; rfl) (nopush : ∀ h, pushCells h scope.names = h := by intro _; rfl)
    (hs : ∀ x, foldedSetIterable iter F.env x = pure x := by intro _; rfl) : F.Cmp ρ elt [⟨.Name x p, iter, [], 0⟩] scope pos (xs.map g) := by
  have c : F.Cq ρ elt (.Name x p) iter [] scope cl (xs.map f).length (fun i => tD ((xs.map f).getD i .none)) ρ' (fun i => (x, tD ((xs.map f).getD i .none)) :: ρ') (fun _ => true) (fun i => g (xs.getD i d)) :=
    ⟨Src.list he, by rw [List.length_map, sizeLine_eq]; omega, clos, clok, fv, fun _ _ _ _ _ _ _ => Asg.name (hk _ _ _ _ _), fun _ _ _ _ _ _ _ => .nil, fun C s2 Z pn G i hi _ => by
      rw [List.length_map] at hi
      rw [getD_map' _ _ _ d _ hi]
      exact helt C s2 Z pn G _ (getD_mem _ _ _ hi), fun i y T hi h => lookup_skip h (by
        by_cases e : y = x
        · subst e; rw [hx] at h; cases h
        · simpa using e), kind, names, nocell, nopush, fun _ _ => rfl⟩
  have := Cmp.plain (pos := pos) c hs
  rw [gath_true, List.length_map, map_range_getD] at this
  exact this

/-- a comprehension whose target is a cell -/
theorem Cmp.srcC {y : Str} {n : Nat} {Pv : Nat → Ty} {e : Nat → PyData} (src : F.Src ρ iter n Pv) (hn : n ≤ 1000)
    (clos : closureFor scope F.env = pure cl) (clok : ClOk F.env cl) (fv : ∀ C, Fv F (compEnvC scope ((y, C + 1) :: cl) C F.env) ρ ρ')
    (helt : ∀ C s2 Z pn G i, i < n → (F.cf scope ((y, C + 1) :: cl) C [C + 1] s2 Z pn G).Ev ((y, Pv i) :: ρ') elt (tD (e i)))
    (hx : ρ'.lookup y = none := by rfl) (hk : ∀ C s2 Z pn G, (F.cf scope ((y, C + 1) :: cl) C [C + 1] s2 Z pn G).env.kindOf y = some .cell := by intros; rfl)
    (kind : scope.kind = .function := by rfl) (names : ∀ x ∈ scope.names, x.2 = .local → scope.names.lookup x.1 = some .local := by decide) (onecell : ∀ m, cellsFrom m scope.names cl = (y, m) :: cl := by intro _; rfl)
    (onepush : ∀ h, pushCells h scope.names = h.push { cls := .type "cell", data := .cell none } := by intro _; rfl)
    (hs : ∀ x, foldedSetIterable iter F.env x = pure x := by intro _; rfl) : F.Cmp ρ elt [⟨.Name y p, iter, [], 0⟩] scope pos ((List.range n).map e) := by
  have c : F.CqC ρ y elt (.Name y p) iter [] scope cl n Pv ρ' (fun i => (y, Pv i) :: ρ') (fun _ => true) e :=
    ⟨src, by rw [sizeLine_eq]; omega, clos, clok, fv, fun C s2 Z pn G i _ => Asg.cell (c := C + 1) (by show List.lookup y ((y, C + 1) :: cl) = _; rw [List.lookup_cons, beq_self_eq_true]) (by simp [cf]) (hk _ _ _ _ _), fun _ _ _ _ _ _ _ => .nil, fun C s2 Z pn G i hi _ => helt C s2 Z pn G i hi, fun i z T hi h => lookup_skip h (by
        by_cases e : z = y
        · subst e; rw [hx] at h; cases h
        · simpa using e), kind, names, onecell, onepush, fun _ _ => rfl⟩
  have := Cmp.cell (pos := pos) c hs
  rw [gath_true] at this
  exact this
end
end Fm
end Mine

/-! U8 -/
namespace Mine
open PySem PySem.Spec PyProof.Rows

def numsOf (ns : List Int) : List Int := (((((([4] ++ sl ns none (some 1)) ++ [648]) ++ sl ns (some 1) (some 2)) ++ [24628]) ++ sl ns (some 2) (some 3)) ++ [16502, 6])
theorem sl_one {α : Type} (ds : List α) (i : Nat) : (sl ds (some (i : Int)) (some ((i + 1 : Nat) : Int))).length ≤ 1 := by
  unfold sl
  simp only [Option.elim, clipAt_nat, List.length_take, List.length_drop]
  omega
theorem sl_first {α : Type} (ds : List α) : (sl ds none (some 1)).length ≤ 1 := by
  rw [show (1 : Int) = ((1 : Nat) : Int) from rfl, sl_upto, List.length_take]; omega
theorem numsOf_eq (ns : List Int) : ∃ n N, numsOf ns = n :: N ∧ (n :: N).length ≤ 8 := by
  have h1 := sl_first ns
  have h2 : (sl ns (some 1) (some 2)).length ≤ 1 := sl_one ns 1
  have h3 : (sl ns (some 2) (some 3)).length ≤ 1 := sl_one ns 2
  refine ⟨4, (((((sl ns none (some 1)) ++ [648]) ++ sl ns (some 1) (some 2)) ++ [24628]) ++ sl ns (some 2) (some 3)) ++ [16502, 6], ?_, ?_⟩
  · unfold numsOf; simp
  · simp only [List.length_cons, List.length_append, List.length_nil]; omega
theorem numsOf_D (ns : List Int) : (((((([PyData.int 4] ++ sl (ns.map PyData.int) none (some 1)) ++ [.int 648]) ++ sl (ns.map PyData.int) (some 1) (some 2)) ++ [.int 24628]) ++ sl (ns.map PyData.int) (some 2) (some 3)) ++ [.int 16502, .int 6]) = (numsOf ns).map PyData.int := by
  unfold numsOf; simp [sl_map]

/-! ## shapes -/
theorem sh_s {x : Str} (h : AZ x) : Sh 0 (.str x) := Sh.str h.ok
theorem sh_pair {a b : Str} (h : AZ a) (k : AZ b) : Sh 1 (pairD a b) := Sh.tuple fun d hd => by
  simp only [List.mem_cons, List.not_mem_nil, or_false] at hd
  rcases hd with rfl | rfl
  · exact sh_s h
  · exact sh_s k
theorem sh_list {α : Type} {k : Nat} {xs : List α} {g : α → PyData} (h : ∀ a ∈ xs, Sh k (g a)) : Sh (k + 1) (.list (xs.map g)) := Sh.list fun d hd => by
  obtain ⟨a, ha, rfl⟩ := List.mem_map.mp hd; exact h a ha
theorem sh_sds {xs : List Str} (h : ∀ x ∈ xs, AZ x) : Sh 1 (.list (sds xs)) := sh_list fun a ha => sh_s (h a ha)
theorem sh_pr (n : Int) : Sh 1 (pD (prOf n)) := sh_pair (AZ.host n) (AZ.value n)
theorem sh_given (n : Int) : Sh 1 (pD (givenOf n)) := sh_pair (AZ.host n) (AZ.path (AZ.value n))
theorem sh_pairOf (n : Int) : Sh 1 (pD (pairOf n)) := sh_pair (pair_az n).1 (pair_az n).2
theorem sh_parts {v : Str} (h : AZ v) : Sh 1 (partsOf v) := by
  unfold partsOf
  split
  · refine Sh.list fun d hd => ?_
    simp only [List.mem_cons, List.not_mem_nil, or_false] at hd
    rcases hd with rfl | rfl | rfl
    · exact sh_s (AZ.slice h _ _)
    · exact sh_s (AZ.slice h _ _)
    · exact sh_s (AZ.slice h _ _)
  · refine Sh.tuple fun d hd => ?_
    simp only [List.mem_cons, List.not_mem_nil, or_false] at hd
    rcases hd with rfl | rfl | rfl
    · exact Sh.none
    · exact Sh.none
    · exact sh_s h
theorem az_pieces {x : Str} (h : AZ x) : ∀ p ∈ Txt.split x "/", AZ p := fun p hp c hc => by
  have e := inter_spl 47 (L x)
  have hm : L p ∈ spl 47 (L x) := by rw [← L_split]; exact List.mem_map.mpr ⟨p, hp, rfl⟩
  refine h c ?_
  rw [← e]
  have : ∀ (ps : List (List Nat)) (q : List Nat), q ∈ ps → ∀ c ∈ q, c ∈ inter [47] ps := by
    intro ps
    induction ps with
    | nil => intro q hq; cases hq
    | cons a ps ih =>
      intro q hq c hc
      cases ps with
      | nil => simp at hq; subst hq; exact hc
      | cons b r =>
        rw [inter]
        rcases List.mem_cons.mp hq with rfl | hq
        · simp [hc]
        · have := ih q hq c hc
          simp [this]
  exact this _ _ hm c hc
theorem place_az (n : Int) : AZ (placeOf n).1 ∧ ∀ p ∈ (placeOf n).2, AZ p := by
  rw [place_eq]
  exact ⟨(pair_az n).1, az_pieces (pair_az n).2⟩
theorem place_len (n : Int) : (placeOf n).2.length ≤ 17 ∧ ∀ p ∈ (placeOf n).2, p.length ≤ 16 := by
  rw [place_eq]
  have hp := (path_len n).1
  have key : ∀ l : List Nat, (spl 47 l).length ≤ l.length + 1 ∧ ∀ q ∈ spl 47 l, q.length ≤ l.length := by
    intro l
    induction l with
    | nil => exact ⟨by simp [spl], by simp [spl]⟩
    | cons a l ih =>
      rw [spl]
      split
      · refine ⟨by simp only [List.length_cons]; omega, fun q hq => ?_⟩
        rcases List.mem_cons.mp hq with rfl | hq
        · simp
        · have := ih.2 q hq; simp only [List.length_cons]; omega
      · cases hs : spl 47 l with
        | nil => exact absurd hs (spl_ne 47 l)
        | cons p r =>
          rw [hs] at ih
          refine ⟨by simp only [List.length_cons] at ih ⊢; omega, fun q hq => ?_⟩
          rcases List.mem_cons.mp hq with rfl | hq
          · have := ih.2 p (by simp); simp only [List.length_cons]; omega
          · have := ih.2 q (by simp [hq]); simp only [List.length_cons]; omega
  have k := key (L (pairOf n).2)
  rw [← L_split] at k
  rw [L_len, List.length_map] at k
  refine ⟨by have := k.1; show (Txt.split (pairOf n).2 ⟨#[47]⟩).length ≤ 17; omega, fun p hp' => ?_⟩
  have := k.2 (L p) (List.mem_map.mpr ⟨p, hp', rfl⟩)
  rw [L_len] at this; omega

/-- who covers whom -/
def tl (n m : Int) : Bool := suburi (pairOf n).1 (pairOf n).2 (pairOf m).1 (pairOf m).2
def toldOf (N : List Int) (i j : Nat) : Bool := tl (N.getD i 0) (N.getD j 0)
def pathAt (N : List Int) (i : Nat) : Str := (pairOf (N.getD i 0)).2
theorem told_trans (N : List Int) : ∀ a b c, toldOf N a b = true → toldOf N b c = true → toldOf N a c = true := fun _ _ _ => suburi_trans
theorem map_range_getD' {α β : Type} (l : List α) (d : α) (g : α → β) : l.map g = (List.range l.length).map (fun i => g (l.getD i d)) := (Fm.map_range_getD l d g).symm
theorem told_D (N : List Int) : (N.map fun n => PyData.list (N.map fun m => .bool (tl n m))) = (List.range N.length).map fun i => .list ((List.range N.length).map fun j => .bool (toldOf N i j)) := by
  rw [map_range_getD' N 0 (fun n => PyData.list (N.map fun m => .bool (tl n m)))]
  congr 1; funext i
  rw [map_range_getD' N 0 (fun m => PyData.bool (tl (N.getD i 0) m))]; rfl
theorem raw_len (n : Int) : (rawOf n).length ≤ 40 := by
  have h1 := hostOf_len n
  have h2 := valueOf_len n
  have h3 := qu_len (valueOf n)
  have e : (Str.ofString "=").length = 1 := by decide
  unfold rawOf
  rw [Str.length_append, Str.length_append, e]
  unfold writtenOf; split <;> omega
theorem item_len (n : Int) : (itemOf n).length ≤ 21 := by
  have h1 := hostOf_len n
  have h2 := (read_len n).2
  have e : (Str.ofString "=").length = 1 := by decide
  unfold itemOf
  rw [Str.length_append, Str.length_append, e]; omega
theorem header_ok {N : List Int} (h : N.length ≤ 8) : JoinOk " ,\t" (N.map rawOf) = true := by
  have h1 := StrLaws.sumLen_le (B := 40) (N.map rawOf) (fun y hy => by obtain ⟨n, _, rfl⟩ := List.mem_map.mp hy; exact raw_len n)
  refine joinOk_of ?_
  have e : (Str.ofString " ,\t").length = 3 := by decide
  rw [List.length_map] at h1 ⊢
  rw [e]; omega
theorem header_len {N : List Int} (h : N.length ≤ 8) : (Txt.join " ,\t" (N.map rawOf)).length ≤ 100000 := by
  have h1 := StrLaws.sumLen_le (B := 40) (N.map rawOf) (fun y hy => by obtain ⟨n, _, rfl⟩ := List.mem_map.mp hy; exact raw_len n)
  have e : (Str.ofString " ,\t").length = 3 := by decide
  unfold Txt.join
  rw [size_glued, e]
  rw [List.length_map] at h1 ⊢
  omega
theorem place_ok (n : Int) : JoinOk "/" (placeOf n).2 = true := by
  have h1 := StrLaws.sumLen_le (B := 16) (placeOf n).2 (place_len n).2
  have h2 := (place_len n).1
  refine joinOk_of ?_
  have e : (Str.ofString "/").length = 1 := by decide
  rw [e]; omega
end Mine

/-! L0b -/
namespace Mine
open PySem PySem.Spec PyProof.Rows


abbrev lawF (w : World) (mg mb : Str → Option Value) (a : Addr) (cd : Value) (s : Shared) (X : List Addr) (scope : Scope) : Fm := Fm.fmC w mg mb 5 callerA "law" scope a cd s X
abbrev r1 (N : List Int) : List (Str × Ty) := [("odd", tD (.list (sds oddL))), ("book", tD (kvD (putAll' (N.map prOf) [] ++ oddP))), ("read", tD (.list (N.map fun n => kvD [prOf n]))), ("items", tD (.list (sds (N.map itemOf)))), ("entries", tD (.list (N.map entryD)))]
abbrev r2 (N : List Int) : List (Str × Ty) := [("places", tD (.list (N.map fun n => plD (placeOf n)))), ("pairs", tD (.list (N.map fun n => pD (pairOf n))))]
abbrev r3 (N : List Int) : List (Str × Ty) := [("told", tD (toldD N.length (toldOf N))), ("pairs", tD (.list (N.map fun n => pD (pairOf n))))]
abbrev finW (N : List Int) : Str := (nsAt (toldOf N) (pathAt N) N.length).word ++ Fm.rep 41 (nsAt (toldOf N) (pathAt N) N.length).rh.length
abbrev finB (N : List Int) : List Nat := (nsAt (toldOf N) (pathAt N) N.length).begins ++ [(nsAt (toldOf N) (pathAt N) N.length).word.length + (nsAt (toldOf N) (pathAt N) N.length).rh.length]
abbrev finT (N : List Int) : Str := (nsAt (toldOf N) (pathAt N) N.length).text ++ Fm.rep 41 (nsAt (toldOf N) (pathAt N) N.length).rh.length
abbrev r4 (N : List Int) : List (Str × Ty) := [("begins", tD (.list (ids (finB N)))), ("word", tD (.str (finW N))), ("told", tD (toldD N.length (toldOf N))), ("pairs", tD (.list (N.map fun n => pD (pairOf n))))]
theorem pl_len : ∀ (ps acc : List (Str × Str)), (putAll' ps acc).length ≤ acc.length + ps.length := by
  intro ps
  induction ps with
  | nil => intro acc; exact Nat.le_refl _
  | cons p ps ih => intro acc; have := ih (put acc p.1 p.2); have := put_len acc p.1 p.2; show (putAll' ps (put acc p.1 p.2)).length ≤ _; rw [List.length_cons]; omega
end Mine

/-! L1 -/
namespace Mine
open PySem PySem.Spec PyProof.Rows

theorem law_p1 {w : World} {mg mb : Str → Option Value} {a : Addr} {cd : Value} {s : Shared} {X : List Addr} {ns : List Int} {params : Arguments} {body : List Stmt} {scope : Scope} (hns : ns.length ≤ 63)
    (hd : theDefs[13]? = some (Str.ofString "law", params, body, scope)) {Q : Flow → Shared → Prop} {E : Value → Shared → Prop} {s₁ : Shared} (S : (lawF w mg mb a cd s X scope).St [("script", tD (.list (ns.map .int)))] s₁)
    (k : ∀ n N s₂, (n :: N).length ≤ 8 → (lawF w mg mb a cd s X scope).St (r1 (n :: N)) s₂ → (lawF w mg mb a cd s X scope).Run (body.drop 7) Q E s₂) : (lawF w mg mb a cd s X scope).Run body Q E s₁ := by
  have e := hd.symm.trans (show theDefs[13]? = some (_, _, _, _) from rfl)
  injection e with e; injection e with _ e; injection e with e1 e; injection e with e2 e3
  subst e1 e2 e3
  have lm : ∀ l : List Int, (l.map PyData.int).length = l.length := fun l => List.length_map ..
  have sle : ∀ (l : List PyData) (i j : Option Int), (sl l i j).length ≤ l.length := fun l i j => by unfold sl; rw [List.length_take, List.length_drop]; omega
  have hz : ∀ i j, (sl (ns.map PyData.int) i j).length ≤ 63 := fun i j => by have := sle (ns.map PyData.int) i j; rw [lm] at this; omega
  have hsl : ∀ {ρ lo hi p pos i j} {value : Expr} {F : Fm}, F.Ev ρ value (tD (.list (ns.map .int))) → F.PartOf ρ lo i → F.PartOf ρ hi j → F.Ev ρ (.Subscript value (.Slice lo hi Option.none p) pos) (tD (.list (sl (ns.map .int) i j))) := fun h1 h2 h3 => Fm.Ev.list_slice h1 h2 h3 (by rw [lm, sizeLine_eq]; omega)
  have hz1 := hz none (some 1)
  have hz2 := hz (some 1) (some 2)
  have hz3 := hz (some 2) (some 3)
  refine Fm.wp_assign (T := tD (.list ((numsOf ns).map .int))) S (Fm.Ev.to (Fm.Ev.add_list (Fm.Ev.add_list (Fm.Ev.add_list (Fm.Ev.add_list (Fm.Ev.add_list (Fm.Ev.add_list
    (Fm.Ev.list (ds := [.int 4]) (.cons .int .nil)) (hsl (Fm.Ev.name rfl) .none (.some .int)) ?_) (Fm.Ev.list (ds := [.int 648]) (.cons .int .nil)) ?_) (hsl (Fm.Ev.name rfl) (.some .int) (.some .int)) ?_) (Fm.Ev.list (ds := [.int 24628]) (.cons .int .nil)) ?_) (hsl (Fm.Ev.name rfl) (.some .int) (.some .int)) ?_) (Fm.Ev.list (ds := [.int 16502, .int 6]) (.cons .int (.cons .int .nil))) ?_) (by rw [numsOf_D])) fun s₂ S₂ _ => ?_
  all_goals try (simp only [List.length_append, List.length_cons, List.length_nil]; rw [sizeLine_eq]; omega)
  obtain ⟨n0, N0, hN, hN8⟩ := numsOf_eq ns
  rw [hN] at S₂
  have hph := parsed_header n0 N0
  have k := fun s₂ => k n0 N0 s₂
  generalize hNN : n0 :: N0 = N at *
  have h8 : N.length ≤ 8 := hN8
  have n1000 : N.length ≤ 1000 := by omega
  refine Fm.wp_assignCmp (es := N.map entryD) (Fm.Cmp.map (cl := []) (ρ' := []) N 0 PyData.int entryD (Fm.Ev.name rfl) n1000 rfl .nil (fun _ => .nil) fun C s2 Z pn G a _ => ?_) S₂ fun s₃ S₃ => ?_
  · exact Fm.Ev.call (List.mem_of_getElem? (i := 9) (show theDefs[9]? = some (_, _, _, _) from rfl)) fn_entry (.cons (Fm.Ev.name rfl) .nil) (by show 2 ≤ 5; decide)
  have i1 : N.map (fun n => PyData.str (rawOf n)) = (N.map rawOf).map .str := by rw [List.map_map]; rfl
  have i2 : N.map (fun n => PyData.str (itemOf n)) = sds (N.map itemOf) := by simp [sds]
  refine Fm.wp_assign (T := tD (.list (sds (N.map itemOf)))) S₃ (Fm.Ev.to (Fm.Ev.call (List.mem_of_getElem? (i := 2) (show theDefs[2]? = some (_, _, _, _) from rfl)) (fn_http (header_len h8)) (.cons (Fm.Ev.join .str (Fm.Ev.to (Fm.Ev.ofCmp (Fm.Cmp.map (cl := []) (ρ' := []) N 0 entryD (fun n => .str (rawOf n)) (Fm.Ev.name rfl) n1000 rfl .nil (fun _ => .nil) fun C s2 Z pn G a _ => ?_)) (by rw [i1])) (header_ok h8)) .nil) (by show 1 ≤ 5; decide)) (by rw [hph])) fun s₄ S₄ _ => ?_
  · exact Fm.Ev.tup_at (i := 0) (d := .str (rawOf a)) (Fm.Ev.name rfl)
  have az_items : ∀ x ∈ N.map itemOf, AZ x := fun x hx => by obtain ⟨n, _, rfl⟩ := List.mem_map.mp hx; exact item_az n
  refine Fm.wp_ifNot S₄ (Fm.Ts.same (d := .list (sds (N.map itemOf))) (Fm.Ev.name rfl) (Fm.Ev.to (Fm.Ev.ofCmp (Fm.Cmp.map (cl := []) (ρ' := []) N 0 entryD (fun n => .str (itemOf n)) (Fm.Ev.name rfl) n1000 rfl .nil (fun _ => .nil) fun C s2 Z pn G a _ => ?_)) (by rw [i2])) ((sh_sds az_items).shaped (by decide))) fun s₅ S₅ => ?_
  · exact Fm.Ev.tup_at (i := 1) (d := .str (itemOf a)) (Fm.Ev.name rfl)
  refine Fm.wp_assignCmp (es := N.map fun n => kvD [prOf n]) (Fm.Cmp.map (cl := []) (ρ' := []) N 0 (fun n => .str (itemOf n)) (fun n => kvD [prOf n]) (Fm.Ev.to (Fm.Ev.name (T := tD (.list (sds (N.map itemOf)))) rfl) (by rw [i2])) n1000 rfl .nil (fun _ => .nil) fun C s2 Z pn G a _ => ?_) S₅ fun s₆ S₆ => ?_
  · refine Fm.Ev.to (Fm.Ev.call (List.mem_of_getElem? (i := 10) (show theDefs[10]? = some (_, _, _, _) from rfl)) (fn_told (xs := [itemOf a]) (by show 1 ≤ 1000; decide) (fun x hx => ?_) fun x hx => ?_) (.cons (Fm.Ev.list (ds := [.str (itemOf a)]) (.cons (Fm.Ev.name rfl) .nil)) .nil) (by show 2 ≤ 5; decide)) (by rw [kvAll_item])
    · simp at hx; subst hx; have := item_len a; omega
    · simp at hx; subst hx; exact good_item a
  have hpl : (putAll' (N.map prOf) []).length ≤ 8 := by have := pl_len (N.map prOf) []; rw [List.length_map] at this; simp at this; omega
  refine Fm.wp_assign (T := tD (kvD (putAll' (N.map prOf) [] ++ oddP))) S₆ (Fm.Ev.to (Fm.Ev.add_list (Fm.Ev.itemsList (kvs := putAll' (N.map prOf) []) (Fm.Ev.dictPairs (ps := N.map prOf) (Fm.Ev.to (Fm.Ev.ofCmp (Fm.Cmp.map (cl := []) (ρ' := []) N 0 entryD (fun n => pD (prOf n)) (Fm.Ev.name rfl) n1000 rfl .nil (fun _ => .nil) fun C s2 Z pn G a _ => ?_)) (by rw [List.map_map]; rfl)) (by rw [List.length_map, sizeLine_eq]; omega)) (by rw [sizeLine_eq]; omega)) (Fm.Ev.list (ds := oddP.map fun p => pairD p.1 p.2) (.cons (Fm.Ev.tuple (ds := [.str "x", .str "\"a"]) (.cons .str (.cons .str .nil))) (.cons (Fm.Ev.tuple (ds := [.str "y", .str "a\""]) (.cons .str (.cons .str .nil))) (.cons (Fm.Ev.tuple (ds := [.str "z", .str ""]) (.cons .str (.cons .str .nil))) (.cons (Fm.Ev.tuple (ds := [.str "w", .str "="]) (.cons .str (.cons .str .nil))) .nil)))) (by decide)) (by rw [List.length_map, sizeLine_eq]; show _ + 4 ≤ _; omega)) (by rw [← List.map_append])) fun s₇ S₇ _ => ?_
  · exact Fm.Ev.tup_at (i := 2) (d := pD (prOf a)) (Fm.Ev.name rfl)
  refine Fm.wp_assign S₇ (Fm.Ev.list (ds := sds oddL) (.cons .str (.cons .str (.cons .str (.cons .str .nil)))) (by decide)) fun s₈ S₈ _ => ?_
  exact k _ h8 (S₈.weaken (sub_cons rfl (sub_cons rfl (sub_cons rfl (sub_cons rfl (sub_cons rfl sub_nil))))))
end Mine

/-! L2 -/
namespace Mine
open PySem PySem.Spec PyProof.Rows

def tailV : List Str := ["h", "h="]
def tailI : List Str := ["h=", "h"]
theorem put_az {kvs : List (Str × Str)} {k v : Str} (h : ∀ p ∈ kvs, AZ p.1 ∧ AZ p.2) (hk : AZ k) (hv : AZ v) : ∀ p ∈ put kvs k v, AZ p.1 ∧ AZ p.2 := by
  unfold put; split
  · intro p hp
    obtain ⟨q, hq, rfl⟩ := List.mem_map.mp hp
    have := h q hq
    split
    · exact ⟨this.1, hv⟩
    · exact this
  · intro p hp
    rcases List.mem_append.mp hp with q | q
    · exact h p q
    · simp at q; subst q; exact ⟨hk, hv⟩
theorem putAll_az : ∀ (ps acc : List (Str × Str)), (∀ p ∈ ps, AZ p.1 ∧ AZ p.2) → (∀ p ∈ acc, AZ p.1 ∧ AZ p.2) → ∀ p ∈ putAll' ps acc, AZ p.1 ∧ AZ p.2
  | [], _, _, h => h
  | a :: ps, acc, hp, h => putAll_az ps (put acc a.1 a.2) (fun p q => hp p (List.mem_cons_of_mem _ q)) (put_az h (hp a (by simp)).1 (hp a (by simp)).2)
theorem law_p2 {w : World} {mg mb : Str → Option Value} {a : Addr} {cd : Value} {s : Shared} {X : List Addr} {N : List Int} {params : Arguments} {body : List Stmt} {scope : Scope} (h8 : N.length ≤ 8)
    (hd : theDefs[13]? = some (Str.ofString "law", params, body, scope)) {Q : Flow → Shared → Prop} {E : Value → Shared → Prop} {s₁ : Shared} (S : (lawF w mg mb a cd s X scope).St (r1 N) s₁)
    (k : ∀ s₂, (lawF w mg mb a cd s X scope).St (r2 N) s₂ → (lawF w mg mb a cd s X scope).Run (body.drop 16) Q E s₂) : (lawF w mg mb a cd s X scope).Run (body.drop 7) Q E s₁ := by
  have e := hd.symm.trans (show theDefs[13]? = some (_, _, _, _) from rfl)
  injection e with e; injection e with _ e; injection e with e1 e; injection e with e2 e3
  subst e1 e2 e3
  have n1000 : N.length ≤ 1000 := by omega
  have li : ∀ l : List Str, (sds l).length = l.length := fun l => List.length_map ..
  have la : ∀ xs ys : List Str, sds (xs ++ ys) = sds xs ++ sds ys := fun xs ys => List.map_append ..
  have hit : (N.map itemOf).length = N.length := List.length_map ..
  have hod : oddL.length = 4 := rfl
  have hml : (N.map itemOf ++ oddL).length = N.length + 4 := by rw [List.length_append, hit]; rfl
  have az_items : ∀ x ∈ N.map itemOf, AZ x := fun x hx => by obtain ⟨n, _, rfl⟩ := List.mem_map.mp hx; exact item_az n
  have hmore : ∀ {F : Fm} {ρ l r pos}, F.Ev ρ l (tD (.list (sds (N.map itemOf)))) → F.Ev ρ r (tD (.list (sds oddL))) → F.Ev ρ (.BinOp l .Add r pos) (tD (.list (sds (N.map itemOf ++ oddL)))) := fun h1 h2 => Fm.Ev.to (Fm.Ev.add_list h1 h2 (by rw [li, li, hit, hod, sizeLine_eq]; omega)) (by rw [la])
  refine Fm.wp_assign S (hmore (Fm.Ev.name rfl) (Fm.Ev.name rfl)) fun s₂ S₂ _ => ?_
  have mem_more : ∀ x ∈ N.map itemOf ++ oddL, Good x ∧ x.length ≤ 1000 ∧ AZ x := fun x hx => by
    rcases List.mem_append.mp hx with q | q
    · obtain ⟨n, _, rfl⟩ := List.mem_map.mp q
      exact ⟨good_item n, by have := item_len n; omega, item_az n⟩
    · refine ⟨good_odd x q, ?_, ?_⟩
      · have : ∀ x ∈ oddL, x.length ≤ 10 := by decide
        have := this x q; omega
      · have : ∀ x ∈ oddL, AZ x := by decide
        exact this x q
  have hmz : ∀ {F : Fm} {ρ l r pos} (ys : List Str), ys.length = 2 → F.Ev ρ l (tD (.list (sds (N.map itemOf ++ oddL)))) → F.Ev ρ r (tD (.list (sds ys))) → F.Ev ρ (.BinOp l .Add r pos) (tD (.list (sds ((N.map itemOf ++ oddL) ++ ys)))) := fun ys hy h1 h2 => Fm.Ev.to (Fm.Ev.add_list h1 h2 (by rw [li, li, hml, hy, sizeLine_eq]; omega)) (by rw [la (N.map itemOf ++ oddL)])
  have hg : ∀ (ys : List Str) i, i < (N.map itemOf ++ oddL).length → i < ((N.map itemOf ++ oddL) ++ ys).length → Good (((N.map itemOf ++ oddL) ++ ys).getD i "") := fun ys i h1 _ => by
    rw [List.getD_eq_getElem?_getD, List.getElem?_append_left h1, List.getElem?_eq_getElem h1]
    exact (mem_more _ (List.getElem_mem h1)).1
  have hb : ∀ (y z : Str), ((N.map itemOf ++ oddL) ++ [y, z]).getD (N.map itemOf ++ oddL).length "" = y := fun y z => by
    rw [List.getD_eq_getElem?_getD, List.getElem?_append_right (Nat.le_refl _), Nat.sub_self]; rfl
  have hl2 : ∀ (y z : Str), ((N.map itemOf ++ oddL) ++ [y, z]).length = N.length + 6 := fun y z => by rw [List.length_append, hml]; rfl
  have hbl : ∀ (y z : Str), y.length ≤ 10 → z.length ≤ 10 → ∀ x ∈ (N.map itemOf ++ oddL) ++ [y, z], x.length ≤ 1000 := fun y z hy hz x hx => by
    rcases List.mem_append.mp hx with q | q
    · exact (mem_more x q).2.1
    · simp only [List.mem_cons, List.not_mem_nil, or_false] at q
      rcases q with rfl | rfl <;> omega
  have lv : ((N.map itemOf ++ oddL) ++ tailV).length ≤ 1000 ∧ ((N.map itemOf ++ oddL) ++ tailI).length ≤ 1000 := ⟨by have := hl2 "h" "h="; show ((N.map itemOf ++ oddL) ++ [_, _]).length ≤ 1000; omega, by have := hl2 "h=" "h"; show ((N.map itemOf ++ oddL) ++ [_, _]).length ≤ 1000; omega⟩
  have lt : (N.map itemOf ++ oddL).length < ((N.map itemOf ++ oddL) ++ tailV).length ∧ (N.map itemOf ++ oddL).length < ((N.map itemOf ++ oddL) ++ tailI).length := ⟨by have := hl2 "h" "h="; show _ < ((N.map itemOf ++ oddL) ++ [_, _]).length; omega, by have := hl2 "h=" "h"; show _ < ((N.map itemOf ++ oddL) ++ [_, _]).length; omega⟩
  have b1 : ((N.map itemOf ++ oddL) ++ tailV).getD (N.map itemOf ++ oddL).length "" = "h" := hb "h" "h="
  have b2 : ((N.map itemOf ++ oddL) ++ tailI).getD (N.map itemOf ++ oddL).length "" = "h=" := hb "h=" "h"
  refine Fm.wp_assignEnds (xs1 := N.map itemOf ++ oddL) (xs2 := (N.map itemOf ++ oddL) ++ tailV) (xs3 := (N.map itemOf ++ oddL) ++ tailI) (j2 := (N.map itemOf ++ oddL).length) (j3 := (N.map itemOf ++ oddL).length) (cls2 := "ValueError") (cls3 := "IndexError") S₂ (Fm.Ev.name rfl)
    (hmz tailV rfl (Fm.Ev.name rfl) (Fm.Ev.list (ds := sds tailV) (.cons .str (.cons .str .nil)) (by rw [sizeLine_eq]; show 2 ≤ _; omega))) (hmz tailI rfl (Fm.Ev.name rfl) (Fm.Ev.list (ds := sds tailI) (.cons .str (.cons .str .nil)) (by rw [sizeLine_eq]; show 2 ≤ _; omega)))
    (by rw [hml]; omega) lv.1 lv.2 (fun x hx => (mem_more x hx).2.1) (hbl "h" "h=" (by decide) (by decide)) (hbl "h=" "h" (by decide) (by decide)) (fun x hx => (mem_more x hx).1)
    lt.1 (hg _) (by rw [b1]; exact bad_h) lt.2 (hg _) (by rw [b2]; exact bad_he) (by show 2 ≤ 5; decide) rfl rfl fun s₃ S₃ => ?_
  rw [kvAll_odd] at S₃
  have sh_kv : ∀ l : List (Str × Str), (∀ p ∈ l, AZ p.1 ∧ AZ p.2) → Sh 2 (kvD l) := fun l h => sh_list fun p hp => sh_pair (h p hp).1 (h p hp).2
  have az_odd : ∀ p ∈ oddP, AZ p.1 ∧ AZ p.2 := by decide
  have az_book : ∀ p ∈ putAll' (N.map prOf) [] ++ oddP, AZ p.1 ∧ AZ p.2 := fun p hp => by
    rcases List.mem_append.mp hp with q | q
    · exact putAll_az _ _ (fun p hp => by obtain ⟨n, _, rfl⟩ := List.mem_map.mp hp; exact ⟨AZ.host n, AZ.value n⟩) (by intro p hp; cases hp) p q
    · exact az_odd p q
  have sh_ends : SeqAt.shaped (.list [kvD (putAll' (N.map prOf) [] ++ oddP), .str (Str.ofString "ValueError"), .str (Str.ofString "IndexError")]) = true := by
    refine Sh.shaped (k := 3) (Sh.list fun d hd => ?_) (by decide)
    simp only [List.mem_cons, List.not_mem_nil, or_false] at hd
    rcases hd with rfl | rfl | rfl
    · exact sh_kv _ az_book
    · exact (sh_s (by decide)).mono (by decide)
    · exact (sh_s (by decide)).mono (by decide)
  refine Fm.wp_ifNot S₃ (Fm.Ts.or (b := false) (c := false) (Fm.Ts.same (d := .list (N.map fun n => kvD [prOf n])) (Fm.Ev.name rfl) (Fm.Ev.ofCmp (Fm.Cmp.map (cl := []) (ρ' := []) N 0 entryD (fun n => kvD [prOf n]) (Fm.Ev.name rfl) n1000 rfl .nil (fun _ => .nil) fun C s2 Z pn G a _ => ?_)) ?_)
    fun _ => Fm.Ts.or (b := false) (c := false) (Fm.Ts.same (Fm.Ev.name rfl) (Fm.Ev.list (ds := [kvD (putAll' (N.map prOf) [] ++ oddP), .str (Str.ofString "ValueError"), .str (Str.ofString "IndexError")]) (.cons (Fm.Ev.name rfl) (.cons .str (.cons .str .nil)))) sh_ends)
    fun _ => Fm.Ts.or1 (Fm.Ts.same (Fm.Ev.name rfl) (hmore (Fm.Ev.name rfl) (Fm.Ev.name rfl)) ((sh_sds fun x hx => (mem_more x hx).2.2).shaped (by decide)))) fun s₄ S₄ => ?_
  · exact Fm.Ev.list (ds := [pD (prOf a)]) (.cons (Fm.Ev.tup_at (i := 2) (d := pD (prOf a)) (Fm.Ev.name rfl)) .nil)
  · exact (sh_list (k := 2) fun n _ => sh_kv [prOf n] fun p hp => by simp at hp; subst hp; exact ⟨AZ.host n, AZ.value n⟩).shaped (by decide)
  refine Fm.wp_assignCmp (es := N.map fun n => partsOf (valueOf n)) (Fm.Cmp.map (cl := []) (ρ' := []) N 0 (fun n => kvD [prOf n]) (fun n => partsOf (valueOf n)) (Fm.Ev.name rfl) n1000 rfl .nil (fun _ => .nil) fun C s2 Z pn G a _ => ?_) S₄ fun s₅ S₅ => ?_
  · have hv := valueOf_len a
    exact Fm.Ev.to (Fm.Ev.call (List.mem_of_getElem? (i := 7) (show theDefs[7]? = some (_, _, _, _) from rfl)) (fn_decode (x := valueOf a) (by omega)) (.cons (Fm.Ev.tup_at (i := 1) (ds := [.str (hostOf a), .str (valueOf a)]) (d := .str (valueOf a)) (Fm.Ev.lst_at (i := 0) (ds := [pD (prOf a)]) (d := pD (prOf a)) (Fm.Ev.name rfl))) .nil) (by show 1 ≤ 5; decide)) (by rw [dec_eq])
  refine Fm.wp_ifNot S₅ (Fm.Ts.same (d := .list (N.map fun n => partsOf (valueOf n))) (Fm.Ev.name rfl) (Fm.Ev.ofCmp (Fm.Cmp.map (cl := []) (ρ' := []) N 0 entryD (fun n => partsOf (valueOf n)) (Fm.Ev.name rfl) n1000 rfl .nil (fun _ => .nil) fun C s2 Z pn G a _ => ?_)) ((sh_list fun n _ => sh_parts (AZ.value n)).shaped (by decide))) fun s₆ S₆ => ?_
  · exact Fm.Ev.tup_at (i := 3) (d := partsOf (valueOf a)) (Fm.Ev.name rfl)
  have lmN : ∀ f : Int → PyData, (N.map f).length = N.length := fun f => List.length_map ..
  have hgiv : Fm.gath (min (N.map fun n => kvD [prOf n]).length (N.map fun n => partsOf (valueOf n)).length) (fun _ => true) (fun i => pD (givenOf (N.getD i 0))) = N.map fun n => pD (givenOf n) := by
    rw [Fm.gath_true, lmN, lmN, Nat.min_self, Fm.map_range_getD N 0 fun n => pD (givenOf n)]
  refine Fm.wp_assignCmp (Fm.Cmp.zip (e := fun i => pD (givenOf (N.getD i 0))) (Fm.Ev.name (T := tD (.list (N.map fun n => kvD [prOf n]))) rfl) (Fm.Ev.name (T := tD (.list (N.map fun n => partsOf (valueOf n)))) rfl) (by rw [lmN, lmN, Nat.min_self, sizeLine_eq]; omega) rfl rfl (by decide) (fun _ => rfl) (fun _ => rfl) (fun _ _ _ _ _ => rfl) (fun _ _ _ _ _ => rfl) fun C s2 Z pn G i hi => ?_) S₆ fun s₇ S₇ => ?_
  · rw [lmN, lmN, Nat.min_self] at hi
    rw [getD_map' (fun n => kvD [prOf n]) N i 0 .none hi, getD_map' (fun n => partsOf (valueOf n)) N i 0 .none hi]
    generalize N.getD i 0 = n
    exact Fm.Ev.tuple (ds := [.str (hostOf n), .str (pathOf (valueOf n))]) (.cons (Fm.Ev.tup_at (i := 0) (ds := [.str (hostOf n), .str (valueOf n)]) (d := .str (hostOf n)) (Fm.Ev.lst_at (i := 0) (ds := [pD (prOf n)]) (d := pD (prOf n)) (Fm.Ev.name rfl))) (.cons (Fm.Ev.parts2 (Fm.Ev.name rfl)) .nil))
  rw [hgiv] at S₇
  have hgm : N.map (fun n => pD (givenOf n)) = (N.map givenOf).map pD := by rw [List.map_map]; rfl
  refine Fm.wp_assignC (T := tD (.list (N.map fun n => pD (pairOf n)))) S₇ (Fm.Ev.to (Fm.Ev.call (List.mem_of_getElem? (i := 6) (show theDefs[6]? = some (_, _, _, _) from rfl)) (fn_valid (ps := N.map givenOf) (by rw [List.length_map]; omega)) (.cons (Fm.Ev.to (Fm.Ev.name (T := tD (.list (N.map fun n => pD (givenOf n)))) rfl) (by rw [hgm])) .nil) (by show 1 ≤ 5; decide)) (by rw [List.map_map]; rfl)) rfl (Fm.fmC_mem (x := "pairs") rfl) fun s₈ S₈ _ => ?_
  refine Fm.wp_assignC (T := tD (.list (N.map fun n => plD (placeOf n)))) S₈ (Fm.Ev.ofCmp (Fm.Cmp.map (cl := []) (ρ' := []) N 0 entryD (fun n => plD (placeOf n)) (Fm.Ev.name rfl) n1000 rfl .nil (fun _ => .nil) fun C s2 Z pn G a _ => ?_)) rfl (Fm.fmC_mem (x := "places") rfl) fun s₉ S₉ _ => ?_
  · exact Fm.Ev.tup_at (i := 4) (d := plD (placeOf a)) (Fm.Ev.name rfl)
  refine Fm.wp_ifNot S₉ (Fm.Ts.or (b := false) (c := false) (Fm.Ts.same (d := .list (N.map fun n => pD (pairOf n))) (Fm.Ev.name rfl) (Fm.Ev.ofCmp (Fm.Cmp.map (cl := []) (ρ' := []) N 0 (fun n => plD (placeOf n)) (fun n => pD (pairOf n)) (Fm.Ev.name rfl) n1000 rfl .nil (fun _ => .nil) fun C s2 Z pn G a _ => ?_)) ((sh_list fun n _ => sh_pairOf n).shaped (by decide)))
    fun _ => Fm.Ts.or1 (Fm.Ts.same (d := .list (N.map fun n => pD (givenOf n))) (Fm.Ev.name rfl) (Fm.Ev.ofCmp (Fm.Cmp.map (cl := []) (ρ' := []) N 0 entryD (fun n => pD (givenOf n)) (Fm.Ev.name rfl) n1000 rfl .nil (fun _ => .nil) fun C s2 Z pn G a _ => ?_)) ((sh_list fun n _ => sh_given n).shaped (by decide)))) fun s10 S10 => ?_
  · rw [pair_join a]
    exact Fm.Ev.tuple (ds := [.str (placeOf a).1, .str (Txt.join "/" (placeOf a).2)]) (.cons (Fm.Ev.tup_at (i := 0) (ds := [.str (placeOf a).1, .list (sds (placeOf a).2)]) (d := .str (placeOf a).1) (Fm.Ev.name rfl)) (.cons (Fm.Ev.join .str (Fm.Ev.tup_at (i := 1) (ds := [.str (placeOf a).1, .list (sds (placeOf a).2)]) (d := .list (sds (placeOf a).2)) (Fm.Ev.name rfl)) (place_ok a)) .nil))
  · exact Fm.Ev.tuple (ds := [.str (hostOf a), .str (pathOf (valueOf a))]) (.cons (Fm.Ev.tup_at (i := 0) (ds := [.str (hostOf a), .str (valueOf a)]) (d := .str (hostOf a)) (Fm.Ev.tup_at (i := 2) (d := pD (prOf a)) (Fm.Ev.name (T := tD (entryD a)) rfl))) (.cons (Fm.Ev.parts2 (Fm.Ev.tup_at (i := 3) (d := partsOf (valueOf a)) (Fm.Ev.name (T := tD (entryD a)) rfl))) .nil))
  exact k _ (S10.weaken (sub_cons rfl (sub_cons rfl sub_nil)))
end Mine

/-! L3 -/
namespace Mine
open PySem PySem.Spec PyProof.Rows

theorem Fm.Src.listMap {F : Fm} {ρ : List (Str × Ty)} {iter : Expr} {α : Type} (xs : List α) (d : α) (f : α → PyData) (h : F.Ev ρ iter (tD (.list (xs.map f)))) : F.Src ρ iter xs.length (fun i => tD (f (xs.getD i d))) := by
  have := Fm.Src.list h
  rw [List.length_map] at this
  exact this.congr fun i hi => by rw [getD_map' f xs i d .none hi]
theorem law_p3 {w : World} {mg mb : Str → Option Value} {a : Addr} {cd : Value} {s : Shared} {X : List Addr} {N : List Int} {params : Arguments} {body : List Stmt} {scope : Scope} (h8 : N.length ≤ 8)
    (hd : theDefs[13]? = some (Str.ofString "law", params, body, scope)) {Q : Flow → Shared → Prop} {E : Value → Shared → Prop} {s₁ : Shared} (S : (lawF w mg mb a cd s X scope).St (r2 N) s₁)
    (k : ∀ s₂, (lawF w mg mb a cd s X scope).St (r3 N) s₂ → (lawF w mg mb a cd s X scope).Run (body.drop 20) Q E s₂) : (lawF w mg mb a cd s X scope).Run (body.drop 16) Q E s₁ := by
  have e := hd.symm.trans (show theDefs[13]? = some (_, _, _, _) from rfl)
  injection e with e; injection e with _ e; injection e with e1 e; injection e with e2 e3
  subst e1 e2 e3
  have n1000 : N.length ≤ 1000 := by omega
  have lmN : ∀ f : Int → PyData, (N.map f).length = N.length := fun f => List.length_map ..
  have toT : (List.range N.length).map (fun i => PyData.list (N.map fun m => .bool (tl (N.getD i 0) m))) = (List.range N.length).map fun i => .list ((List.range N.length).map fun j => .bool (toldOf N i j))   := by
    rw [Fm.map_range_getD N 0 (fun n => PyData.list (N.map fun m => .bool (tl n m))), told_D]
  refine Fm.wp_assignC (T := tMgr) S (Fm.Ev.mgr (by show 1 ≤ 5; decide)) rfl (Fm.fmC_mem (x := "manager") rfl) fun s₂ S₂ _ => ?_
  refine Fm.wp_assignC (T := tD (toldD N.length (toldOf N))) S₂ (Fm.Ev.to (Fm.Ev.ofCmp (Fm.Cmp.srcC (ρ' := [("manager", tMgr), ("pairs", tD (.list (N.map fun n => pD (pairOf n))))]) (e := fun i => PyData.list (N.map fun m => .bool (tl (N.getD i 0) m))) (Fm.Src.listMap N 0 (fun n => pD (pairOf n)) (Fm.Ev.name rfl)) n1000 rfl (.cons rfl rfl (.cons rfl rfl .nil)) (fun C => .cons rfl rfl rfl (by first | exact .inl rfl | exact .inr rfl | exact .inr ⟨rfl, rfl⟩) (by first | exact .inl rfl | exact .inr rfl | exact .inr ⟨rfl, rfl⟩) (.cons rfl rfl rfl (by first | exact .inl rfl | exact .inr rfl | exact .inr ⟨rfl, rfl⟩) (by first | exact .inl rfl | exact .inr rfl | exact .inr ⟨rfl, rfl⟩) .nil)) fun C s2 Z pn G i hi => ?_)) (by rw [toT])) rfl (Fm.fmC_mem (x := "told") rfl) fun s₃ S₃ _ => ?_
  · generalize N.getD i 0 = n
    refine Fm.Ev.ofCmp (Fm.Cmp.map (ρ' := [("base", tD (pD (pairOf n))), ("manager", tMgr)]) N 0 (fun n => pD (pairOf n)) (fun m => .bool (tl n m)) (Fm.Ev.name rfl) n1000 rfl (.cons rfl rfl (.cons rfl rfl .nil)) (fun C => .cons rfl rfl rfl (by first | exact .inl rfl | exact .inr rfl | exact .inr ⟨rfl, rfl⟩) (by first | exact .inl rfl | exact .inr rfl | exact .inr ⟨rfl, rfl⟩) (.cons rfl rfl rfl (by first | exact .inl rfl | exact .inr rfl | exact .inr ⟨rfl, rfl⟩) (by first | exact .inl rfl | exact .inr rfl | exact .inr ⟨rfl, rfl⟩) .nil)) fun C s2 Z pn G m _ => ?_)
    have l1 := path_len n
    have l2 := path_len m
    exact Fm.Ev.mgrCall (Fm.Ev.name rfl) (Fm.Ev.name rfl) (Fm.Ev.name rfl) (by show 1 ≤ 5; decide) (by omega) (by omega) (pair_az n).1.ok (pair_az n).2.ok (pair_az m).1.ok (pair_az m).2.ok
  have hrow : ∀ i, i < N.length → ((List.range N.length).map fun i => PyData.list ((List.range N.length).map fun j => .bool (toldOf N i j))).getD i .none = .list ((List.range N.length).map fun j => .bool (toldOf N i j)) := fun i hi => by
    rw [getD_map' _ _ i 0 _ (by simpa using hi)]
    have : (List.range N.length).getD i 0 = i := by rw [List.getD_eq_getElem?_getD, List.getElem?_range hi]; rfl
    rw [this]
  have hcell : ∀ i j, j < ((List.range N.length).map fun j => PyData.bool (toldOf N i j)).length → ((List.range N.length).map fun j => PyData.bool (toldOf N i j)).getD j .none = .bool (toldOf N i j) := fun i j hj => by
    rw [List.length_map] at hj
    rw [getD_map' _ _ j 0 _ hj]
    have hj : j < N.length := by simpa using hj
    have : (List.range N.length).getD j 0 = j := by rw [List.getD_eq_getElem?_getD, List.getElem?_range hj]; rfl
    rw [this]
  have srcT : ∀ {F : Fm} {ρ : List (Str × Ty)} {iter : Expr}, F.Ev ρ iter (tD (toldD N.length (toldOf N))) → F.Src ρ iter N.length (fun i => tD (.list ((List.range N.length).map fun j => .bool (toldOf N i j)))) := fun h => by
    have := Fm.Src.list h
    rw [List.length_map, List.length_range] at this
    exact this.congr fun i hi => by rw [hrow i hi]
  refine Fm.wp_assignCmp (es := []) (Fm.Cmp.twoNone (n := N.length) (rows := fun i => (List.range N.length).map fun j => .bool (toldOf N i j)) (srcT (Fm.Ev.name rfl)) (by decide) rfl rfl (by decide) (fun _ => rfl) (fun _ => rfl) (fun _ _ _ _ _ => rfl) (fun _ _ _ _ _ => rfl) (fun _ _ _ _ _ i => Fm.Ev.name rfl) fun C s2 Z pn G i j hi hj => ?_) S₃ fun s₄ S₄ => ?_
  · rw [hcell i j hj]
    exact Fm.Ts.to (Fm.Ts.not (Fm.Ts.ev (Fm.Ev.isBool (b := toldOf N i j) (Fm.Ev.name rfl)))) rfl
  have shT : SeqAt.shaped (toldD N.length (toldOf N)) = true := (sh_list (k := 1) fun i _ => sh_list (k := 0) fun j _ => Sh.bool (toldOf N i j)).shaped (by decide)
  refine Fm.wp_ifNot S₄ (Fm.Ts.or (b := false) (c := false) (Fm.Ts.same (d := .list []) (Fm.Ev.name rfl) (Fm.Ev.list (ds := []) .nil (by decide)) (by decide))
    fun _ => Fm.Ts.or1 (Fm.Ts.same (d := toldD N.length (toldOf N)) (Fm.Ev.name rfl) (Fm.Ev.to (Fm.Ev.ofCmp (Fm.Cmp.srcC (ρ' := [("places", tD (.list (N.map fun n => plD (placeOf n))))]) (e := fun i => PyData.list (N.map fun m => .bool (tl (N.getD i 0) m))) (Fm.Src.listMap N 0 (fun n => plD (placeOf n)) (Fm.Ev.name rfl)) n1000 rfl (.cons rfl rfl .nil) (fun C => .cons rfl rfl rfl (by first | exact .inl rfl | exact .inr rfl | exact .inr ⟨rfl, rfl⟩) (by first | exact .inl rfl | exact .inr rfl | exact .inr ⟨rfl, rfl⟩) .nil) fun C s2 Z pn G i hi => ?_)) (by rw [toT])) shT)) fun s₅ S₅ => ?_
  · generalize N.getD i 0 = n
    refine Fm.Ev.ofCmp (Fm.Cmp.map (ρ' := [("base", tD (plD (placeOf n)))]) N 0 (fun n => plD (placeOf n)) (fun m => .bool (tl n m)) (Fm.Ev.name rfl) n1000 rfl (.cons rfl rfl .nil) (fun C => .cons rfl rfl rfl (by first | exact .inl rfl | exact .inr rfl | exact .inr ⟨rfl, rfl⟩) (by first | exact .inl rfl | exact .inr rfl | exact .inr ⟨rfl, rfl⟩) .nil) fun C s2 Z pn G m _ => ?_)
    have l1 := place_len n
    have l2 := place_len m
    exact Fm.Ev.to (Fm.Ev.call (List.mem_of_getElem? (i := 11) (show theDefs[11]? = some (_, _, _, _) from rfl)) (fn_covers (h := (placeOf n).1) (ps := (placeOf n).2) (h' := (placeOf m).1) (qs := (placeOf m).2) (by omega) (by omega) (place_az n).1.ok (fun p hp => ((place_az n).2 p hp).ok) (place_az m).1.ok (fun p hp => ((place_az m).2 p hp).ok)) (.cons (Fm.Ev.name rfl) (.cons (Fm.Ev.name rfl) .nil)) (by show 1 ≤ 5; decide)) (by rw [← told_covers]; rfl)
  exact k _ (S₅.weaken (sub_cons rfl (sub_cons rfl sub_nil)))
end Mine

/-! L4 -/
namespace Mine
open PySem PySem.Spec PyProof.Rows

theorem fin_text {N : List Int} (h : N ≠ []) : L (finT N) = textAt N.length (toldOf N) (pathAt N) N.length := by
  obtain ⟨M, hM⟩ : ∃ M, N.length = M + 1 := ⟨N.length - 1, by have := List.length_pos_iff.mpr h; omega⟩
  have := nest_text (told := toldOf N) (path := pathAt N) (M := M)
  rw [← hM] at this; exact this
theorem fin_word {N : List Int} (h : N ≠ []) : L (finW N) = wordAt N.length (toldOf N) N.length := by
  obtain ⟨M, hM⟩ : ∃ M, N.length = M + 1 := ⟨N.length - 1, by have := List.length_pos_iff.mpr h; omega⟩
  have := nest_word (told := toldOf N) (path := pathAt N) (M := M)
  rw [← hM] at this; exact this
theorem fin_begins {N : List Int} (h : N ≠ []) : finB N = (List.range (N.length + 1)).map fun j => (wordAt N.length (toldOf N) j).length := by
  obtain ⟨M, hM⟩ : ∃ M, N.length = M + 1 := ⟨N.length - 1, by have := List.length_pos_iff.mpr h; omega⟩
  have := nest_begins (told := toldOf N) (path := pathAt N) (M := M)
  rw [← hM, show M + 2 = N.length + 1 from by omega] at this; exact this
theorem pathAt_len (N : List Int) (i : Nat) : (pathAt N i).length ≤ 16 := (path_len _).1
theorem qu_path_len (N : List Int) (i : Nat) : (qu (pathAt N i)).length ≤ 34 := by have := qu_len (pathAt N i); have := pathAt_len N i; omega
theorem rep_length (k : Nat) : (Fm.rep 41 k).length = k := by rw [← L_len, L_rep, List.length_replicate]
theorem fin_len {N : List Int} (h8 : N.length ≤ 8) : (finT N).length ≤ 288 ∧ (finW N).length = 2 * N.length := by
  obtain ⟨h1, h2, _, _⟩ := nsAt_bound (told := toldOf N) (path := pathAt N) (qu_path_len N) N.length
  rw [Str.length_append, Str.length_append, rep_length]
  refine ⟨?_, h2⟩
  have : N.length * (34 + 2) ≤ 8 * 36 := Nat.mul_le_mul_right _ h8
  omega
theorem fin_strip {N : List Int} (h : N ≠ []) : stripped (finT N) = finW N := L_inj (by rw [stripped_text (fin_text h), fin_word h])
theorem fin_esc {N : List Int} (h : N ≠ []) : escEnd (finT N).cps.toList false = false := by
  show escEnd (L (finT N)) false = false
  rw [fin_text h]; exact escEnd_text _
theorem finW_free {N : List Int} (h : N ≠ []) {c : Nat} (h1 : c ≠ 40) (h2 : c ≠ 41) : c ∉ L (finW N) := fun q => by
  rw [fin_word h] at q
  rcases word_only _ _ q with e | e
  · exact h1 e
  · exact h2 e
theorem finW_esc {N : List Int} (h : N ≠ []) : escEnd (finW N).cps.toList false = false := escEnd_free _ (finW_free h (by decide) (by decide))
theorem fin_chk {N : List Int} (h : N ≠ []) : chk (stripped (finT N)) = true := by
  rw [fin_strip h, chk_seg (N := N.length) (told := toldOf N) (i := 0) (k := N.length) (Nat.zero_le _) (by
    rw [fin_word h]
    show _ = ((wordAt N.length (toldOf N) N.length).drop 0).take ((wordAt N.length (toldOf N) N.length).length - 0)
    rw [List.drop_zero, Nat.sub_zero, List.take_length]) (Nat.le_refl _), stk_end]
  rfl

theorem law_p4 {w : World} {mg mb : Str → Option Value} {a : Addr} {cd : Value} {s : Shared} {X : List Addr} {N : List Int} {params : Arguments} {body : List Stmt} {scope : Scope} (h8 : N.length ≤ 8) (hne : N ≠ [])
    (hd : theDefs[13]? = some (Str.ofString "law", params, body, scope)) {Q : Flow → Shared → Prop} {E : Value → Shared → Prop} {s₁ : Shared} (S : (lawF w mg mb a cd s X scope).St (r3 N) s₁)
    (k : ∀ s₂, (lawF w mg mb a cd s X scope).St (r4 N) s₂ → (lawF w mg mb a cd s X scope).Run (body.drop 23) Q E s₂) : (lawF w mg mb a cd s X scope).Run (body.drop 20) Q E s₁ := by
  have e := hd.symm.trans (show theDefs[13]? = some (_, _, _, _) from rfl)
  injection e with e; injection e with _ e; injection e with e1 e; injection e with e2 e3
  subst e1 e2 e3
  have hf : Fn w mg mb 2 "_law_nest" [tD (.list (N.map fun n => pD (pairOf n))), tD (toldD N.length (toldOf N))] (tD (.tuple [.str (finT N), .str (finW N), .list (ids (finB N))])) := by
    have := fn_nest (w := w) (mg := mg) (mb := mb) (ps := N.map pairOf) (told := toldOf N) (path := pathAt N) (by rw [List.length_map]; omega) (fun i => by have := qu_path_len N i; omega) (fun i => by have := pathAt_len N i; omega) (fun i hi => by
      rw [List.length_map] at hi
      refine ⟨(pairOf (N.getD i 0)).1, ?_⟩
      rw [List.getElem?_map, List.getElem?_eq_getElem hi]
      unfold pathAt
      rw [List.getD_eq_getElem?_getD, List.getElem?_eq_getElem hi]; rfl)
    have e : pairsD (N.map pairOf) = .list (N.map fun n => pD (pairOf n)) := by unfold pairsD; rw [List.map_map]; rfl
    rw [e, List.length_map] at this
    exact this
  obtain ⟨l1, l2⟩ := fin_len h8
  refine Fm.wp_assignT (xs := [("text", _), ("word", _), ("begins", _)]) (ds := [.str (finT N), .str (finW N), .list (ids (finB N))]) S (Fm.Ev.call (List.mem_of_getElem? (i := 12) (show theDefs[12]? = some (_, _, _, _) from rfl)) hf (.cons (Fm.Ev.name rfl) (.cons (Fm.Ev.name rfl) .nil)) (by show 2 ≤ 5; decide)) rfl fun s₂ S₂ => ?_
  have S₂ := S₂.weaken (ρ' := ("text", tD (.str (finT N))) :: r4 N) (sub_cons rfl (sub_cons rfl (sub_cons rfl (sub_cons rfl (sub_cons rfl sub_nil)))))
  refine Fm.wp_assign (T := tB true) S₂ (Fm.Ev.to (Fm.Ev.call (List.mem_of_getElem? (i := 5) (show theDefs[5]? = some (_, _, _, _) from rfl)) (fn_check (x := finT N) (by omega) (fin_esc hne) (join_parts (by omega)) (by rw [fin_strip hne]; omega) (by rw [fin_strip hne]; exact finW_esc hne)) (.cons (Fm.Ev.name rfl) .nil) (by show 4 ≤ 5; decide)) (by rw [fin_chk hne])) fun s₃ S₃ _ => ?_
  refine Fm.wp_ifNot S₃ (Fm.Ts.or (b := false) (c := false) (Fm.Ts.to (Fm.Ts.cmp (T := tS (finW N)) (Fm.Ev.to (Fm.Ev.call (List.mem_of_getElem? (i := 4) (show theDefs[4]? = some (_, _, _, _) from rfl)) (fn_strip (x := finT N) (by omega) (fin_esc hne) (join_parts (by omega))) (.cons (Fm.Ev.name rfl) .nil) (by show 3 ≤ 5; decide)) (by rw [fin_strip hne])) (Fm.Ev.name rfl) Fm.Cm.ne_str) (by simp))
    fun _ => Fm.Ts.or (b := false) (c := false) (Fm.Ts.to (Fm.Ts.not (Fm.Ts.ev (Fm.Ev.isBool (b := true) (Fm.Ev.name rfl)))) rfl) fun _ => Fm.Ts.or1 (Fm.Ts.to (Fm.Ts.not (Fm.Ts.ev (b := true) (Fm.Ev.name rfl))) rfl)) fun s₄ S₄ => ?_
  exact k _ (S₄.weaken (sub_cons rfl (sub_cons rfl (sub_cons rfl (sub_cons rfl sub_nil)))))
end Mine

/-! L5 -/
namespace Mine
open PySem PySem.Spec PyProof.Rows

abbrev stillD (N : List Int) : PyData := .list ((List.range (N.length + 1)).map fun k => .list (ids (stillAt N.length (toldOf N) k)))
abbrev r5 (N : List Int) : List (Str × Ty) := [("still", tD (stillD N)), ("count", tI N.length), ("begins", tD (.list (ids (finB N)))), ("word", tD (.str (finW N)))]

theorem eqvAll_ids : ∀ l m : List Nat, PyData.eqvAll (ids l) (ids m) = decide (l = m)
  | [], [] => by simp [PyData.eqvAll]
  | [], b :: m => by simp [PyData.eqvAll]
  | a :: l, [] => by simp [PyData.eqvAll]
  | a :: l, b :: m => by
    show (PyData.eqv (.int a) (.int b) && PyData.eqvAll (ids l) (ids m)) = _
    rw [eqvAll_ids l m, PyData.eqv]
    by_cases h : a = b
    · subst h; simp
    · have : ((a : Int) == (b : Int)) = false := beq_eq_false_iff_ne.mpr (by omega)
      rw [this]; simp [h]
theorem eqv_ids (l m : List Nat) : PyData.eqv (.list (ids l)) (.list (ids m)) = decide (l = m) := by rw [PyData.eqv]; exact eqvAll_ids l m
theorem gath_ids (n : Nat) (b : Nat → Bool) : Fm.gath n b (fun i => .int i) = ids ((List.range n).filter b) := by
  unfold Fm.gath ids
  rw [← List.filterMap_eq_map, ← List.filterMap_eq_filter, List.filterMap_filterMap]
  congr 1; funext i
  cases hc : b i <;> simp [Option.guard, hc]
theorem still_D (N : List Int) : ((List.range N.length).map fun k => PyData.list (ids ((List.range k).filter (stl N.length (toldOf N) k)))) ++ [.list []] = (List.range (N.length + 1)).map fun k => .list (ids (stillAt N.length (toldOf N) k)) := by
  rw [List.range_succ, List.map_append]
  congr 1
  · refine List.map_congr_left fun k hk => ?_
    have : k < N.length := by simpa using hk
    unfold stillAt; rw [if_pos this]
  · unfold stillAt; simp

theorem Fm.Src.rangeN {F : Fm} {ρ : List (Str × Ty)} {np pos : Pos} {e : Expr} (n : Nat) (hn : n ≤ 1000) (h : F.Ev ρ e (tI n)) (h1 : F.env.kindOf "range" = some .globalImplicit := by rfl) (h2 : starEach [e] F.env = (false, eval e F.env) :: starEach [] F.env := by rfl) : F.Src ρ (.Call (.Name "range" np) [e] [] pos) n (fun i => tI i) := by
  have := Fm.Src.range1 (np := np) (pos := pos) h (by omega) h1 h2
  rwa [Int.toNat_natCast] at this
theorem law_p5 {w : World} {mg mb : Str → Option Value} {a : Addr} {cd : Value} {s : Shared} {X : List Addr} {N : List Int} {params : Arguments} {body : List Stmt} {scope : Scope} (h8 : N.length ≤ 8) (hne : N ≠ [])
    (hd : theDefs[13]? = some (Str.ofString "law", params, body, scope)) {Q : Flow → Shared → Prop} {E : Value → Shared → Prop} {s₁ : Shared} (S : (lawF w mg mb a cd s X scope).St (r4 N) s₁)
    (k : ∀ s₂, (lawF w mg mb a cd s X scope).St (r5 N) s₂ → (lawF w mg mb a cd s X scope).Run (body.drop 25) Q E s₂) : (lawF w mg mb a cd s X scope).Run (body.drop 23) Q E s₁ := by
  have e := hd.symm.trans (show theDefs[13]? = some (_, _, _, _) from rfl)
  injection e with e; injection e with _ e; injection e with e1 e; injection e with e2 e3
  subst e1 e2 e3
  have lmN : ∀ f : Int → PyData, (N.map f).length = N.length := fun f => List.length_map ..
  refine Fm.wp_assign (T := tI N.length) S (Fm.Ev.to (Fm.Ev.len_list (ds := N.map fun n => pD (pairOf n)) (Fm.Ev.name rfl) (by rw [lmN, sizeLine_eq]; omega)) (by rw [lmN])) fun s₂ S₂ _ => ?_
  refine Fm.wp_assign (T := tD (stillD N)) S₂ (Fm.Ev.to (Fm.Ev.add_list (Fm.Ev.ofCmp (Fm.Cmp.srcC (ρ' := [("told", tD (toldD N.length (toldOf N)))]) (e := fun k => .list (ids ((List.range k).filter (stl N.length (toldOf N) k)))) (Fm.Src.rangeN N.length (by omega) (Fm.Ev.name rfl)) (by omega) rfl (.cons rfl rfl .nil) (fun C => .cons rfl rfl rfl (by first | exact .inl rfl | exact .inr rfl | exact .inr ⟨rfl, rfl⟩) (by first | exact .inl rfl | exact .inr rfl | exact .inr ⟨rfl, rfl⟩) .nil) fun C s2 Z pn G k hk => ?_))
    (Fm.Ev.list (ds := [.list []]) (.cons (Fm.Ev.list (ds := []) .nil (by decide)) .nil)) (by rw [List.length_map, List.length_range, sizeLine_eq]; show _ + 1 ≤ _; omega)) (by rw [still_D])) fun s₃ S₃ _ => ?_
  · refine Fm.Ev.to (Fm.Ev.ofCmp (Fm.Cmp.plain (n := k) (Pv := fun i => tI i) (ρ' := [("k", tI k), ("told", tD (toldD N.length (toldOf N)))]) (ρt := fun i => [("i", tI i), ("k", tI k), ("told", tD (toldD N.length (toldOf N)))]) (b := stl N.length (toldOf N) k) (e := fun i => .int i)
      ⟨Fm.Src.rangeN k (by omega) (Fm.Ev.name rfl), by rw [sizeLine_eq]; omega, rfl, .cons rfl rfl (.cons rfl rfl .nil), fun C => .cons rfl rfl rfl (by first | exact .inl rfl | exact .inr rfl | exact .inr ⟨rfl, rfl⟩) (by first | exact .inl rfl | exact .inr rfl | exact .inr ⟨rfl, rfl⟩) (.cons rfl rfl rfl (by first | exact .inl rfl | exact .inr rfl | exact .inr ⟨rfl, rfl⟩) (by first | exact .inl rfl | exact .inr rfl | exact .inr ⟨rfl, rfl⟩) .nil), fun _ _ _ _ _ _ _ => Fm.Asg.name, fun C2 s3 Z2 pn2 G2 i hi => .one ?_, fun _ _ _ _ _ i hi _ => Fm.Ev.name rfl, fun i x T hi h => lookup_skip h (by
        by_cases hx : x = "i"
        · subst hx; exact nomatch h
        · simpa using hx), rfl, by decide, fun _ => rfl, fun _ => rfl, fun _ _ => rfl⟩)) (by rw [gath_ids])
    have hrow : ((List.range N.length).map fun i => PyData.list ((List.range N.length).map fun j => .bool (toldOf N i j)))[((i : Nat) : Int).toNat]? = some (.list ((row N.length (toldOf N) i).map .bool)) := by
      rw [Int.toNat_natCast, List.getElem?_map, List.getElem?_range (by omega)]
      unfold row; rw [List.map_map]; rfl
    exact Fm.Ts.cmp .bool (Fm.Ev.to (Fm.Ev.list_slice (Fm.Ev.list_at (ds := (List.range N.length).map fun i => PyData.list ((List.range N.length).map fun j => .bool (toldOf N i j))) (i := (i : Int)) (Fm.Ev.name rfl) (Fm.Ev.name rfl) (by omega) (by omega) hrow) (.some (Fm.Ev.add_int (Fm.Ev.name rfl) .int)) (.some (Fm.Ev.add_int (Fm.Ev.name rfl) .int)) (by unfold row; rw [List.length_map, List.length_map, List.length_range, sizeLine_eq]; omega)) (by rw [sl_map])) Fm.Cm.notIn_bools
  exact k _ (S₃.weaken (sub_cons rfl (sub_cons rfl (sub_cons rfl (sub_cons rfl sub_nil)))))
end Mine

/-! L6 -/
namespace Mine
open PySem PySem.Spec PyProof.Rows

theorem word_mono (N : Nat) (told : Nat → Nat → Bool) {i k : Nat} (h : i ≤ k) : (wordAt N told i).length ≤ (wordAt N told k).length := by
  obtain ⟨d, rfl⟩ := Nat.exists_eq_add_of_le h
  rw [word_seg, List.length_append]; omega
/-- a stretch of the word -/
def cutW (N : List Int) (i k : Nat) : Str := Txt.slice (finW N) (some ((wordAt N.length (toldOf N) i).length : Nat)) (some ((wordAt N.length (toldOf N) k).length : Nat))
theorem L_cutW {N : List Int} (hne : N ≠ []) {i k : Nat} (hik : i ≤ k) (hk : k ≤ N.length) : L (cutW N i k) = ((wordAt N.length (toldOf N) N.length).drop (wordAt N.length (toldOf N) i).length).take ((wordAt N.length (toldOf N) k).length - (wordAt N.length (toldOf N) i).length) := by
  unfold cutW
  rw [L_slice_ss _ (word_mono _ _ hik) (by rw [← L_len, fin_word hne]; exact word_mono _ _ hk), fin_word hne]
theorem cutW_free {N : List Int} (hne : N ≠ []) (i k : Nat) {c : Nat} (h1 : c ≠ 40) (h2 : c ≠ 41) : c ∉ L (cutW N i k) := fun q => finW_free hne h1 h2 (subset_slice _ _ _ c q)
theorem cutW_len {N : List Int} (h8 : N.length ≤ 8) (i k : Nat) : (cutW N i k).length ≤ 16 := by
  have := Txt.slice_le (finW N) (some ((wordAt N.length (toldOf N) i).length : Nat)) (some ((wordAt N.length (toldOf N) k).length : Nat))
  have := (fin_len h8).2
  unfold cutW; omega
theorem cutW_chk {N : List Int} (hne : N ≠ []) {i k : Nat} (hik : i ≤ k) (hk : k ≤ N.length) : chk (stripped (cutW N i k)) = decide (stillAt N.length (toldOf N) i = stillAt N.length (toldOf N) k) := by
  rw [stripped_free (cutW_free hne i k (by decide) (by decide)), chk_still (told_trans N) hik hk (L_cutW hne hik hk)]

theorem Fm.Src.rangeB {F : Fm} {ρ : List (Str × Ty)} {np pos : Pos} {e e' : Expr} (i n : Nat) (hi : i ≤ n) (hn : n ≤ 1000) (h : F.Ev ρ e (tI ((i : Int) + 1))) (h' : F.Ev ρ e' (tI ((n : Int) + 1))) (hk : F.env.kindOf "range" = some .globalImplicit := by rfl)
    (hs : starEach [e, e'] F.env = (false, eval e F.env) :: starEach [e'] F.env := by rfl) (hs' : starEach [e'] F.env = (false, eval e' F.env) :: starEach [] F.env := by rfl) : F.Src ρ (.Call (.Name "range" np) [e, e'] [] pos) (n - i) (fun j => tI ((i + 1 + j : Nat) : Int)) := by
  have := Fm.Src.range2 (np := np) (pos := pos) h h' (by omega) (by omega) hk hs hs'
  rw [show ((n : Int) + 1 - ((i : Int) + 1)).toNat = n - i from by omega] at this
  exact this.congr fun j _ => by congr 1
theorem beg_at {N : List Int} (hne : N ≠ []) {m : Nat} (h : m ≤ N.length) : (ids (finB N))[((m : Nat) : Int).toNat]? = some (.int ((wordAt N.length (toldOf N) m).length : Nat)) := by
  rw [Int.toNat_natCast, fin_begins hne]
  unfold ids
  rw [List.map_map, List.getElem?_map, List.getElem?_range (by omega)]; rfl
theorem still_at (N : List Int) {m : Nat} (h : m ≤ N.length) : ((List.range (N.length + 1)).map fun k => PyData.list (ids (stillAt N.length (toldOf N) k)))[((m : Nat) : Int).toNat]? = some (.list (ids (stillAt N.length (toldOf N) m))) := by
  rw [Int.toNat_natCast, List.getElem?_map, List.getElem?_range (by omega)]; rfl
theorem law_p6 {w : World} {mg mb : Str → Option Value} {a : Addr} {cd : Value} {s : Shared} {X : List Addr} {N : List Int} {params : Arguments} {body : List Stmt} {scope : Scope} (h8 : N.length ≤ 8) (hne : N ≠ [])
    (hd : theDefs[13]? = some (Str.ofString "law", params, body, scope)) {E : Value → Shared → Prop} {s₁ : Shared} (S : (lawF w mg mb a cd s X scope).St (r5 N) s₁) :
    (lawF w mg mb a cd s X scope).Run (body.drop 25) (fun fl s' => ∃ v, fl = .ret v ∧ Ext (lawF w mg mb a cd s X scope).s0 s' ∧ (tB true).P (cut (vw s') (lawF w mg mb a cd s X scope).Xo) v) E s₁ := by
  have e := hd.symm.trans (show theDefs[13]? = some (_, _, _, _) from rfl)
  injection e with e; injection e with _ e; injection e with e1 e; injection e with e2 e3
  subst e1 e2 e3
  have S0 := S.congrPn (pn := fun _ => pnAny) (fun _ _ => rfl)
  refine Fm.wp_for (n := N.length) (Pv := fun i => tI i) (pn := fun _ _ => pnAny) (ρi := fun _ => r5 N) S0 (Fm.Src.rangeN N.length (by omega) (Fm.Ev.name rfl)) ?_ ?_
  · intro I P G i hI hi s₂ S₂
    have S3 := S₂.congrPn (fun _ _ => rfl)
    refine Fm.wp_for (n := N.length - i) (Pv := fun j => tI ((i + 1 + j : Nat) : Int)) (pn := fun _ => _) (ρi := fun _ => ("i", tI i) :: r5 N) S3 ?_ ?_ ?_
    · exact Fm.Src.rangeB i N.length (by omega) (by omega) (Fm.Ev.add_int (Fm.Ev.name rfl) .int) (Fm.Ev.add_int (Fm.Ev.name rfl) .int)
    · intro I' P' G' j hI' hj s₃ S₃
      have hk : i + 1 + j ≤ N.length := by omega
      have hik : i ≤ i + 1 + j := by omega
      have hl := cutW_len h8 i (i + 1 + j)
      have hfw := (fin_len h8).2
      have hchk := cutW_chk hne hik hk
      have hcf := stripped_free (cutW_free hne i (i + 1 + j) (c := 34) (by decide) (by decide))
      have hce : escEnd (cutW N i (i + 1 + j)).cps.toList false = false := escEnd_free _ (cutW_free hne i (i + 1 + j) (by decide) (by decide))
      have b1 := beg_at hne (m := i) (by omega)
      have b2 := beg_at hne hk
      have t1 := still_at N (m := i) (by omega)
      have t2 := still_at N hk
      generalize hkk : i + 1 + j = k at *
      have zk : (0 : Int) ≤ (k : Int) ∧ (k : Int) < 2 ^ 63 ∧ (0 : Int) ≤ (i : Int) ∧ (i : Int) < 2 ^ 63 := ⟨by omega, by omega, by omega, by omega⟩
      refine Fm.wp_assign (T := tB (decide (stillAt N.length (toldOf N) i = stillAt N.length (toldOf N) k))) S₃ (Fm.Ev.to (Fm.Ev.call (List.mem_of_getElem? (i := 5) (show theDefs[5]? = some (_, _, _, _) from rfl)) (fn_check (x := cutW N i k) (by omega) hce (join_parts (by omega)) (by rw [hcf]; omega) (by rw [hcf]; exact hce))
        (.cons (Fm.Ev.str_slice (Fm.Ev.name rfl) (.some (Fm.Ev.list_at (ds := ids (finB N)) (i := (i : Int)) (Fm.Ev.name rfl) (Fm.Ev.name rfl) zk.2.2.1 zk.2.2.2 b1)) (.some (Fm.Ev.list_at (ds := ids (finB N)) (i := (k : Int)) (Fm.Ev.name rfl) (Fm.Ev.name rfl) zk.1 zk.2.1 b2)) (by rw [hfw, sizeLine_eq]; omega)) .nil) (by show 4 ≤ 5; decide)) (by rw [hchk])) fun s₄ S₄ _ => ?_
      have sh1 := (sh_ids (stillAt N.length (toldOf N) i)).shaped (by decide)
      have sh2 := (sh_ids (stillAt N.length (toldOf N) k)).shaped (by decide)
      refine Fm.wp_ifNot S₄ (Fm.Ts.or (b := false) (c := false) (Fm.Ts.to (Fm.Ts.not (Fm.Ts.ev (Fm.Ev.isBool (b := decide (stillAt N.length (toldOf N) i = stillAt N.length (toldOf N) k)) (Fm.Ev.name rfl)))) rfl)
        fun _ => Fm.Ts.or1 (Fm.Ts.same (d := .bool (decide (stillAt N.length (toldOf N) i = stillAt N.length (toldOf N) k))) (Fm.Ev.name rfl) (Fm.Ev.to (Fm.Ev.cmp (Fm.Ev.list_at (ds := (List.range (N.length + 1)).map fun k => PyData.list (ids (stillAt N.length (toldOf N) k))) (i := (i : Int)) (Fm.Ev.name rfl) (Fm.Ev.name rfl) zk.2.2.1 zk.2.2.2 t1) (Fm.Ev.list_at (ds := (List.range (N.length + 1)).map fun k => PyData.list (ids (stillAt N.length (toldOf N) k))) (i := (k : Int)) (Fm.Ev.name rfl) (Fm.Ev.name rfl) zk.1 zk.2.1 t2) (Fm.Cm.eq_data sh1 sh2)) (by rw [eqv_ids])) ((Sh.bool _).shaped (by decide)))) fun s₅ S₅ => ?_
      refine Fm.wp_nil ?_
      exact S₅.weaken (sub_cons rfl (sub_cons rfl (sub_cons rfl (sub_cons rfl (sub_cons rfl sub_nil)))))
    · intro s₃ S₃
      refine Fm.wp_nil ?_
      exact S₃.weaken (sub_cons rfl (sub_cons rfl (sub_cons rfl (sub_cons rfl sub_nil))))
  · intro s₂ S₂
    exact Fm.wp_return S₂ .bool fun v s' S' _ hv => S'.fin hv
end Mine

/-! L7 -/
namespace Mine
open PySem PySem.Spec PyProof.Rows

theorem lawRun : LawRun := by
  intro w mg mb s a ns v G hmg hns hv E Q k
  obtain ⟨a', o, pm, cd, doc, h1, h2, h3, h4⟩ := G.fn _ (List.mem_of_getElem? (i := 13) (show theDefs[13]? = some (_, _, _, _) from rfl))
  have : a' = a := by
    have h1 : mg "law" = some (.ref a') := h1
    rw [hmg] at h1; cases h1; rfl
  subst this
  refine callC (n := 5) (f := "law") (U := tD (.list (ns.map .int))) (T := tB true) (x := "script") ⟨rfl, by decide, by decide⟩ G hv ⟨o, pm, cd, doc, h2, h3, h4⟩ (fun _ _ _ _ => rfl) rfl (fun m => show (["told", "manager", "places", "pairs"] : List Str).Nodup from by decide) (fun cd s₁ S => ?_) (fun v s' e' hv => by obtain rfl := Rd.bool_inv hv; exact k s' e')
  have hd : theDefs[13]? = some (_, _, _, _) := rfl
  refine law_p1 hns hd S fun n N s₂ h8 S₂ => ?_
  refine law_p2 h8 hd S₂ fun s₃ S₃ => ?_
  refine law_p3 h8 hd S₃ fun s₄ S₄ => ?_
  refine law_p4 h8 (by simp) hd S₄ fun s₅ S₅ => ?_
  refine law_p5 h8 (by simp) hd S₅ fun s₆ S₆ => ?_
  exact law_p6 h8 (by simp) hd S₆
end Mine

/-! HdK -/
namespace Mine
open PySem PySem.W PyProof.Rows
/-- a function object of the class, its text as the program gives it -/
def fnOb (i : Nat) (q : Str) (c : Addr) : Obj := match classDefs[i]? with
  | some d => { cls := Value.type "function", data := Data.func { name := d.1, qualname := q, params := d.2.1, body := FuncBody.stmts d.2.2.1, scope := d.2.2.2, globals := 3, closure := [], defaults := Value.none, kwdefaults := Value.none, pyModule := Value.str (Str.ofString "cpy313.urllib.request") 194, code := Value.ref c } }
  | none => { cls := Value.none, data := Data.plain }
/-- the seven objects of the top that the walk asks for -/
def Ks (P : Params) : W.Frag := [(3, { cls := Value.type "dict", data := Data.dict #[{ hash := PyData.keyHash P (Str.ofString "__name__"), key := Value.str (Str.ofString "__name__") 165, val := Value.str (Str.ofString "law_pk0090_01") 333 }, { hash := PyData.keyHash P (Str.ofString "__doc__"), key := Value.str (Str.ofString "__doc__") 166, val := Value.none }, { hash := PyData.keyHash P (Str.ofString "__package__"), key := Value.str (Str.ofString "__package__") 167, val := Value.none }, { hash := PyData.keyHash P (Str.ofString "__loader__"), key := Value.str (Str.ofString "__loader__") 168, val := Value.builtin "__main__.__loader__#opaque" }, { hash := PyData.keyHash P (Str.ofString "__spec__"), key := Value.str (Str.ofString "__spec__") 169, val := Value.none }, { hash := PyData.keyHash P (Str.ofString "__annotations__"), key := Value.str (Str.ofString "__annotations__") 170, val := Value.ref 6 }, { hash := PyData.keyHash P (Str.ofString "__builtins__"), key := Value.str (Str.ofString "__builtins__") 171, val := Value.ref 4 }, { hash := PyData.keyHash P (Str.ofString "__file__"), key := Value.str (Str.ofString "__file__") 173, val := Value.str (Str.ofString "/claim/cut.py") 172 }, { hash := PyData.keyHash P (Str.ofString "__cached__"), key := Value.str (Str.ofString "__cached__") 174, val := Value.none }, { hash := PyData.keyHash P (Str.ofString "_wall"), key := Value.str (Str.ofString "_wall") 193, val := Value.ref 21 }, { hash := PyData.keyHash P (Str.ofString "HTTPPasswordMgr"), key := Value.str (Str.ofString "HTTPPasswordMgr") 262, val := Value.ref 67 }, { hash := PyData.keyHash P (Str.ofString "parse_keqv_list"), key := Value.str (Str.ofString "parse_keqv_list") 273, val := Value.ref 78 }, { hash := PyData.keyHash P (Str.ofString "parse_http_list"), key := Value.str (Str.ofString "parse_http_list") 279, val := Value.ref 83 }, { hash := PyData.keyHash P (Str.ofString "TICK"), key := Value.str (Str.ofString "TICK") 283, val := Value.str (Str.ofString "'") 282 }, { hash := PyData.keyHash P (Str.ofString "_iter_escaped_chars"), key := Value.str (Str.ofString "_iter_escaped_chars") 293, val := Value.ref 90 }, { hash := PyData.keyHash P (Str.ofString "_strip_quoted_realnames"), key := Value.str (Str.ofString "_strip_quoted_realnames") 305, val := Value.ref 97 }, { hash := PyData.keyHash P (Str.ofString "_check_parenthesis"), key := Value.str (Str.ofString "_check_parenthesis") 315, val := Value.ref 104 }, { hash := PyData.keyHash P (Str.ofString "_post_parse_validation"), key := Value.str (Str.ofString "_post_parse_validation") 324, val := Value.ref 111 }, { hash := PyData.keyHash P (Str.ofString "decode_rfc2231"), key := Value.str (Str.ofString "decode_rfc2231") 332, val := Value.ref 118 }, { hash := PyData.keyHash P (Str.ofString "_law_quoted"), key := Value.str (Str.ofString "_law_quoted") 341, val := Value.ref 125 }, { hash := PyData.keyHash P (Str.ofString "_law_entry"), key := Value.str (Str.ofString "_law_entry") 347, val := Value.ref 130 }, { hash := PyData.keyHash P (Str.ofString "_law_told"), key := Value.str (Str.ofString "_law_told") 354, val := Value.ref 137 }, { hash := PyData.keyHash P (Str.ofString "_law_covers"), key := Value.str (Str.ofString "_law_covers") 364, val := Value.ref 144 }, { hash := PyData.keyHash P (Str.ofString "_law_nest"), key := Value.str (Str.ofString "_law_nest") 377, val := Value.ref 151 }, { hash := PyData.keyHash P (Str.ofString "law"), key := Value.str (Str.ofString "law") 383, val := Value.ref 156 }] 25 }),
  (34, { cls := Value.type "code", data := Data.fields #[Value.str (Str.ofString "__init__") 208, Value.str (Str.ofString "HTTPPasswordMgr.__init__") 209, Value.str (Str.ofString "/claim/cut.py") 210, Value.int 7 0, Value.int 1 0, Value.int 0 0, Value.int 0 0, Value.int 3 0, Value.ref 29, Value.bool true, Value.int 181 0, Value.ref 30, Value.none, Value.ref 31, Value.ref 32, Value.ref 33, Value.int 212 0, Value.int 7 0, Value.str (Str.ofString "/claim/cut.py") 213] }),
  (35, fnOb 0 "HTTPPasswordMgr.__init__" 34),
  (63, { cls := Value.type "code", data := Data.fields #[Value.str (Str.ofString "is_suburi") 244, Value.str (Str.ofString "HTTPPasswordMgr.is_suburi") 245, Value.str (Str.ofString "/claim/cut.py") 246, Value.int 19 0, Value.int 3 0, Value.int 0 0, Value.int 0 0, Value.int 3 0, Value.ref 58, Value.bool true, Value.int 181 0, Value.ref 59, Value.none, Value.ref 60, Value.ref 61, Value.ref 62, Value.int 251 0, Value.int 19 0, Value.str (Str.ofString "/claim/cut.py") 252] }),
  (64, fnOb 4 "HTTPPasswordMgr.is_suburi" 63),
  (66, { cls := Value.type "dict", data := Data.dict #[{ hash := PyData.keyHash P (Str.ofString "__module__"), key := Value.str (Str.ofString "__module__") 203, val := Value.str (Str.ofString "cpy313.urllib.request") 194 }, { hash := PyData.keyHash P (Str.ofString "__firstlineno__"), key := Value.str (Str.ofString "__firstlineno__") 207, val := Value.int 5 206 }, { hash := PyData.keyHash P (Str.ofString "__init__"), key := Value.str (Str.ofString "__init__") 214, val := Value.ref 35 }, { hash := PyData.keyHash P (Str.ofString "add_password"), key := Value.str (Str.ofString "add_password") 225, val := Value.ref 42 }, { hash := PyData.keyHash P (Str.ofString "find_user_password"), key := Value.str (Str.ofString "find_user_password") 234, val := Value.ref 49 }, { hash := PyData.keyHash P (Str.ofString "reduce_uri"), key := Value.str (Str.ofString "reduce_uri") 243, val := Value.ref 57 }, { hash := PyData.keyHash P (Str.ofString "is_suburi"), key := Value.str (Str.ofString "is_suburi") 253, val := Value.ref 64 }, { hash := PyData.keyHash P (Str.ofString "__static_attributes__"), key := Value.str (Str.ofString "__static_attributes__") 255, val := Value.ref 65 }, { hash := PyData.keyHash P (Str.ofString "__dict__"), key := Value.str (Str.ofString "__dict__") 257, val := Value.ref 68 }, { hash := PyData.keyHash P (Str.ofString "__weakref__"), key := Value.str (Str.ofString "__weakref__") 259, val := Value.ref 69 }, { hash := PyData.keyHash P (Str.ofString "__doc__"), key := Value.str (Str.ofString "__doc__") 260, val := Value.none }] 4 }),
  (67, { cls := Value.type "type", data := Data.cls { name := Str.ofString "HTTPPasswordMgr", bases := [Value.type "object"], mro := [Value.ref 67, Value.type "object"], ns := 66, qualname := Str.ofString "HTTPPasswordMgr" }, slots := #[none, none, some (Value.str (Str.ofString "HTTPPasswordMgr") 196), some (Value.str (Str.ofString "HTTPPasswordMgr") 204), some (Value.builtin "object.__new__"), some (Value.bool true)] })]
def keepSt : Stmt → Bool
  | .Assign [.Name x _] _ _ => x != "__name__"
  | _ => true
def viewQ : Program := { Challenge.pw_pk0090_01 with main := { Challenge.pw_pk0090_01.main with body := Challenge.pw_pk0090_01.main.body.filter keepSt } }
end Mine

/-! T5 -/
open PySem PySem.W PyProof.Rows
set_option maxRecDepth 100000
set_option maxHeartbeats 8000000
namespace Mine
/-- the top, from the end of the start on: one step of the kernel, over the quick forms of the run and of the looks -/
theorem hdTop : ∀ (w : World) (os : OsState), (topFrom treeTable (OpenRow.toRowW PySem.Challenge.rw_pk0090_01.row).prog w 1760 ⟨boot_heap w.params, #[], boot_drawn, boot_toks, os⟩).map (fun s => (openSeen viewQ [] (importedModules (OpenRow.toRowW PySem.Challenge.rw_pk0090_01.row).prog.main.body) (fun s => xlAt viewQ [] s && recOk (RowW.records (OpenRow.toRowW PySem.Challenge.rw_pk0090_01.row)) s) true s, Hook.obs (kHook Ks [3, 34, 35, 63, 64, 66, 67] (fun _ => by kernel_rfl)) s)) = some (openGood viewQ [], Hook.val (kHook Ks [3, 34, 35, 63, 64, 66, 67] (fun _ => by kernel_rfl)) w) := fun w os => by
  unfold topFrom
  rw [PySem.W.Fast.te14082659384304107361, PySem.W.Fast.te14364793385576792824, PySem.W.Fast.te4187177175401517315]
  kernel_rfl
theorem hdLeft : LeftO (OpenRow.toRowW PySem.Challenge.rw_pk0090_01.row).prog viewQ [] (fun s => xlAt viewQ [] s && recOk (RowW.records (OpenRow.toRowW PySem.Challenge.rw_pk0090_01.row)) s) (Hook.obs (kHook Ks [3, 34, 35, 63, 64, 66, 67] (fun _ => by kernel_rfl))) (Hook.val (kHook Ks [3, 34, 35, 63, 64, 66, 67] (fun _ => by kernel_rfl))) 1760 := fun w => by
  obtain ⟨s₀, hs, hv⟩ := Option.map_eq_some_iff.mp (boot_open (p := (OpenRow.toRowW PySem.Challenge.rw_pk0090_01.row).prog) (N := 1760) (by kernel_rfl) (by kernel_rfl) (fun s => by kernel_rfl) w)
  obtain ⟨h, g, d, t, os⟩ := s₀
  have hv : (h, g, d, t) = (boot_heap w.params, Array.mk [], boot_drawn, boot_toks) := hv
  obtain ⟨rfl, rfl, rfl, rfl⟩ : h = boot_heap w.params ∧ g = #[] ∧ d = boot_drawn ∧ t = boot_toks := by
    simp only [Prod.mk.injEq] at hv; exact hv
  unfold openEnds
  rw [hs, Option.bind_some]
  exact hdTop w os
end Mine
set_option maxRecDepth 100000 in
set_option maxHeartbeats 8000000 in
theorem PySem.Challenge.cw_pk0090_01_holds : PySem.Challenge.rw_pk0090_01.Holds := by
  w_on
  o_law
  refine holds_open (q := Mine.viewQ) (loose := []) (Xt := fun s => xlAt Mine.viewQ [] s && recOk (RowW.records (OpenRow.toRowW PySem.Challenge.rw_pk0090_01.row)) s) (XP := XL Mine.viewQ []) (Yf := Hook.obs (kHook Mine.Ks [3, 34, 35, 63, 64, 66, 67] (fun _ => by kernel_rfl))) (Ya := Hook.val (kHook Mine.Ks [3, 34, 35, 63, 64, 66, 67] (fun _ => by kernel_rfl))) (YP := Hook.says (kHook Mine.Ks [3, 34, 35, 63, 64, 66, 67] (fun _ => by kernel_rfl))) (N := 1760) Mine.hdLeft (Hook.of _) (Hook.keeps _) (fun s e => xl_of s (Bool.and_eq_true_iff.mp e).1) XL.keeps (by rfl) (by rfl) (by rfl) (fun s e => recFacts_of (Bool.and_eq_true_iff.mp e).2) (by rfl) (by first | assumption | decide +kernel) (by decide +kernel) ⟨rfl, rfl, rfl, rfl, rfl, by decide +kernel⟩ ?hw ?hc
  (case hw => w_witness2)
  refine Mine.walk_of Mine.lawRun ?_ (fun P => ⟨⟨?_, ?_, ?_, ?_, ?_, ?_, ?_, ?_, ?_, ?_, ?_, ?_, ?_, ?_, ?_, ?_, ?_⟩, ?_, ?_, ?_⟩) ?_
  · kernel_rfl
  · kernel_rfl
  · kernel_rfl
  · kernel_rfl
  · intro d hd
    have hd : some (_, _, _, _) = some d := hd
    cases hd
    exact ⟨_, _, _, rfl, rfl⟩
  · kernel_rfl
  · kernel_rfl
  · kernel_rfl
  · kernel_rfl
  · kernel_rfl
  · kernel_rfl
  · kernel_rfl
  · kernel_rfl
  · kernel_rfl
  · intro d hd
    have hd : some (_, _, _, _) = some d := hd
    cases hd
    exact ⟨_, _, _, rfl, rfl⟩
  · kernel_rfl
  · kernel_rfl
  · kernel_rfl
  · intro x hx
    simp only [Mine.freeNames, List.mem_cons, List.not_mem_nil, or_false] at hx
    rcases hx with rfl | rfl | rfl | rfl | rfl | rfl | rfl | rfl | rfl | rfl <;> kernel_rfl
  · exact ⟨282, by kernel_rfl⟩
  · kernel_rfl
  · rfl
