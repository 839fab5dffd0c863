import PyProof.Rows.All
import Wide.All
import OpenK.AllK
import Wide.FinOn
import PySem.Challenge.RW_af0002_04
set_option Elab.async false

section
open PySem PySem.W PyProof.Rows PySem.Calls
set_option maxRecDepth 100000
namespace Mine

abbrev PMap := Addr → Option Obj

abbrev lobj (vs : Array Value) (n : Nat) : Obj := { cls := .type "list", dict := none, data := .seq vs n, slots := #[] }
abbrev tobj (vs : Array Value) (n : Nat) : Obj := { cls := .type "tuple", dict := none, data := .seq vs n, slots := #[] }

set_option genInjectivity false in
set_option genSizeOfSpec false in
inductive PV where
  | none
  | bool (b : Bool)
  | int (i : Int)
  | str (s : Str)
  | tup (l : List PV)
  | list (l : List PV)
  | rng (a b : Int)
  | loc (a : Addr)
  | val (v : Value)

mutual
inductive Is (g : PMap) : PV → Value → Prop where
  | none : Is g .none .none
  | bool {b} : Is g (.bool b) (.bool b)
  | int {i t} : Is g (.int i) (.int i t)
  | str {s t} : Is g (.str s) (.str s t)
  | tup {l a vs n} : g a = some (tobj vs n) → Iss g l vs.toList → Is g (.tup l) (.ref a)
  | list {l a vs n} : g a = some (lobj vs n) → Iss g l vs.toList → Is g (.list l) (.ref a)
  | rng {a b r t u v} : g r = some { cls := .type "range", dict := Option.none, data := .fields #[.int a t, .int b u, .int 1 v], slots := #[] } → Is g (.rng a b) (.ref r)
  | loc {a} : Is g (.loc a) (.ref a)
  | val {v} : Is g (.val v) v
inductive Iss (g : PMap) : List PV → List Value → Prop where
  | nil : Iss g [] []
  | cons {d v ds vs} : Is g d v → Iss g ds vs → Iss g (d :: ds) (v :: vs)
end

def Le (g g' : PMap) : Prop := ∀ a o, g a = some o → g' a = some o
theorem Le.refl (g : PMap) : Le g g := fun _ _ h => h
theorem Le.trans {g g' g'' : PMap} (h : Le g g') (k : Le g' g'') : Le g g'' := fun a o e => k a o (h a o e)

mutual
theorem Is.mono {g g' : PMap} (k : Le g g') : ∀ {d v}, Is g d v → Is g' d v
  | _, _, .none => .none
  | _, _, .bool => .bool
  | _, _, .int => .int
  | _, _, .str => .str
  | _, _, .tup h r => .tup (k _ _ h) (Iss.mono k r)
  | _, _, .list h r => .list (k _ _ h) (Iss.mono k r)
  | _, _, .rng h => .rng (k _ _ h)
  | _, _, .loc => .loc
  | _, _, .val => .val
theorem Iss.mono {g g' : PMap} (k : Le g g') : ∀ {ds vs}, Iss g ds vs → Iss g' ds vs
  | _, _, .nil => .nil
  | _, _, .cons h r => .cons (Is.mono k h) (Iss.mono k r)
end

theorem Iss.length {g : PMap} : ∀ {ds vs}, Iss g ds vs → vs.length = ds.length
  | _, _, .nil => rfl
  | _, _, .cons _ r => by rw [List.length_cons, List.length_cons, r.length]
theorem Iss.get {g : PMap} : ∀ {ds vs}, Iss g ds vs → ∀ (i : Nat) d, ds[i]? = some d → ∃ v, vs[i]? = some v ∧ Is g d v
  | _, _, .nil, i, d, h => by simp at h
  | _, _, .cons h r, 0, d, e => by simp at e; subst e; exact ⟨_, rfl, h⟩
  | _, _, .cons _ r, i + 1, d, e => by simp at e; simpa using r.get i d e
theorem Iss.append {g : PMap} : ∀ {ds vs es ws}, Iss g ds vs → Iss g es ws → Iss g (ds ++ es) (vs ++ ws)
  | _, _, _, _, .nil, k => k
  | _, _, _, _, .cons h r, k => .cons h (r.append k)
theorem Iss.set {g : PMap} {d v} (k : Is g d v) : ∀ {ds vs} (i : Nat), Iss g ds vs → Iss g (ds.set i d) (vs.set i v)
  | _, _, _, .nil => .nil
  | _, _, 0, .cons _ r => .cons k r
  | _, _, i + 1, .cons h r => .cons h (Iss.set k i r)
theorem Iss.toInts {g : PMap} : ∀ {ns : List Int} {vs}, Iss g (ns.map PV.int) vs → IntsAre vs ns
  | [], _, h => by cases h; exact IntsAre.nil
  | n :: r, _, h => by
    cases h with
    | cons h k => cases h; exact IntsAre.cons _ _ (Iss.toInts k)
theorem Iss.of_ints {g : PMap} : ∀ {ns : List Int} {vs}, IntsAre vs ns → Iss g (ns.map PV.int) vs
  | _, _, .nil => .nil
  | _, _, .cons _ _ k => .cons .int (Iss.of_ints k)

abbrev Vars := List (Str × PV)
abbrev Mu := List (Addr × List PV)

set_option genInjectivity false in
set_option genSizeOfSpec false in
structure Wk where
  prog : Program
  w : World
  gens : Array GenState
  drawn : Drawn
  os : OsState
  base : Heap
  mg : Str → Option Value
  mb : Str → Option Value
abbrev Wk.S (W : Wk) (h : Heap) (t : Nat) : Shared := ⟨h, W.gens, W.drawn, t, W.os⟩
abbrev Wk.M (W : Wk) : Model := model W.prog W.w
structure Wk.Ok (W : Wk) : Prop where
  g : W.base.Ns mainGlobals W.mg
  b : W.base.Ns builtinsNs W.mb
  builtins : ∀ x : Str, x ≠ "__name__" → W.mb x = bootBuiltins x
  nolimit : W.base.NoLimit
  seer : W.base.NoSeer
  tree : W.prog.given.tree = none

def UpTo (o : Obj) (h : Heap) (a : Addr) : Prop := ∃ sl, h.get? a = some { o with slots := sl } ∧ ((∀ es ep, o.data ≠ .dict es ep) → sl = o.slots)
theorem UpTo.keeps {o : Obj} {h h' : Heap} {a : Addr} (x : UpTo o h a) (k : ∀ b o, h.get? b = some o → h'.get? b = some o) : UpTo o h' a := let ⟨sl, e, r⟩ := x; ⟨sl, k _ _ e, r⟩
theorem UpTo.of {o : Obj} {h : Heap} {a : Addr} (e : h.get? a = some o) : UpTo o h a := ⟨o.slots, e, fun _ => rfl⟩

def VarAt (h : Heap) (env : Env) (x : Str) (u : Value) : Prop :=
  (x == ("__debug__" : Str)) = false ∧ ((env.kindOf x = some .local ∧ ∃ m, h.Ns env.locals m ∧ m x = some u) ∨
    (∃ c, (env.kindOf x = some .cell ∨ (env.kindOf x = some .free ∧ (x == ("__classdict__" : Str)) = false)) ∧ env.cells.lookup x = some c ∧ h.IsCell c (some u)))
theorem VarAt.keeps {h h' : Heap} {env : Env} {x : Str} {u : Value} (v : VarAt h env x u) (k : ∀ b o, h.get? b = some o → h'.get? b = some o) : VarAt h' env x u := by
  obtain ⟨hd, ⟨hl, m, hn, hm⟩ | ⟨c, hk, hc, hv⟩⟩ := v
  · exact ⟨hd, .inl ⟨hl, m, hn.keeps k, hm⟩⟩
  · exact ⟨hd, .inr ⟨c, hk, hc, hv.keeps k⟩⟩

structure Rep (W : Wk) (hid g : PMap) (env : Env) (vars : Vars) (mu : Mu) (h : Heap) : Prop where
  bs : ∀ a o, W.base.get? a = some o → g a = some o
  gs : ∀ a o, g a = some o → h.get? a = some o
  hs : ∀ a o, hid a = some o → UpTo o h a
  gh : ∀ a o, g a = some o → hid a = none
  ns : ∃ m, h.Ns env.locals m
  vs : ∀ x d, vars.lookup x = some d → ∃ u, Is g d u ∧ VarAt h env x u
  gL : g env.locals = none
  hL : hid env.locals = none
  cell : ∀ x c, env.cells.lookup x = some c → (∃ v, h.IsCell c v) ∧ g c = none ∧ c ≠ env.locals
  cnd : ∀ x y c, env.cells.lookup x = some c → env.cells.lookup y = some c → x = y
  mus : ∀ a l, (a, l) ∈ mu → ∃ vs n, h.get? a = some (lobj vs n) ∧ Iss g l vs.toList ∧ g a = none ∧ hid a = none ∧ a ≠ env.locals ∧ ∀ x c, env.cells.lookup x = some c → c ≠ a
  mnd : (mu.map (·.1)).Nodup

structure RepE (W : Wk) (hid g : PMap) (h : Heap) : Prop where
  bs : ∀ a o, W.base.get? a = some o → g a = some o
  gs : ∀ a o, g a = some o → h.get? a = some o
  hs : ∀ a o, hid a = some o → UpTo o h a
  gh : ∀ a o, g a = some o → hid a = none
theorem Rep.e {W hid g env vars mu h} (R : Rep W hid g env vars mu h) : RepE W hid g h := ⟨R.bs, R.gs, R.hs, R.gh⟩

abbrev Kept (h h' : Heap) : Prop := ∀ b o, h.get? b = some o → h'.get? b = some o

theorem Rep.keeps {W hid g env vars mu h h'} (R : Rep W hid g env vars mu h) (k : Kept h h') : Rep W hid g env vars mu h' where
  bs := R.bs
  gs := fun a o e => k _ _ (R.gs a o e)
  hs := fun a o e => (R.hs a o e).keeps k
  gh := R.gh
  ns := let ⟨m, hn⟩ := R.ns; ⟨m, hn.keeps k⟩
  vs := fun x d e => let ⟨u, i, v⟩ := R.vs x d e; ⟨u, i, v.keeps k⟩
  gL := R.gL
  hL := R.hL
  cell := fun x c e => let ⟨⟨v, hc⟩, r⟩ := R.cell x c e; ⟨⟨v, hc.keeps k⟩, r⟩
  cnd := R.cnd
  mus := fun a l e => let ⟨vs, n, x, r⟩ := R.mus a l e; ⟨vs, n, k _ _ x, r⟩
  mnd := R.mnd

def ins (g : PMap) (a : Addr) (o : Obj) : PMap := fun b => if b = a then some o else g b
theorem ins_same (g : PMap) (a : Addr) (o : Obj) : ins g a o a = some o := if_pos rfl
theorem ins_other {g : PMap} {a b : Addr} {o : Obj} (h : b ≠ a) : ins g a o b = g b := if_neg h
theorem Rep.gnone {W hid g env vars mu h} (R : Rep W hid g env vars mu h) {a : Addr} (ha : h.get? a = none) : g a = none := by
  cases e : g a with
  | none => rfl
  | some o => rw [R.gs a o e] at ha; cases ha
theorem Rep.hnone {W hid g env vars mu h} (R : Rep W hid g env vars mu h) {a : Addr} (ha : h.get? a = none) : hid a = none := by
  cases e : hid a with
  | none => rfl
  | some o => obtain ⟨sl, x, _⟩ := R.hs a o e; rw [x] at ha; cases ha
theorem le_ins {g : PMap} {a : Addr} {o : Obj} (h : g a = none) : Le g (ins g a o) := fun b o' e => by
  by_cases q : b = a
  · subst q; rw [h] at e; cases e
  · rw [ins_other q]; exact e

theorem Rep.freeze {W hid g env vars mu h h'} (R : Rep W hid g env vars mu h) (k : Kept h h') {a : Addr} {o : Obj} (ha : h.get? a = none) (ho : h'.get? a = some o) :
    Rep W hid (ins g a o) env vars mu h' ∧ Le g (ins g a o) := by
  have l := le_ins (o := o) (R.gnone ha)
  have ne : ∀ {b o'}, h.get? b = some o' → b ≠ a := fun e q => by rw [q, ha] at e; cases e
  have R' := R.keeps k
  obtain ⟨m, hn⟩ := R.ns
  have hL : env.locals ≠ a := by obtain ⟨_, _, _, e, _⟩ := hn; exact ne e
  refine ⟨⟨fun b o' e => l _ _ (R.bs b o' e), fun b o' e => ?_, R'.hs, fun b o' e => ?_, R'.ns, fun x d e => let ⟨u, i, v⟩ := R'.vs x d e; ⟨u, i.mono l, v⟩, ?_, R.hL, fun x c e => ?_, R.cnd, fun b lb e => ?_, R.mnd⟩, l⟩
  · by_cases q : b = a
    · subst q; rw [ins_same] at e; cases e; exact ho
    · rw [ins_other q] at e; exact k _ _ (R.gs b o' e)
  · by_cases q : b = a
    · subst q; exact R.hnone ha
    · rw [ins_other q] at e; exact R.gh b o' e
  · rw [ins_other hL]; exact R.gL
  · obtain ⟨hc, hg, hx⟩ := R'.cell x c e
    obtain ⟨⟨v', hc'⟩, _⟩ := R.cell x c e
    have : c ≠ a := by obtain ⟨_, e, _⟩ := hc'; exact ne e
    exact ⟨hc, by rw [ins_other this]; exact hg, hx⟩
  · obtain ⟨vs, n, x, i, hg, r⟩ := R.mus b lb e
    exact ⟨vs, n, k _ _ x, i.mono l, by rw [ins_other (ne x)]; exact hg, r⟩

theorem Rep.fresh_size {h : Heap} : h.get? h.objs.size = none := by
  cases e : h.get? h.objs.size with
  | none => rfl
  | some o => exact absurd (Heap.lt_size e) (Nat.lt_irrefl _)
theorem kept_push (h : Heap) (o : Obj) : Kept h (h.push o) := fun _ _ e => Heap.get?_push_of_some _ e
theorem kept_trans {h h' h'' : Heap} (a : Kept h h') (b : Kept h' h'') : Kept h h'' := fun x o e => b x o (a x o e)

def AsList (mu : Mu) (d : PV) (l : List PV) : Prop := d = .list l ∨ ∃ a, d = .loc a ∧ (a, l) ∈ mu
theorem AsList.list {mu l} : AsList mu (.list l) l := .inl rfl
theorem AsList.get {W hid g env vars mu h d l u} (x : AsList mu d l) (R : Rep W hid g env vars mu h) (i : Is g d u) : ∃ a vs, u = .ref a ∧ h.IsList a vs ∧ Iss g l vs.toList := by
  rcases x with rfl | ⟨a, rfl, hm⟩
  · cases i with
    | list e r => exact ⟨_, _, rfl, ⟨_, R.gs _ _ e, rfl, _, rfl⟩, r⟩
  · cases i
    obtain ⟨vs, n, e, r, _⟩ := R.mus a l hm
    exact ⟨a, vs, rfl, ⟨_, e, rfl, n, rfl⟩, r⟩

def Ev (W : Wk) (A : Around) (hid : PMap) (env : Env) (vars : Vars) (mu : Mu) (e : Expr) (d : PV) : Prop :=
  ∀ g h t (Q : Value → Shared → Prop) (E : Value → Shared → Prop), Rep W hid g env vars mu h →
    (∀ u g' h' t', Le g g' → Rep W hid g' env vars mu h' → Is g' d u → Q u (W.S h' t')) → wpAny W.M A (eval e env) Q E (W.S h t)

def Tr (W : Wk) (A : Around) (hid : PMap) (env : Env) (vars : Vars) (mu : Mu) (e : Expr) (b : Bool) : Prop :=
  ∀ g h t (Q : Bool → Shared → Prop) (E : Value → Shared → Prop), Rep W hid g env vars mu h →
    (∀ g' h' t', Le g g' → Rep W hid g' env vars mu h' → Q b (W.S h' t')) → wpAny W.M A (isTrue e env (eval e env)) Q E (W.S h t)

def Op (W : Wk) (A : Around) (hid : PMap) (env : Env) (vars : Vars) (mu : Mu) (ds : List PV) (f : List Value → Sem Value) (d : PV) : Prop :=
  ∀ g h t us (Q : Value → Shared → Prop) (E : Value → Shared → Prop), Rep W hid g env vars mu h → Iss g ds us →
    (∀ u g' h' t', Le g g' → Rep W hid g' env vars mu h' → Is g' d u → Q u (W.S h' t')) → wpAny W.M A (f us) Q E (W.S h t)

def EvArgs (W : Wk) (A : Around) (hid : PMap) (env : Env) (vars : Vars) (mu : Mu) (es : List Expr) (ds : List PV) : Prop :=
  ∀ pos g h t (Q : List Value → Shared → Prop) (E : Value → Shared → Prop), Rep W hid g env vars mu h →
    (∀ us g' h' t', Le g g' → Rep W hid g' env vars mu h' → Iss g' ds us → Q us (W.S h' t')) → wpAny W.M A (spliced (backTo pos (starEach es env))) Q E (W.S h t)

structure GName (W : Wk) (env : Env) (x : Str) (v : Value) : Prop where
  kind : env.scope.kind = .function
  glob : env.globals = mainGlobals
  bn : env.builtins = builtinsNs
  k : env.kindOf x = some .globalImplicit
  db : (x == ("__debug__" : Str)) = false
  v : W.mg x = some v ∨ (W.mg x = none ∧ x ≠ "__name__" ∧ bootBuiltins x = some v)

section
variable {W : Wk} {A : Around} {hid : PMap} {env : Env} {vars : Vars} {mu : Mu}

theorem ev_name {x : Str} {pos : Pos} {d : PV} (hd : vars.lookup x = some d) (hk : env.scope.kind = .function) : Ev W A hid env vars mu (.Name x pos) d := by
  intro g h t Q E R k
  obtain ⟨u, i, hdb, ⟨hl, m, hn, hm⟩ | ⟨c, hx, hc, hv⟩⟩ := R.vs x d hd
  · exact wpAny_Name (wpAny_loadName_local hk hl hn hm (k u g h t (Le.refl g) R i)) hdb
  · rcases hx with hx | ⟨hx, hcd⟩
    · exact wpAny_Name (wpAny_loadName_cell hk hx hc hv (k u g h t (Le.refl g) R i)) hdb
    · exact wpAny_Name (wpAny_loadName_free hk hx hc hv (k u g h t (Le.refl g) R i) hcd) hdb

theorem ev_int {i : Int} {k : Nat} {pos : Pos} : Ev W A hid env vars mu (.Constant (.int i) k pos) (.int i) :=
  fun g h t _ _ R kk => wpAny_Constant_int (kk _ g h _ (Le.refl g) R .int)
theorem ev_bool {b : Bool} {k : Nat} {pos : Pos} : Ev W A hid env vars mu (.Constant (.bool b) k pos) (.bool b) :=
  fun g h t _ _ R kk => wpAny_pure (kk _ g h _ (Le.refl g) R .bool)
theorem ev_none {k : Nat} {pos : Pos} : Ev W A hid env vars mu (.Constant .none k pos) .none :=
  fun g h t _ _ R kk => wpAny_pure (kk _ g h _ (Le.refl g) R .none)
theorem ev_str {x : Str} {k : Nat} {pos : Pos} : Ev W A hid env vars mu (.Constant (.str x) k pos) (.str x) :=
  fun g h t _ _ R kk => (fun Γ p _ => by
    show Sem.wp _ Γ (mkText x) _ _ p _
    rw [Sem.wp_cmd_mkText]; exact kk _ g h _ (Le.refl g) R .str)

theorem ev_binop {l r : Expr} {op : Operator} {pos : Pos} {a b d : PV} (ha : Ev W A hid env vars mu l a) (hb : Ev W A hid env vars mu r b)
    (hop : ∀ g h t u v Q E, Rep W hid g env vars mu h → Is g a u → Is g b v → (∀ x g' h' t', Le g g' → Rep W hid g' env vars mu h' → Is g' d x → Q x (W.S h' t')) → wpAny W.M A (binaryOp op u v) Q E (W.S h t)) :
    Ev W A hid env vars mu (.BinOp l op r pos) d := by
  intro g h t Q E R k
  refine wpAny_BinOp (ha g h t _ E R fun u g1 h1 t1 l1 R1 i1 => hb g1 h1 t1 _ E R1 fun v g2 h2 t2 l2 R2 i2 => ?_)
  exact hop g2 h2 t2 u v _ E R2 (i1.mono l2) i2 fun x g3 h3 t3 l3 R3 i3 => k x g3 h3 t3 ((l1.trans l2).trans l3) R3 i3

theorem ev_add {l r : Expr} {pos : Pos} {a b : Int} (ha : Ev W A hid env vars mu l (.int a)) (hb : Ev W A hid env vars mu r (.int b)) : Ev W A hid env vars mu (.BinOp l .Add r pos) (.int (a + b)) :=
  ev_binop ha hb fun g h t u v Q E R iu iv k => by
    cases iu; cases iv; exact P.add_int (k _ g h _ (Le.refl g) R .int)
theorem ev_sub {l r : Expr} {pos : Pos} {a b : Int} (ha : Ev W A hid env vars mu l (.int a)) (hb : Ev W A hid env vars mu r (.int b)) : Ev W A hid env vars mu (.BinOp l .Sub r pos) (.int (a - b)) :=
  ev_binop ha hb fun g h t u v Q E R iu iv k => by
    cases iu; cases iv; exact P.sub_int (k _ g h _ (Le.refl g) R .int)
theorem ev_mul {l r : Expr} {pos : Pos} {a b : Int} (ha : Ev W A hid env vars mu l (.int a)) (hb : Ev W A hid env vars mu r (.int b)) (hm : IntMulOk a b) : Ev W A hid env vars mu (.BinOp l .Mult r pos) (.int (a * b)) :=
  ev_binop ha hb fun g h t u v Q E R iu iv k => by
    cases iu; cases iv; exact P.mul_int (k _ g h _ (Le.refl g) R .int) hm
theorem ev_mod {l r : Expr} {pos : Pos} {a b : Int} (ha : Ev W A hid env vars mu l (.int a)) (hb : Ev W A hid env vars mu r (.int b)) (h0 : b ≠ 0) : Ev W A hid env vars mu (.BinOp l .Mod r pos) (.int (a.fmod b)) :=
  ev_binop ha hb fun g h t u v Q E R iu iv k => by
    cases iu; cases iv; exact mod_int' h0 (k _ g h _ (Le.refl g) R .int)
end
end Mine
end

section
open PySem PySem.W PyProof.Rows PySem.Calls
set_option linter.unusedVariables false
set_option maxRecDepth 100000
namespace Mine
section
variable {W : Wk} {A : Around} {hid : PMap} {env : Env} {vars : Vars} {mu : Mu}

theorem Rep.nsg {g h} (R : Rep W hid g env vars mu h) (O : W.Ok) : h.Ns mainGlobals W.mg := O.g.keeps fun b o e => R.gs _ _ (R.bs b o e)
theorem Rep.nsb {g h} (R : Rep W hid g env vars mu h) (O : W.Ok) : h.Ns builtinsNs W.mb := O.b.keeps fun b o e => R.gs _ _ (R.bs b o e)
theorem Rep.base {g h} (R : Rep W hid g env vars mu h) : Kept W.base h := fun b o e => R.gs _ _ (R.bs b o e)

theorem name_global {g h t x v pos} {Q : Value → Shared → Prop} {E} (O : W.Ok) (N : GName W env x v) (R : Rep W hid g env vars mu h) (k : Q v (W.S h t)) : wpAny W.M A (eval (.Name x pos) env) Q E (W.S h t) := by
  rcases N.v with e | ⟨e, hn, hb⟩
  · exact Name_function_global N.kind N.k (loadGlobal_global (by rw [N.glob]; exact R.nsg O) e k) N.db
  · exact Name_function_global N.kind N.k (loadGlobal_builtin (by rw [N.glob]; exact R.nsg O) e (by rw [N.bn]; exact R.nsb O) ((O.builtins x hn).trans hb) k) N.db

theorem Rep.alloc {g h} (R : Rep W hid g env vars mu h) (o : Obj) (hf : o.isFreed = false) : Rep W hid (ins g h.objs.size o) env vars mu (h.push o) ∧ Le g (ins g h.objs.size o) :=
  R.freeze (kept_push h o) Rep.fresh_size (Heap.get?_push_size _ hf)
theorem Rep.allocK {g₀ g h d} {o : Obj} {Q : Value → Shared → Prop} (R : Rep W hid g env vars mu h) (l : Le g₀ g) (k : ∀ u g' h' t', Le g₀ g' → Rep W hid g' env vars mu h' → Is g' d u → Q u (W.S h' t')) (hf : o.isFreed = false)
    {t' u} (i : Le g (ins g h.objs.size o) → Is (ins g h.objs.size o) d u) : Q u (W.S (h.push o) t') := k _ _ _ _ (l.trans (R.alloc o hf).2) (R.alloc o hf).1 (i (R.alloc o hf).2)

theorem evargs_nil : EvArgs W A hid env vars mu [] [] := fun pos g h t Q E R k => Calls.spliced_nil (k _ g h t (Le.refl g) R .nil)
theorem evargs_cons {e : Expr} {es : List Expr} {d ds} (he : Ev W A hid env vars mu e d) (hes : EvArgs W A hid env vars mu es ds)
    (hs : starEach (e :: es) env = (false, eval e env) :: starEach es env) : EvArgs W A hid env vars mu (e :: es) (d :: ds) := fun pos g h t Q E R k =>
  args_cons (he g h t _ E R fun u g1 h1 t1 l1 R1 i1 => hes pos g1 h1 t1 _ E R1 fun us g2 h2 t2 l2 R2 i2 => k _ g2 h2 t2 (l1.trans l2) R2 (.cons (i1.mono l2) i2)) hs

theorem ev_call_builtin {x : Str} {np pos : Pos} {id : String} {e : Expr} {es : List Expr} {ds : List PV} {d : PV} (O : W.Ok) (N : GName W env x (.builtin id)) (ha : EvArgs W A hid env vars mu (e :: es) ds)
    (hop : Op W A hid env vars mu ds (fun us => call (.builtin id) us) d)
    (hs : starEach (e :: es) env = (false, eval e env) :: starEach es env) (hp : (backTo pos (starEach es env)).any (·.1) = false) : Ev W A hid env vars mu (.Call (.Name x np) (e :: es) [] pos) d := fun g h t Q E R k =>
  Call_ (name_global O N R (PyProof.Rows.callWith_builtin1 (ha pos g h t _ E R fun us g1 h1 t1 l1 R1 i1 =>
    hop g1 h1 t1 us _ E R1 i1 fun u g2 h2 t2 l2 R2 i2 => k u g2 h2 t2 (l1.trans l2) R2 i2) hs hp)) rfl
theorem ev_call_type {x : Str} {np pos : Pos} {T : String} {e : Expr} {es : List Expr} {ds : List PV} {d : PV} (O : W.Ok) (N : GName W env x (.type T)) (ha : EvArgs W A hid env vars mu (e :: es) ds)
    (hop : Op W A hid env vars mu ds (fun us => call (.type T) us) d)
    (hs : starEach (e :: es) env = (false, eval e env) :: starEach es env) (hp : (backTo pos (starEach es env)).any (·.1) = false) : Ev W A hid env vars mu (.Call (.Name x np) (e :: es) [] pos) d := fun g h t Q E R k =>
  Call_ (name_global O N R (PyProof.Rows.callWith_type1 (ha pos g h t _ E R fun us g1 h1 t1 l1 R1 i1 =>
    hop g1 h1 t1 us _ E R1 i1 fun u g2 h2 t2 l2 R2 i2 => k u g2 h2 t2 (l1.trans l2) R2 i2) hs hp)) rfl

theorem op_len {d l} (hl : AsList mu d l) (hf : l.length < 2 ^ 62) : Op W A hid env vars mu [d] (fun us => call (.builtin "len") us) (.int l.length) := fun g h t us Q E R i k => by
  cases i with
  | cons i r =>
    cases r
    obtain ⟨a, vs, rfl, h1, h2⟩ := hl.get R i
    have e : vs.size = l.length := by have := h2.length; simpa using this
    refine call_len_list h1 (by rw [e]; omega) ?_
    rw [e]
    exact k _ g h _ (Le.refl g) R .int
theorem op_sum {d} {ns : List Int} (hh : A.handled = none) (hl : AsList mu d (ns.map .int)) : Op W A hid env vars mu [d] (fun us => call (.builtin "sum") us) (.int ns.sum) := fun g h t us Q E R i k => by
  cases i with
  | cons i r =>
    cases r
    obtain ⟨a, vs, rfl, h1, h2⟩ := hl.get R i
    have hi := h2.toInts
    obtain ⟨xs, hx⟩ := hi.allInts.items
    rw [Array.toArray_toList] at hx
    subst hx
    refine sum_intListG hh h1 fun h' tk t' hk => ?_
    have hn := hi.numsOf
    rw [preSum_eq, List.take_of_length_le (by simp)]
    rw [nums_intItems] at hn
    rw [hn]
    exact k _ g h' _ (Le.refl g) (R.keeps hk) .int
theorem op_abs {n : Int} : Op W A hid env vars mu [.int n] (fun us => call (.builtin "abs") us) (.int (n.natAbs : Int)) := fun g h t us Q E R i k => by
  cases i with
  | cons i r =>
    cases r; cases i
    refine call_abs_int fun u tk => ?_
    have e : (if n < 0 then -n else n) = (n.natAbs : Int) := by split <;> omega
    rw [e]
    exact k _ g h _ (Le.refl g) R .int
theorem op_int {n : Int} : Op W A hid env vars mu [.int n] (fun us => call (.type "int") us) (.int n) := fun g h t us Q E R i k => by
  cases i with
  | cons i r =>
    cases r; cases i
    exact call_int_int (k _ g h _ (Le.refl g) R .int)
theorem op_range1 {n : Int} : Op W A hid env vars mu [.int n] (fun us => call (.type "range") us) (.rng 0 n) := fun g h t us Q E R i k => by
  cases i with
  | cons i r =>
    cases r; cases i
    refine call_range_1 ?_
    exact R.allocK (Le.refl g) k rfl fun _ => .rng (ins_same _ _ _)
theorem ev_tuple {es : List Expr} {ds n pos} (ha : EvArgs W A hid env vars mu es ds) (hl : ds.length ≤ 1000) : Ev W A hid env vars mu (.Tuple es n pos) (.tup ds) := fun g h t Q E R k =>
  Tuple_ (ha pos g h t _ E R fun us g1 h1 t1 l1 R1 i1 => by
    refine wpAny_newObj_type ?_ (by show us.toArray.size ≤ sizeLine; rw [List.size_toArray, i1.length, sizeLine_eq]; omega)
    exact R1.allocK l1 k rfl fun l => .tup (ins_same _ _ _) (by simpa using i1.mono l))
theorem ev_list {es : List Expr} {ds pos} (ha : EvArgs W A hid env vars mu es ds) (hl : ds.length ≤ 1000) : Ev W A hid env vars mu (.List es pos) (.list ds) := fun g h t Q E R k =>
  List_ (ha pos g h t _ E R fun us g1 h1 t1 l1 R1 i1 => by
    refine wpAny_newObj_type ?_ (by show us.toArray.size ≤ sizeLine; rw [List.size_toArray, i1.length, sizeLine_eq]; omega)
    exact R1.allocK l1 k rfl fun l => .list (ins_same _ _ _) (by simpa using i1.mono l))

theorem ev_item {v s : Expr} {pos d i r} (hv : Ev W A hid env vars mu v d) (hs : Ev W A hid env vars mu s i)
    (hop : ∀ g h t u w Q E, Rep W hid g env vars mu h → Is g d u → Is g i w → (∀ x g' h' t', Le g g' → Rep W hid g' env vars mu h' → Is g' r x → Q x (W.S h' t')) → wpAny W.M A (subscriptTail v s u w) Q E (W.S h t)) :
    Ev W A hid env vars mu (.Subscript v s pos) r := fun g h t Q E R k =>
  Subscript_ (hv g h t _ E R fun u g1 h1 t1 l1 R1 i1 => hs g1 h1 t1 _ E R1 fun w g2 h2 t2 l2 R2 i2 =>
    hop g2 h2 t2 u w Q E R2 (i1.mono l2) i2 fun x g3 h3 t3 l3 R3 i3 => k x g3 h3 t3 ((l1.trans l2).trans l3) R3 i3)
end
end Mine
end

section
open PySem PySem.W PyProof.Rows PySem.Calls PySem.SeqAt
set_option linter.unusedVariables false
set_option maxRecDepth 100000
namespace Mine
section
variable {W : Wk} {A : Around} {hid : PMap} {env : Env} {vars : Vars} {mu : Mu}

structure AOk (W : Wk) (A : Around) (n : Nat) : Prop where
  handled : A.handled = none
  depth : A.depth + n ≤ 500
  units : A.units + 3 * n ≤ 4000
  frames : ∃ e l, A.frames = some (e :: l) ∧ e.scope.isGenerator = false ∧ e.scope.isCoroutine = false ∧ e.builtins = builtinsNs ∧ e.globals = mainGlobals

theorem pyl {n g h t} (O : W.Ok) (a : AOk W A n) (R : Rep W hid g env vars mu h) : PylongRoom W.M A (W.S h t) := by
  obtain ⟨e, l, h1, h2, h3, h4, h5⟩ := a.frames
  refine PylongRoom.of (O.nolimit.keeps R.base) ?_ (SeerAt.of (O.seer.keeps R.base) O.tree h1 h2 h3 h4 h5)
  have := a.depth
  show A.depth + 100 < 1000
  (first | lia | omega)

theorem ev_fdiv {n} {l r : Expr} {pos : Pos} {a b : Int} (O : W.Ok) (ao : AOk W A n) (ha : Ev W A hid env vars mu l (.int a)) (hb : Ev W A hid env vars mu r (.int b)) (h0 : b ≠ 0) : Ev W A hid env vars mu (.BinOp l .FloorDiv r pos) (.int (a.fdiv b)) :=
  ev_binop ha hb fun g h t u v Q E R iu iv k => by
    cases iu; cases iv; exact floordiv_int h0 (k _ g h _ (Le.refl g) R .int) (.inr (pyl O ao R))
theorem ev_neg {e : Expr} {pos : Pos} {a : Int} (ha : Ev W A hid env vars mu e (.int a)) : Ev W A hid env vars mu (.UnaryOp .USub e pos) (.int (-a)) := fun g h t Q E R k => by
  show wpAny _ _ (do let v ← eval e env; standAt pos; holding [v] (unaryOp .USub v)) _ _ _
  refine wpAny_bind (ha g h t _ E R fun u g1 h1 t1 l1 R1 i1 => wpAny_bind (wpAny_standAt (wpAny_holding ?_)))
  cases i1
  exact P.neg_int (k _ g1 h1 _ l1 R1 .int)

theorem sub_ops (s : Expr) (u w : Value) : ∃ ops, subscripted s false u w = operate ops (getItem u w) := by
  unfold subscripted; split <;> first | exact ⟨_, rfl⟩ | (rename_i hh; cases hh)

def idx (k : Int) (n : Nat) : Nat := if 0 ≤ k then k.toNat else (k + n).toNat

theorem ev_idx {v s : Expr} {pos d l k r} (hv : Ev W A hid env vars mu v d) (hs : Ev W A hid env vars mu s (.int k)) (hl : AsList mu d l) (h1 : -(l.length : Int) ≤ k) (h2 : k < l.length) (hn : l.length < 2 ^ 62)
    (hr : l[idx k l.length]? = some r) : Ev W A hid env vars mu (.Subscript v s pos) r :=
  ev_item hv hs fun g h t u w Q E R i j kk => by
    obtain ⟨a, vs, rfl, q1, q2⟩ := hl.get R i
    cases j
    rename_i tk
    obtain ⟨x, hx, ix⟩ := q2.get _ _ hr
    obtain ⟨ops, ho⟩ := sub_ops s (.ref a) (.int k tk)
    have hlen : vs.size = l.length := by have := q2.length; simpa using this
    refine tail_any q1.typeIs slot_list_getitem.lookup ?_ ho
    by_cases h0 : 0 ≤ k
    · rw [idx, if_pos h0] at hx
      exact wpAny_getItem_list q1 h0 (by (first | lia | omega)) (by simpa using hx) (kk x g h t (Le.refl g) R ix)
    · rw [idx, if_neg h0] at hx
      exact wpAny_getItem_list_neg q1 (by (first | lia | omega)) (by (first | lia | omega)) (by (first | lia | omega)) (by rw [hlen]; simpa using hx) (kk x g h t (Le.refl g) R ix)
theorem ev_tidx {v s : Expr} {pos l k r} (hv : Ev W A hid env vars mu v (.tup l)) (hs : Ev W A hid env vars mu s (.int k)) (h1 : 0 ≤ k) (h2 : k < l.length) (hn : l.length < 2 ^ 62)
    (hr : l[k.toNat]? = some r) : Ev W A hid env vars mu (.Subscript v s pos) r :=
  ev_item hv hs fun g h t u w Q E R i j kk => by
    cases i with
    | tup e q2 =>
      cases j
      rename_i a vs n tk
      obtain ⟨x, hx, ix⟩ := q2.get _ _ hr
      obtain ⟨ops, ho⟩ := sub_ops s (.ref a) (.int k tk)
      have hlen : vs.size = l.length := by have := q2.length; simpa using this
      have ht : IsTup h a vs := ⟨_, R.gs _ _ e, rfl, n, rfl⟩
      refine tail_any ht.typeIs slot_tuple_getitem.lookup (getItem_tuple (s := W.S h t) ht (by (first | lia | omega)) (by (first | lia | omega)) (j := k.toNat) ?_ (by simpa using hx) (kk x g h t (Le.refl g) R ix)) ho
      unfold seqIndex?
      rw [hlen]
      simp only [decide_eq_true_eq, Bool.and_eq_true]
      (repeat' split) <;> first | rfl | (first | lia | omega)

theorem ev_cmp {l r : Expr} {op : CmpOp} {pos : Pos} {a b d : PV} (ha : Ev W A hid env vars mu l a) (hb : Ev W A hid env vars mu r b) (hm : behindInMarks op r = false)
    (hop : Op W A hid env vars mu [a, b] (fun us => compareOp op (us.getD 0 .none) (us.getD 1 .none)) d) : Ev W A hid env vars mu (.Compare l [op] [r] pos) d := fun g h t Q E R k =>
  wpAny_Compare1 (ha g h t _ E R fun u g1 h1 t1 l1 R1 i1 => hb g1 h1 t1 _ E R1 fun v g2 h2 t2 l2 R2 i2 =>
    hop g2 h2 t2 [u, v] _ E R2 (.cons (i1.mono l2) (.cons i2 .nil)) fun x g3 h3 t3 l3 R3 i3 => k x g3 h3 t3 ((l1.trans l2).trans l3) R3 i3) hm
theorem tr_cmp {l r : Expr} {op : CmpOp} {pos : Pos} {a b : PV} {c : Bool} (ha : Ev W A hid env vars mu l a) (hb : Ev W A hid env vars mu r b) (hm : behindInMarks op r = false)
    (hop : Op W A hid env vars mu [a, b] (fun us => compareOp op (us.getD 0 .none) (us.getD 1 .none)) (.bool c)) : Tr W A hid env vars mu (.Compare l [op] [r] pos) c := fun g h t Q E R k =>
  wpAny_isTrue_Compare1 (ha g h t _ E R fun u g1 h1 t1 l1 R1 i1 => hb g1 h1 t1 _ E R1 fun v g2 h2 t2 l2 R2 i2 =>
    hop g2 h2 t2 [u, v] _ E R2 (.cons (i1.mono l2) (.cons i2 .nil)) fun x g3 h3 t3 l3 R3 i3 => by cases i3; exact wpAny_truthy_bool (k g3 h3 t3 ((l1.trans l2).trans l3) R3)) hm

theorem op2 {a b d : PV} {f : Value → Value → Sem Value} (h : ∀ g h t u v Q E, Rep W hid g env vars mu h → Is g a u → Is g b v → (∀ x g' h' t', Le g g' → Rep W hid g' env vars mu h' → Is g' d x → Q x (W.S h' t')) → wpAny W.M A (f u v) Q E (W.S h t)) :
    Op W A hid env vars mu [a, b] (fun us => f (us.getD 0 .none) (us.getD 1 .none)) d := fun g h' t us Q E R i k => by
  cases i with
  | cons i r => cases r with
    | cons j r => cases r; exact h g h' t _ _ Q E R i j k

theorem c_lt {a b : Int} : Op W A hid env vars mu [.int a, .int b] (fun us => compareOp .Lt (us.getD 0 .none) (us.getD 1 .none)) (.bool (decide (a < b))) :=
  op2 fun g h t u v Q E R i j k => by cases i; cases j; exact P.lt_int (k _ g h t (Le.refl g) R .bool)
theorem c_gt {a b : Int} : Op W A hid env vars mu [.int a, .int b] (fun us => compareOp .Gt (us.getD 0 .none) (us.getD 1 .none)) (.bool (decide (a > b))) :=
  op2 fun g h t u v Q E R i j k => by cases i; cases j; exact P.gt_int (k _ g h t (Le.refl g) R .bool)
theorem c_ge {a b : Int} : Op W A hid env vars mu [.int a, .int b] (fun us => compareOp .GtE (us.getD 0 .none) (us.getD 1 .none)) (.bool (decide (a ≥ b))) :=
  op2 fun g h t u v Q E R i j k => by cases i; cases j; exact P.ge_int (k _ g h t (Le.refl g) R .bool)
theorem c_eq {a b : Int} : Op W A hid env vars mu [.int a, .int b] (fun us => compareOp .Eq (us.getD 0 .none) (us.getD 1 .none)) (.bool (a == b)) :=
  op2 fun g h t u v Q E R i j k => by cases i; cases j; exact P.eq_int (k _ g h t (Le.refl g) R .bool)
theorem c_ne {a b : Int} : Op W A hid env vars mu [.int a, .int b] (fun us => compareOp .NotEq (us.getD 0 .none) (us.getD 1 .none)) (.bool (a != b)) :=
  op2 fun g h t u v Q E R i j k => by cases i; cases j; exact P.ne_int (k _ g h t (Le.refl g) R .bool)
theorem c_eqs {a b : Str} : Op W A hid env vars mu [.str a, .str b] (fun us => compareOp .Eq (us.getD 0 .none) (us.getD 1 .none)) (.bool (a == b)) :=
  op2 fun g h t u v Q E R i j k => by cases i; cases j; exact PyProof.Rows.eq_str (k _ g h t (Le.refl g) R .bool)
def PV.isNone : PV → Bool
  | .none => true
  | _ => false
theorem c_isnn {a : PV} (ha : ∀ v, a ≠ .val v) : Op W A hid env vars mu [a, .none] (fun us => compareOp .IsNot (us.getD 0 .none) (us.getD 1 .none)) (.bool (!a.isNone)) :=
  op2 fun g h t u v Q E R i j k => by
    cases j
    cases i <;> first | exact absurd rfl (ha _) | exact isnot_none_none (k _ g h t (Le.refl g) R .bool) | exact isnot_none_ne (by intro q; cases q) (k _ g h t (Le.refl g) R .bool)
theorem c_ins {d} {ns : List Str} {x : Str} (hl : AsList mu d (ns.map .str)) : Op W A hid env vars mu [.str x, d] (fun us => compareOp .In (us.getD 0 .none) (us.getD 1 .none)) (.bool (ns.any (· == x))) :=
  op2 fun g h t u v Q E R i j k => by
    obtain ⟨a, vs, rfl, q1, q2⟩ := hl.get R j
    cases i
    rename_i tk
    have key : ∀ {ns : List Str} {vs : List Value}, Iss g (ns.map .str) vs → vs.any (fun v => match v with | .str y _ => y == x | _ => false) = ns.any (· == x) ∧ ∀ y ∈ vs, ∃ z tz, y = .str z tz := by
      intro ns
      induction ns with
      | nil => intro vs h; cases h; exact ⟨rfl, fun y hy => nomatch hy⟩
      | cons n r ih =>
        intro vs h
        cases h with
        | cons h1 h2 =>
          cases h1
          obtain ⟨k1, k2⟩ := ih h2
          refine ⟨by simp [k1], fun y hy => ?_⟩
          rcases List.mem_cons.mp hy with rfl | hy
          · exact ⟨_, _, rfl⟩
          · exact k2 y hy
    obtain ⟨k1, k2⟩ := key q2
    refine in_listAt (fun v => match v with | .str y _ => y == x | _ => false) q1 (fun y hy => ?_) ?_
    · obtain ⟨z, tz, rfl⟩ := k2 y (by simpa using hy)
      exact fun prog w E Q hq => eqBool_str hq
    · rw [show vs.any (fun v => match v with | .str y _ => y == x | _ => false) = ns.any (· == x) by rw [← k1]; simp]
      exact k _ g h t (Le.refl g) R .bool
end
end Mine
end

section
open PySem PySem.W PyProof.Rows PySem.Calls PySem.SeqAt
set_option linter.unusedVariables false
set_option maxRecDepth 100000
namespace Mine

theorem perm_sorted_eq {l₁ l₂ : List Int} (p : l₁.Perm l₂) (h₁ : l₁.Pairwise (· ≤ ·)) (h₂ : l₂.Pairwise (· ≤ ·)) : l₁ = l₂ := by
  induction l₁ generalizing l₂ with
  | nil => exact (List.nil_perm.mp p).symm
  | cons a r ih =>
    cases l₂ with
    | nil => exact absurd p.symm (by simp)
    | cons b s =>
      have ha := List.pairwise_cons.mp h₁
      have hb := List.pairwise_cons.mp h₂
      have e : a = b := by
        have m1 : a ∈ b :: s := p.subset List.mem_cons_self
        have m2 : b ∈ a :: r := p.symm.subset List.mem_cons_self
        rcases List.mem_cons.mp m1 with e | m1
        · exact e
        · rcases List.mem_cons.mp m2 with e | m2
          · exact e.symm
          · have := ha.1 b m2; have := hb.1 a m1; (first | lia | omega)
      subst e
      rw [ih (List.Perm.cons_inv p) ha.2 hb.2]
def sortI (l : List Int) : List Int := l.mergeSort (fun a b => decide (a ≤ b))
theorem sortI_perm (l : List Int) : (sortI l).Perm l := List.mergeSort_perm _ _
theorem sortI_sorted (l : List Int) : (sortI l).Pairwise (· ≤ ·) := by
  have := List.pairwise_mergeSort (le := fun a b : Int => decide (a ≤ b)) (fun a b c h1 h2 => by simp at *; (first | lia | omega)) (fun a b => by simp; (first | lia | omega)) l
  exact this.imp (by simp)
theorem eq_sortI {l l' : List Int} (p : l'.Perm l) (h : l'.Pairwise (· ≤ ·)) : l' = sortI l := perm_sorted_eq (p.trans (sortI_perm l).symm) h (sortI_sorted l)

section
variable {W : Wk} {A : Around} {hid : PMap} {env : Env} {vars : Vars} {mu : Mu}

theorem op_sorted {d} {ns : List Int} (hl : AsList mu d (ns.map .int)) (h64 : ns.length < 64) : Op W A hid env vars mu [d] (fun us => call (.builtin "sorted") us) (.list ((sortI ns).map .int)) := fun g h t us Q E R i k => by
  cases i with
  | cons i r =>
    cases r
    obtain ⟨a, vs, rfl, q1, q2⟩ := hl.get R i
    have hi := q2.toInts
    have hlen : vs.toList.length = ns.length := by have := q2.length; simpa using this
    refine sorted_ints (vs := vs.toList) (by simpa using q1) hi (by (first | lia | omega)) fun out ns' a1 a2 a3 => ?_
    obtain ⟨e, he⟩ := sortedAll_at h vs.toList out
    obtain ⟨R', l⟩ := R.freeze (h' := sortedAll h vs.toList out) (fun _ _ => sortedAll_old) (a := h.objs.size + 1) (by
      cases q : h.get? (h.objs.size + 1) with
      | none => rfl
      | some o => exact absurd (Heap.lt_size q) (Nat.not_lt.mpr (Nat.le_succ _))) he
    rw [← eq_sortI a2 a3] at k
    exact k _ _ _ _ l R' (.list (ins_same _ _ _) ((Iss.of_ints a1).mono l))
theorem op_max {d} {ns : List Int} {m : Int} (hh : A.handled = none) (hl : AsList mu d (ns.map .int)) (hm : m ∈ ns) (hx : ∀ a ∈ ns, a ≤ m) : Op W A hid env vars mu [d] (fun us => call (.builtin "max") us) (.int m) := fun g h t us Q E R i k => by
  cases i with
  | cons i r =>
    cases r
    obtain ⟨a, vs, rfl, q1, q2⟩ := hl.get R i
    have hi := q2.toInts
    obtain ⟨xs, e⟩ := hi.allInts.items
    have hns : ns = xs.toList.map (·.1) := by rw [← hi.numsOf, ← nums_intItems, ← e]
    have hsz : 0 < xs.size := by
      have h3 := List.length_pos_of_mem hm
      rw [hns, List.length_map, Array.length_toList] at h3; exact h3
    rw [Array.toArray_toList] at e
    rw [e] at q1
    refine max_intList hh q1 hsz fun v h' tk hv hk => ?_
    obtain ⟨t, rfl⟩ := intItems_at hv
    obtain ⟨h1, h2⟩ := argBest_gt (numAt xs) (xs.size - 1)
    have hall : ∀ a ∈ ns, a ≤ numAt xs (argBest (fun i j => decide (numAt xs i > numAt xs j)) (xs.size - 1)) := fun a ha => by
      rw [hns] at ha
      obtain ⟨j, hj, rfl⟩ := mem_getD ha
      rw [List.length_map, Array.length_toList] at hj
      rw [← numAt_eq]; exact h2 j (by (first | lia | omega))
    have hin : numAt xs (argBest (fun i j => decide (numAt xs i > numAt xs j)) (xs.size - 1)) ∈ ns := by
      rw [hns, numAt_eq]; exact getD_mem (by rw [List.length_map, Array.length_toList]; (first | lia | omega))
    have e2 : numAt xs (argBest (fun i j => decide (numAt xs i > numAt xs j)) (xs.size - 1)) = m := Int.le_antisymm (hx _ hin) (hall m hm)
    rw [e2]
    exact k _ g h' _ (Le.refl g) (R.keeps hk) .int
theorem op_max2 {a b : Int} (hh : A.handled = none) : Op W A hid env vars mu [.int a, .int b] (fun us => call (.builtin "max") us) (.int (max a b)) := fun g h t us Q E R i k => by
  cases i with
  | cons i r =>
    cases i
    cases r with
    | cons i r =>
      cases r; cases i
      refine max_two_ints hh fun h' tk hk => ?_
      split <;> rename_i hc
      · rw [show max a b = b by (first | lia | omega)] at k; exact k _ g h' _ (Le.refl g) (R.keeps hk) .int
      · rw [show max a b = a by (first | lia | omega)] at k; exact k _ g h' _ (Le.refl g) (R.keeps hk) .int
theorem op_min2 {a b : Int} (hh : A.handled = none) : Op W A hid env vars mu [.int a, .int b] (fun us => call (.builtin "min") us) (.int (min a b)) := fun g h t us Q E R i k => by
  cases i with
  | cons i r =>
    cases i
    cases r with
    | cons i r =>
      cases r; cases i
      refine min_two_ints hh fun h' tk hk => ?_
      split <;> rename_i hc
      · rw [show min a b = b by (first | lia | omega)] at k; exact k _ g h' _ (Le.refl g) (R.keeps hk) .int
      · rw [show min a b = a by (first | lia | omega)] at k; exact k _ g h' _ (Le.refl g) (R.keeps hk) .int

def PV.truth (mu : Mu) : PV → Bool → Prop
  | .none, b => b = false
  | .bool c, b => b = c
  | .int i, b => b = (i != 0)
  | .list l, b => b = (!l.isEmpty) ∧ l.length < 2 ^ 62
  | .loc a, b => ∃ l, (a, l) ∈ mu ∧ b = (!l.isEmpty) ∧ l.length < 2 ^ 62
  | _, _ => False
theorem truthy_list {g h t a l} {vs : Array Value} {Q : Bool → Shared → Prop} {E} (q1 : h.IsList a vs) (q2 : Iss g l vs.toList) (hs : vs.size < 2 ^ 62) (k : ∀ t', Q (!l.isEmpty) (W.S h t')) : wpAny W.M A (truthy (.ref a)) Q E (W.S h t) := by
  have e : (!l.isEmpty) = !vs.isEmpty := by
    have := q2.length
    obtain ⟨vs⟩ := vs
    cases l <;> cases vs <;> simp_all
  rw [e] at k
  exact wpAny_truthy_list q1 (by (first | lia | omega)) (k _)
theorem truthy_pv {g h t d u b} {Q : Bool → Shared → Prop} {E} (R : Rep W hid g env vars mu h) (i : Is g d u) (hb : d.truth mu b) (k : ∀ t', Q b (W.S h t')) : wpAny W.M A (truthy u) Q E (W.S h t) := by
  cases i with
  | none => cases hb; exact wpAny_pure (k t)
  | bool => cases hb; exact wpAny_truthy_bool (k t)
  | int => cases hb; exact P.truthy_int (k t)
  | str => exact hb.elim
  | tup => exact hb.elim
  | list e q =>
    obtain ⟨rfl, hb⟩ := hb
    exact truthy_list (g := g) ⟨_, R.gs _ _ e, rfl, _, rfl⟩ q (by have := q.length; simp at this; (first | lia | omega)) k
  | rng => exact hb.elim
  | loc =>
    obtain ⟨l, hm, rfl, hb⟩ := hb
    obtain ⟨vs, n, e, r, _⟩ := R.mus _ l hm
    exact truthy_list ⟨_, e, rfl, n, rfl⟩ r (by have := r.length; simp at this; (first | lia | omega)) k
  | val => exact hb.elim

theorem tr_of {e : Expr} {d b} (he : Ev W A hid env vars mu e d) (hb : d.truth mu b) (hf : ∀ v : Sem Value, isTrue e env v = (do let x ← v; standAt e.pos; holding [x] (truthy x))) : Tr W A hid env vars mu e b := fun g h t Q E R k => by
  rw [hf]
  refine wpAny_bind (he g h t _ E R fun u g1 h1 t1 l1 R1 i1 => wpAny_bind (wpAny_standAt (wpAny_holding ?_)))
  exact truthy_pv R1 i1 hb fun t' => k g1 h1 t' l1 R1
theorem tr_not {e : Expr} {pos b} (he : Tr W A hid env vars mu e b) : Tr W A hid env vars mu (.UnaryOp .Not e pos) (!b) := fun g h t Q E R k => by
  show wpAny _ _ (do return !(← isTrue e env (eval e env))) _ _ _
  exact wpAny_bind (he g h t _ E R fun g1 h1 t1 l1 R1 => wpAny_pure (k g1 h1 t1 l1 R1))
theorem all_and1 {es : List Expr} {a : Expr} (ha : Tr W A hid env vars mu a false) : ∀ g h t (Q : Bool → Shared → Prop) E, Rep W hid g env vars mu h → (∀ g' h' t', Le g g' → Rep W hid g' env vars mu h' → Q false (W.S h' t')) → wpAny W.M A (allTrue .And (a :: es) env) Q E (W.S h t) := fun g h t Q E R k => by
  show wpAny _ _ (do match BoolOp.And, ← isTrue a env (eval a env) with | .And, false => pure false | .Or, true => pure true | _, _ => allTrue .And es env) _ _ _
  exact wpAny_bind (ha g h t _ E R fun g1 h1 t1 l1 R1 => wpAny_pure (k g1 h1 t1 l1 R1))

inductive TrAll (W : Wk) (A : Around) (hid : PMap) (env : Env) (vars : Vars) (mu : Mu) (op : BoolOp) : List Expr → Bool → Prop where
  | nil : TrAll W A hid env vars mu op [] (op == .And)
  | stop {a es b} : Tr W A hid env vars mu a b → b = (op == .Or) → TrAll W A hid env vars mu op (a :: es) b
  | more {a es b c} : Tr W A hid env vars mu a b → b = (op == .And) → TrAll W A hid env vars mu op es c → TrAll W A hid env vars mu op (a :: es) c
theorem TrAll.run {op es b} (x : TrAll W A hid env vars mu op es b) : ∀ g h t (Q : Bool → Shared → Prop) E, Rep W hid g env vars mu h → (∀ g' h' t', Le g g' → Rep W hid g' env vars mu h' → Q b (W.S h' t')) → wpAny W.M A (allTrue op es env) Q E (W.S h t) := by
  induction x with
  | nil => intro g h t Q E R k; exact wpAny_pure (k g h t (Le.refl g) R)
  | @stop a es b ha hb =>
    intro g h t Q E R k
    show wpAny _ _ (do match op, ← isTrue a env (eval a env) with | .And, false => pure false | .Or, true => pure true | _, _ => allTrue op es env) _ _ _
    refine wpAny_bind (ha g h t _ E R fun g1 h1 t1 l1 R1 => ?_)
    subst hb
    cases op <;> exact wpAny_pure (k g1 h1 t1 l1 R1)
  | @more a es b c ha hb _ ih =>
    intro g h t Q E R k
    show wpAny _ _ (do match op, ← isTrue a env (eval a env) with | .And, false => pure false | .Or, true => pure true | _, _ => allTrue op es env) _ _ _
    refine wpAny_bind (ha g h t _ E R fun g1 h1 t1 l1 R1 => ?_)
    subst hb
    cases op <;> exact ih g1 h1 t1 Q E R1 fun g2 h2 t2 l2 R2 => k g2 h2 t2 (l1.trans l2) R2
theorem tr_bool {op es pos b} (x : TrAll W A hid env vars mu op es b) : Tr W A hid env vars mu (.BoolOp op es pos) b := fun g h t Q E R k => x.run g h t Q E R k

theorem ev_if {c a b : Expr} {pos d} {x : Bool} (hc : Tr W A hid env vars mu c x) (ht : x = true → Ev W A hid env vars mu a d) (he : x = false → Ev W A hid env vars mu b d) : Ev W A hid env vars mu (.IfExp c a b pos) d := fun g h t Q E R k => by
  show wpAny _ _ (do if ← isTrue c env (eval c env) then eval a env else eval b env) _ _ _
  refine wpAny_bind (hc g h t _ E R fun g1 h1 t1 l1 R1 => ?_)
  cases x
  · exact he rfl g1 h1 t1 Q E R1 fun u g2 h2 t2 l2 R2 i2 => k u g2 h2 t2 (l1.trans l2) R2 i2
  · exact ht rfl g1 h1 t1 Q E R1 fun u g2 h2 t2 l2 R2 i2 => k u g2 h2 t2 (l1.trans l2) R2 i2
end
end Mine
end

section
open PySem PySem.W PyProof.Rows PySem.Calls PySem.SeqAt
set_option linter.unusedVariables false
set_option maxRecDepth 100000
namespace Mine

set_option genInjectivity false in
set_option genSizeOfSpec false in
inductive Out where
  | next (vars : Vars) (mu : Mu)
  | brk (vars : Vars) (mu : Mu)
  | cont (vars : Vars) (mu : Mu)
  | ret (d : PV)
  | exc (x : Value) (vars : Vars) (mu : Mu)

def FlowOk (W : Wk) (hid : PMap) (env : Env) (K : Out → Prop) (g : PMap) : Flow → Shared → Prop
  | .next, s => ∃ vars mu g' h t, s = W.S h t ∧ K (.next vars mu) ∧ Le g g' ∧ Rep W hid g' env vars mu h
  | .brk, s => ∃ vars mu g' h t, s = W.S h t ∧ K (.brk vars mu) ∧ Le g g' ∧ Rep W hid g' env vars mu h
  | .cont, s => ∃ vars mu g' h t, s = W.S h t ∧ K (.cont vars mu) ∧ Le g g' ∧ Rep W hid g' env vars mu h
  | .ret u, s => ∃ d g' h t, s = W.S h t ∧ K (.ret d) ∧ Le g g' ∧ RepE W hid g' h ∧ Is g' d u

inductive XForm (W : Wk) (l : List Env) (g : PMap) (h₁ : Heap) (x : Value) (a : Addr) (h' : Heap) : Prop where
  | made (args : List Value) : Heap.MadeExcOf h₁ h' a x args → XForm W l g h₁ x a h'
  | fly (B : Heap) (a0 : Value) : Heap.FlyingW B l a x a0 h' → (∀ b o, g b = some o → B.get? b = some o) → (∀ b o, h₁.get? b = some o → (∀ es ep, o.data ≠ .dict es ep) → B.get? b = some o) → h₁.UpToSlots h' → XForm W l g h₁ x a h'
  | held (B : Heap) (a0 : Value) (L : Addr) (env : Env) (r : List Env) : l = env :: r → env.frame = some L → Heap.HeldW B l a x a0 L h' → (∀ b o, g b = some o → B.get? b = some o) → (∀ b o, h₁.get? b = some o → (∀ es ep, o.data ≠ .dict es ep) → B.get? b = some o) → h₁.UpToSlots h' → XForm W l g h₁ x a h'

def ExcOk (W : Wk) (A : Around) (hid : PMap) (env : Env) (K : Out → Prop) (g : PMap) (e : Value) (s : Shared) : Prop :=
  ∃ x vars mu g₁ h₁ a l h t, e = .ref a ∧ s = W.S h t ∧ K (.exc x vars mu) ∧ Le g g₁ ∧ Rep W hid g₁ env vars mu h₁ ∧ A.frames = some l ∧ XForm W l g₁ h₁ x a h

def Run (W : Wk) (A : Around) (hid : PMap) (env : Env) (vars : Vars) (mu : Mu) (t : Sem Flow) (K : Out → Prop) : Prop :=
  ∀ g h tk, Rep W hid g env vars mu h → wpAny W.M A t (FlowOk W hid env K g) (ExcOk W A hid env K g) (W.S h tk)

abbrev Exs (W : Wk) (A : Around) (hid : PMap) (env : Env) (vars : Vars) (mu : Mu) (b : List Stmt) (K : Out → Prop) : Prop := Run W A hid env vars mu (execs b env) K
abbrev Ex1 (W : Wk) (A : Around) (hid : PMap) (env : Env) (vars : Vars) (mu : Mu) (b : Stmt) (K : Out → Prop) : Prop := Run W A hid env vars mu (exec b env) K

section
variable {W : Wk} {A : Around} {hid : PMap} {env : Env} {vars : Vars} {mu : Mu} {K K' : Out → Prop}

theorem FlowOk.le {g g' f s} (l : Le g g') (x : FlowOk W hid env K g' f s) : FlowOk W hid env K g f s := by
  cases f with
  | ret u => obtain ⟨d, g'', h, t, e, k, l', r⟩ := x; exact ⟨d, g'', h, t, e, k, l.trans l', r⟩
  | next => obtain ⟨v, m, g'', h, t, e, k, l', r⟩ := x; exact ⟨v, m, g'', h, t, e, k, l.trans l', r⟩
  | brk => obtain ⟨v, m, g'', h, t, e, k, l', r⟩ := x; exact ⟨v, m, g'', h, t, e, k, l.trans l', r⟩
  | cont => obtain ⟨v, m, g'', h, t, e, k, l', r⟩ := x; exact ⟨v, m, g'', h, t, e, k, l.trans l', r⟩
theorem ExcOk.le {g g' e s} (l : Le g g') (x : ExcOk W A hid env K g' e s) : ExcOk W A hid env K g e s := by
  obtain ⟨x, vars, mu, g₁, h₁, a, fl, h, t, e1, e2, k, l', r⟩ := x
  exact ⟨x, vars, mu, g₁, h₁, a, fl, h, t, e1, e2, k, l.trans l', r⟩
theorem Run.imp {t} (x : Run W A hid env vars mu t K) (k : ∀ o, K o → K' o) : Run W A hid env vars mu t K' := fun g h tk R =>
  wpAny_mono (x g h tk R) (fun f s y => by
    cases f with
    | ret u => obtain ⟨d, g'', h, t, e, q, r⟩ := y; exact ⟨d, g'', h, t, e, k _ q, r⟩
    | next => obtain ⟨v, m, g'', h, t, e, q, r⟩ := y; exact ⟨v, m, g'', h, t, e, k _ q, r⟩
    | brk => obtain ⟨v, m, g'', h, t, e, q, r⟩ := y; exact ⟨v, m, g'', h, t, e, k _ q, r⟩
    | cont => obtain ⟨v, m, g'', h, t, e, q, r⟩ := y; exact ⟨v, m, g'', h, t, e, k _ q, r⟩) fun e s y => by
    obtain ⟨x, vars, mu, g₁, h₁, a, fl, h, t, e1, e2, q, r⟩ := y
    exact ⟨x, vars, mu, g₁, h₁, a, fl, h, t, e1, e2, k _ q, r⟩

def Sub (v' v : Vars) : Prop := ∀ x d, v'.lookup x = some d → v.lookup x = some d
theorem Sub.nil {v : Vars} : Sub [] v := fun x d e => by cases e
theorem Sub.cons {v' v : Vars} {x : Str} {d : PV} (h : v.lookup x = some d) (s : Sub v' v) : Sub ((x, d) :: v') v := fun y e q => by
  rw [List.lookup_cons] at q
  cases hb : y == x with
  | true => rw [hb] at q; cases q; rw [beq_iff_eq.mp hb]; exact h
  | false => rw [hb] at q; exact s y e q
theorem Rep.forget {g h v' m'} (R : Rep W hid g env vars mu h) (s : Sub v' vars) (hm : m'.Sublist mu) : Rep W hid g env v' m' h :=
  ⟨R.bs, R.gs, R.hs, R.gh, R.ns, fun x d e => R.vs x d (s x d e), R.gL, R.hL, R.cell, R.cnd, fun a l e => R.mus a l (hm.subset e), (hm.map _).nodup R.mnd⟩
theorem run_forget {t v' m'} (s : Sub v' vars) (hm : m'.Sublist mu) (x : Run W A hid env v' m' t K) : Run W A hid env vars mu t K := fun g h tk R => x g h tk (R.forget s hm)

theorem exs_nil (k : K (.next vars mu)) : Exs W A hid env vars mu [] K := fun g h tk R => wpAny_execs_nil ⟨vars, mu, g, h, tk, rfl, k, Le.refl g, R⟩
theorem exs_cons {st rest} (x : Ex1 W A hid env vars mu st K') (h1 : ∀ v m, K' (.next v m) → Exs W A hid env v m rest K) (h2 : ∀ o, K' o → (∀ v m, o ≠ .next v m) → K o) : Exs W A hid env vars mu (st :: rest) K := fun g h tk R => by
  show wpAny _ _ (do match ← exec st env with | .next => execs rest env | f => pure f) _ _ _
  refine wpAny_bind (wpAny_mono (x g h tk R) (fun f s y => ?_) fun e s y => ?_)
  · cases f with
    | next =>
      obtain ⟨v, m, g', h', t', rfl, q, l, R'⟩ := y
      exact wpAny_mono (h1 v m q g' h' t' R') (fun f s y => y.le l) fun e s y => y.le l
    | brk => obtain ⟨v, m, g'', h, t, e, q, r⟩ := y; exact wpAny_pure ⟨v, m, g'', h, t, e, h2 _ q (fun _ _ z => nomatch z), r⟩
    | cont => obtain ⟨v, m, g'', h, t, e, q, r⟩ := y; exact wpAny_pure ⟨v, m, g'', h, t, e, h2 _ q (fun _ _ z => nomatch z), r⟩
    | ret u => obtain ⟨d, g'', h, t, e, q, r⟩ := y; exact wpAny_pure ⟨d, g'', h, t, e, h2 _ q (fun _ _ z => nomatch z), r⟩
  · obtain ⟨x, vars, mu, g₁, h₁, a, fl, h, t, e1, e2, q, r⟩ := y
    exact ⟨x, vars, mu, g₁, h₁, a, fl, h, t, e1, e2, h2 _ q (fun _ _ z => nomatch z), r⟩
theorem exs_next {st rest v m} (x : Ex1 W A hid env vars mu st (· = .next v m)) (k : Exs W A hid env v m rest K) : Exs W A hid env vars mu (st :: rest) K :=
  exs_cons x (fun v' m' e => by cases e; exact k) fun o e h => by subst e; exact absurd rfl (h _ _)

inductive Sto (hid : PMap) (env : Env) (x : Str) : Prop where
  | loc : env.kindOf x = some .local → Sto hid env x
  | cell (c : Addr) : env.kindOf x = some .cell → env.cells.lookup x = some c → hid c = none → Sto hid env x

theorem lookup_cons_ne {α : Type} {x y : Str} {d : α} {v : List (Str × α)} (h : y ≠ x) : ((x, d) :: v).lookup y = v.lookup y := by
  rw [List.lookup_cons, beq_false_of_ne h]
theorem lookup_cons_eq {α : Type} {x : Str} {d : α} {v : List (Str × α)} : ((x, d) :: v).lookup x = some d := by
  rw [List.lookup_cons, beq_self_eq_true]

theorem store_K {x : Str} {d : PV} {u : Value} {g h t} {Q : Unit → Shared → Prop} {E} (hs : Sto hid env x) (hk : env.scope.kind = .function) (hd : (x == ("__debug__" : Str)) = false) (R : Rep W hid g env vars mu h) (i : Is g d u)
    (k : ∀ h' t', Rep W hid g env ((x, d) :: vars) mu h' → Q () (W.S h' t')) : wpAny W.M A (storeName env x u) Q E (W.S h t) := by
  have vsStep : ∀ {h'}, (∀ y e, vars.lookup y = some e → y ≠ x → ∃ w, Is g e w ∧ VarAt h' env y w) → VarAt h' env x u → ∀ y e, ((x, d) :: vars).lookup y = some e → ∃ w, Is g e w ∧ VarAt h' env y w := by
    intro h' h1 h2 y e q
    by_cases hy : y = x
    · subst hy; rw [lookup_cons_eq] at q; cases q; exact ⟨u, i, h2⟩
    · rw [lookup_cons_ne hy] at q; exact h1 y e q hy
  rcases hs with hl | ⟨c, hl, hc, hh⟩
  · obtain ⟨m, hn⟩ := R.ns
    refine wpAny_storeName_local hl hn (fun h' hn' hs' => ?_) (by rw [hk]; rfl)
    refine k h' _ ⟨R.bs, fun a o e => ?_, fun a o e => ?_, R.gh, ⟨_, hn'⟩, vsStep (fun y e q hy => ?_) ⟨hd, .inl ⟨hl, _, hn', if_pos rfl⟩⟩, R.gL, R.hL, fun y c e => ?_, R.cnd, fun a l e => ?_, R.mnd⟩
    · exact (hs'.2 a (fun q => by rw [q, R.gL] at e; cases e)).trans (R.gs a o e)
    · obtain ⟨sl, e1, e2⟩ := R.hs a o e
      exact ⟨sl, (hs'.2 a (fun q => by rw [q, R.hL] at e; cases e)).trans e1, e2⟩
    · obtain ⟨w, i', hd', ⟨hl', m', hn2, hm'⟩ | ⟨c, hk', hc', hv'⟩⟩ := R.vs y e q
      · have : m' y = m y := by
          obtain ⟨o1, es1, ep1, p1, p2, p3, p4⟩ := hn
          obtain ⟨o2, es2, ep2, q1, q2, q3, q4⟩ := hn2
          rw [p1] at q1; cases q1; rw [p2] at q2; cases q2
          rw [← q4, ← p4]
        exact ⟨w, i', hd', .inl ⟨hl', _, hn', by rw [if_neg hy, ← this]; exact hm'⟩⟩
      · exact ⟨w, i', hd', .inr ⟨c, hk', hc', hv'.sameBut hs' (R.cell y c hc').2.2⟩⟩
    · obtain ⟨⟨v, hv⟩, r⟩ := R.cell y c e
      exact ⟨⟨v, hv.sameBut hs' r.2⟩, r⟩
    · obtain ⟨vs, n, e1, r1, r2, r3, r4, r5⟩ := R.mus a l e
      exact ⟨vs, n, (hs'.2 a r4).trans e1, r1, r2, r3, r4, r5⟩
  · obtain ⟨⟨v₀, hv₀⟩, hgc, hcL⟩ := R.cell x c hc
    obtain ⟨m, hn⟩ := R.ns
    refine wpAny_storeName_cell hk hl hc hv₀ fun h' hv' hs' => ?_
    refine k h' _ ⟨R.bs, fun a o e => ?_, fun a o e => ?_, R.gh, ⟨m, hn.sameBut hs' (Ne.symm hcL)⟩, vsStep (fun y e q hy => ?_) ⟨hd, .inr ⟨c, .inl hl, hc, hv'⟩⟩, R.gL, R.hL, fun y c' e => ?_, R.cnd, fun a l e => ?_, R.mnd⟩
    · exact (hs'.2 a (fun q => by rw [q, hgc] at e; cases e)).trans (R.gs a o e)
    · obtain ⟨sl, e1, e2⟩ := R.hs a o e
      exact ⟨sl, (hs'.2 a (fun q => by rw [q, hh] at e; cases e)).trans e1, e2⟩
    · obtain ⟨w, i', hd', ⟨hl', m', hn2, hm'⟩ | ⟨c', hk', hc', hvv⟩⟩ := R.vs y e q
      · exact ⟨w, i', hd', .inl ⟨hl', m', hn2.sameBut hs' (Ne.symm hcL), hm'⟩⟩
      · exact ⟨w, i', hd', .inr ⟨c', hk', hc', hvv.sameBut hs' fun q => hy (R.cnd y x c (q ▸ hc') hc)⟩⟩
    · obtain ⟨⟨v, hv⟩, r⟩ := R.cell y c' e
      by_cases q : c' = c
      · subst q; exact ⟨⟨_, hv'⟩, r⟩
      · exact ⟨⟨v, hv.sameBut hs' q⟩, r⟩
    · obtain ⟨vs, n, e1, r1, r2, r3, r4, r5⟩ := R.mus a l e
      exact ⟨vs, n, (hs'.2 a (fun q => r5 x c hc q.symm)).trans e1, r1, r2, r3, r4, r5⟩

theorem ex_assign {x : Str} {p pos : Pos} {e : Expr} {d : PV} (he : Ev W A hid env vars mu e d) (hs : Sto hid env x) (hsw : swapsWith e (some (.Name x p)) pos.line env = pure false) (hk : env.scope.kind = .function) (hd : (x == ("__debug__" : Str)) = false) :
    Ex1 W A hid env vars mu (.Assign [.Name x p] e pos) (· = .next ((x, d) :: vars) mu) := fun g h t R =>
  wpAny_Assign_Name (he g h t _ _ R fun u g1 h1 t1 l1 R1 i1 => store_K hs hk hd R1 i1 fun h2 t2 R2 => ⟨_, _, g1, h2, t2, rfl, rfl, l1, R2⟩) hsw

theorem ex_aug {x : Str} {p pos : Pos} {op : Operator} {e : Expr} {old b d : PV} (hx : vars.lookup x = some old) (he : Ev W A hid env vars mu e b) (hs : Sto hid env x) (hk : env.scope.kind = .function) (hd : (x == ("__debug__" : Str)) = false)
    (hop : Op W A hid env vars mu [old, b] (fun us => inplaceOp op (us.getD 0 .none) (us.getD 1 .none)) d) :
    Ex1 W A hid env vars mu (.AugAssign (.Name x p) op e pos) (· = .next ((x, d) :: vars) mu) := fun g h t R => by
  obtain ⟨u, i, hdb, hv⟩ := R.vs x old hx
  have load : ∀ {Q : Value → Shared → Prop} {E}, Q u (W.S h t) → wpAny W.M A (loadName env x) Q E (W.S h t) := by
    intro Q E q
    rcases hv with ⟨hl, m, hn, hm⟩ | ⟨c, hx, hc, hv⟩
    · exact wpAny_loadName_local hk hl hn hm q
    · rcases hx with hx | ⟨hx, hcd⟩
      · exact wpAny_loadName_cell hk hx hc hv q
      · exact wpAny_loadName_free hk hx hc hv q hcd
  exact wpAny_AugAssign_Name (load (he g h t _ _ R fun w g1 h1 t1 l1 R1 i1 => hop g1 h1 t1 [u, w] _ _ R1 (.cons (i.mono l1) (.cons i1 .nil)) fun z g2 h2 t2 l2 R2 i2 =>
    store_K hs hk hd R2 i2 fun h3 t3 R3 => ⟨_, _, g2, h3, t3, rfl, rfl, l1.trans l2, R3⟩))
theorem a_add {a b : Int} : Op W A hid env vars mu [.int a, .int b] (fun us => inplaceOp .Add (us.getD 0 .none) (us.getD 1 .none)) (.int (a + b)) :=
  op2 fun g h t u v Q E R i j k => by cases i; cases j; exact P.iadd_int (k _ g h _ (Le.refl g) R .int)
theorem ex_if {c : Expr} {b1 b2 : List Stmt} {pos} {x : Bool} (hc : Tr W A hid env vars mu c x) (ht : x = true → Exs W A hid env vars mu b1 K) (he : x = false → Exs W A hid env vars mu b2 K) : Ex1 W A hid env vars mu (.If c b1 b2 pos) K := fun g h t R => by
  refine wpAny_If (hc g h t _ _ R fun g1 h1 t1 l1 R1 => ?_)
  cases x
  · exact wpAny_mono (he rfl g1 h1 t1 R1) (fun f s y => y.le l1) fun e s y => y.le l1
  · exact wpAny_mono (ht rfl g1 h1 t1 R1) (fun f s y => y.le l1) fun e s y => y.le l1
theorem ex_ret {e : Expr} {pos d} (he : Ev W A hid env vars mu e d) : Ex1 W A hid env vars mu (.Return (some e) pos) (· = .ret d) := fun g h t R =>
  wpAny_Return_some (he g h t _ _ R fun u g1 h1 t1 l1 R1 i1 => ⟨_, g1, h1, t1, rfl, rfl, l1, R1.e, i1⟩)

theorem Rep.freezeLoc {g h a l} (R : Rep W hid g env vars mu h) (hm : (a, l) ∈ mu) : ∃ o, Rep W hid (ins g a o) env vars (mu.filter (·.1 != a)) h ∧ Le g (ins g a o) ∧ Is (ins g a o) (.list l) (.ref a) := by
  obtain ⟨vs, n, e, r, hg, hh, hL, hc⟩ := R.mus a l hm
  have lle := le_ins (o := lobj vs n) hg
  refine ⟨_, ⟨fun b o q => lle _ _ (R.bs b o q), fun b o q => ?_, R.hs, fun b o q => ?_, R.ns, fun x d e => let ⟨u, i, v⟩ := R.vs x d e; ⟨u, i.mono lle, v⟩, by rw [ins_other (Ne.symm hL)]; exact R.gL, R.hL,
    fun x c q => ?_, R.cnd, fun b lb q => ?_, (List.filter_sublist.map _).nodup R.mnd⟩, lle, .list (ins_same _ _ _) (r.mono lle)⟩
  · by_cases z : b = a
    · subst z; rw [ins_same] at q; cases q; exact e
    · rw [ins_other z] at q; exact R.gs b o q
  · by_cases z : b = a
    · subst z; exact hh
    · rw [ins_other z] at q; exact R.gh b o q
  · obtain ⟨k1, k2, k3⟩ := R.cell x c q
    exact ⟨k1, by rw [ins_other (hc x c q)]; exact k2, k3⟩
  · obtain ⟨q1, q2⟩ := List.mem_filter.mp q
    have z : b ≠ a := by simpa using q2
    obtain ⟨vs', n', e', r', g', rest⟩ := R.mus b lb q1
    exact ⟨vs', n', e', r'.mono lle, by rw [ins_other z]; exact g', rest⟩
theorem ex_retloc {e : Expr} {pos a l} (he : Ev W A hid env vars mu e (.loc a)) (hm : (a, l) ∈ mu) : Ex1 W A hid env vars mu (.Return (some e) pos) (· = .ret (.list l)) := fun g h t R =>
  wpAny_Return_some (he g h t _ _ R fun u g1 h1 t1 l1 R1 i1 => by
    cases i1
    obtain ⟨o, R2, l2, i2⟩ := R1.freezeLoc hm
    exact ⟨_, _, h1, t1, rfl, rfl, l1.trans l2, R2.e, i2⟩)
end
end Mine
end

section
open PySem PySem.W PyProof.Rows PySem.Calls PySem.SeqAt
set_option linter.unusedVariables false
set_option maxRecDepth 100000
namespace Mine

def rngL (a b : Int) : List PV := (List.range (b - a).toNat).map fun (i : Nat) => PV.int (a + (i : Int))

inductive Src (mu : Mu) : PV → List PV → Prop where
  | list {d l} : AsList mu d l → Src mu d l
  | tup {l} : Src mu (.tup l) l
  | rng {a b} : -(2 ^ 62) ≤ a → a < 2 ^ 62 → -(2 ^ 62) ≤ b → b < 2 ^ 62 → Src mu (.rng a b) (rngL a b)

inductive ItAt (u : Value) : PV → Nat → Addr → Heap → Prop where
  | list {d a i I h} : u = .ref a → (∀ l, d ≠ .tup l) → (∀ x y, d ≠ .rng x y) → h.IsListIter I a i → ItAt u d i I h
  | tup {l a i I h} : u = .ref a → h.IsTupleIter I a i → ItAt u (.tup l) i I h
  | rng {x y i I h} : IsRangeIter h I (x + (i : Nat)) (((y - x).toNat : Int) - (i : Nat)) 1 → ItAt u (.rng x y) i I h
theorem ItAt.at {u d i I h h'} (x : ItAt u d i I h) (k : ∀ o, h.get? I = some o → h'.get? I = some o) : ItAt u d i I h' := by
  cases x with
  | list e h1 h2 q => obtain ⟨o, e1, r⟩ := q; exact .list e h1 h2 ⟨o, k _ e1, r⟩
  | tup e q => obtain ⟨o, e1, r⟩ := q; exact .tup e ⟨o, k _ e1, r⟩
  | rng q => exact .rng (k _ q)
theorem ItAt.fields {u d i I h} (x : ItAt u d i I h) : ∃ o vs, h.get? I = some o ∧ o.data = .fields vs := by
  cases x with
  | list _ _ _ q => obtain ⟨o, e1, _, e2⟩ := q; exact ⟨o, _, e1, e2⟩
  | tup _ q => obtain ⟨o, e1, _, e2⟩ := q; exact ⟨o, _, e1, e2⟩
  | rng q => exact ⟨_, _, q, rfl⟩

section
variable {W : Wk} {A : Around} {hid : PMap} {env : Env} {vars : Vars} {mu : Mu} {K K' : Out → Prop}

theorem AsList.notTup {d l} (x : AsList mu d l) : (∀ l, d ≠ .tup l) ∧ ∀ x y, d ≠ .rng x y := by
  rcases x with rfl | ⟨a, rfl, _⟩ <;> exact ⟨fun _ e => (nomatch e), fun _ _ e => (nomatch e)⟩

theorem iter_start {g h t d its u} {Q : Value → Shared → Prop} {E} (R : Rep W hid g env vars mu h) (s : Src mu d its) (i : Is g d u)
    (k : ∀ o, o.isFreed = false → ItAt u d 0 h.objs.size (h.push o) → Q (.ref h.objs.size) (W.S (h.push o) t)) : wpAny W.M A (pyIter u) Q E (W.S h t) := by
  cases s with
  | list hl =>
    obtain ⟨a, vs, rfl, q1, q2⟩ := hl.get R i
    exact wpAny_pyIter_list q1 (k _ rfl (.list rfl hl.notTup.1 hl.notTup.2 ⟨_, Heap.get?_push_size _ rfl, rfl, rfl⟩))
  | tup =>
    cases i with
    | tup e q2 =>
      refine wpAny_pyIter_tuple (s := W.S h t) ⟨_, R.gs _ _ e, rfl, _, rfl⟩ (k _ rfl (.tup rfl ⟨_, Heap.get?_push_size _ rfl, rfl, rfl⟩))
  | rng h1 h2 h3 h4 =>
    cases i with
    | rng e =>
      rename_i a b r t1 t2 t3
      refine wpAny_pyIter_range (s := W.S h t) (R.gs _ _ e) (small_one h1 h2 h3 h4) (k _ rfl (.rng ?_))
      have e2 : Builtin.Range.rangeSize a b 1 = ((b - a).toNat : Int) := by rw [rangeSize_one]; split <;> (first | lia | omega)
      rw [e2]
      have e3 : (a + ((0 : Nat) : Int)) = a := by (first | lia | omega)
      have e4 : (((b - a).toNat : Int) - ((0 : Nat) : Int)) = ((b - a).toNat : Int) := by (first | lia | omega)
      rw [e3, e4]
      exact Heap.get?_push_size _ rfl

theorem iter_next {g h t d its u I i} {Q : Option Value → Shared → Prop} {E} (hh : A.handled = none) (R : Rep W hid g env vars mu h) (s : Src mu d its) (is : Is g d u) (x : ItAt u d i I h)
    (item : ∀ a v h' t', its[i]? = some a → Is g a v → Heap.SameBut I h h' → ItAt u d (i + 1) I h' → Q (some v) (W.S h' t'))
    (done : its.length ≤ i → ∀ h' t', Heap.ExtBut I h h' → Q none (W.S h' t')) : wpAny W.M A (pyNext (.ref I)) Q E (W.S h t) := by
  cases s with
  | list hl =>
    obtain ⟨a, vs, rfl, q1, q2⟩ := hl.get R is
    cases x with
    | list e n1 n2 q =>
      cases e
      by_cases hi : i < its.length
      · obtain ⟨v, e1, iv⟩ := q2.get i its[i] (List.getElem?_eq_getElem hi)
        exact wpAny_pyNext_list_item q q1 (by simpa using e1) fun h' q' hs => item _ v h' t (List.getElem?_eq_getElem hi) iv hs (.list rfl n1 n2 q')
      · have : vs.size ≤ i := by have := q2.length; simp at this; (first | lia | omega)
        exact wpAny_pyNext_list_end hh q q1 (by simpa using this) fun h' he => done (by (first | lia | omega)) h' t he
    | tup e q => exact absurd rfl (hl.notTup.1 _)
    | rng q => exact absurd rfl (hl.notTup.2 _ _)
  | tup =>
    cases is with
    | tup e q2 =>
      rename_i a vs n
      have ht : h.IsTuple a vs := ⟨_, R.gs _ _ e, rfl, n, rfl⟩
      cases x with
      | list e n1 n2 q => exact absurd rfl (n1 _)
      | tup e q =>
        cases e
        by_cases hi : i < its.length
        · obtain ⟨v, e1, iv⟩ := q2.get i its[i] (List.getElem?_eq_getElem hi)
          exact wpAny_pyNext_tuple_item (s := W.S h t) q ht (by simpa using e1) fun h' q' hs => item _ v h' t (List.getElem?_eq_getElem hi) iv hs (.tup rfl q')
        · have : vs.size ≤ i := by have := q2.length; simp at this; (first | lia | omega)
          exact wpAny_pyNext_tuple_end (s := W.S h t) hh q ht (by simpa using this) fun h' he => done (by (first | lia | omega)) h' t he
  | @rng a b h1 h2 h3 h4 =>
    cases x with
    | list e n1 n2 q => exact absurd rfl (n2 _ _)
    | rng q =>
      by_cases hi : i < (b - a).toNat
      · refine wpAny_pyNext_range_item (s := W.S h t) q (by (first | lia | omega)) fun h' q' hs => item (.int (a + i)) _ h' _ ?_ .int hs (.rng ?_)
        · simp [rngL, hi]
        · have e1 : a + ((i + 1 : Nat) : Int) = a + (i : Nat) + 1 := by (first | lia | omega)
          have e2 : ((b - a).toNat : Int) - ((i + 1 : Nat) : Int) = ((b - a).toNat : Int) - (i : Nat) - 1 := by (first | lia | omega)
          rw [e1, e2]; exact q'
      · exact wpAny_pyNext_range_end (s := W.S h t) hh q (by (first | lia | omega)) fun h' he => done (by simp [rngL]; (first | lia | omega)) h' t he

theorem nocell_of {o : Obj} (hf : ∃ vs, o.data = .fields vs) : ∀ v, o.data ≠ .cell v := fun v e => by obtain ⟨vs, q⟩ := hf; rw [q] at e; cases e
theorem Rep.hide {g h h'} {I : Addr} {o : Obj} (R : Rep W hid g env vars mu h) (hI : h.get? I = none) (k : Kept h h') (e : h'.get? I = some o) : Rep W (ins hid I o) g env vars mu h' := by
  have R' := R.keeps k
  have ne : ∀ {b o'}, h.get? b = some o' → b ≠ I := fun e q => by rw [q, hI] at e; cases e
  refine ⟨R'.bs, R'.gs, fun a o' q => ?_, fun a o' q => ?_, R'.ns, R'.vs, R'.gL, ?_, R'.cell, R'.cnd, fun a l q => ?_, R'.mnd⟩
  · by_cases z : a = I
    · subst z; rw [ins_same] at q; cases q; exact .of e
    · rw [ins_other z] at q; exact R'.hs a o' q
  · rw [ins_other (ne (R.gs a o' q))]; exact R.gh a o' q
  · obtain ⟨m, _, _, _, e, _⟩ := R.ns
    rw [ins_other (ne e)]; exact R.hL
  · obtain ⟨vs, n, e1, r1, r2, r3, r4⟩ := R.mus a l q
    exact ⟨vs, n, k _ _ e1, r1, r2, by rw [ins_other (ne e1)]; exact r3, r4⟩
theorem Rep.unhide {g h} {I : Addr} {o : Obj} (hI : hid I = none) (R : Rep W (ins hid I o) g env vars mu h) : Rep W hid g env vars mu h := by
  have l : ∀ a o', hid a = some o' → ins hid I o a = some o' := fun a o' q => by
    by_cases z : a = I
    · subst z; rw [hI] at q; cases q
    · rw [ins_other z]; exact q
  have l2 : ∀ a, ins hid I o a = none → hid a = none := fun a q => by
    by_cases z : a = I
    · subst z; exact hI
    · rw [ins_other z] at q; exact q
  exact ⟨R.bs, R.gs, fun a o' q => R.hs a o' (l a o' q), fun a o' q => l2 a (R.gh a o' q), R.ns, R.vs, R.gL, l2 _ R.hL, R.cell, R.cnd, fun a l' q => by
    obtain ⟨vs, n, e1, r1, r2, r3, r4⟩ := R.mus a l' q
    exact ⟨vs, n, e1, r1, r2, l2 _ r3, r4⟩, R.mnd⟩
theorem RepE.unhide {g h} {I : Addr} {o : Obj} (hI : hid I = none) (R : RepE W (ins hid I o) g h) : RepE W hid g h := by
  have l : ∀ a o', hid a = some o' → ins hid I o a = some o' := fun a o' q => by
    by_cases z : a = I
    · subst z; rw [hI] at q; cases q
    · rw [ins_other z]; exact q
  have l2 : ∀ a, ins hid I o a = none → hid a = none := fun a q => by
    by_cases z : a = I
    · subst z; exact hI
    · rw [ins_other z] at q; exact q
  exact ⟨R.bs, R.gs, fun a o' q => R.hs a o' (l a o' q), fun a o' q => l2 a (R.gh a o' q)⟩
theorem Rep.rehide {g h h'} {I : Addr} {o o' : Obj} (R : Rep W (ins hid I o) g env vars mu h) (hI : hid I = none) (hf : ∀ v, o.data ≠ .cell v) (hs : Heap.SameBut I h h') (e : h'.get? I = some o') : Rep W (ins hid I o') g env vars mu h' := by
  have nocell : ∀ {c v}, h.IsCell c v → c ≠ I := by
    rintro c v ⟨oc, e1, e2⟩ rfl
    obtain ⟨sl, e3, _⟩ := R.hs c o (ins_same _ _ _)
    rw [e1] at e3; cases e3
    exact hf _ e2
  have gI : g I = none := by
    cases q : g I with
    | none => rfl
    | some x => have := R.gh I x q; rw [ins_same] at this; cases this
  have LI : env.locals ≠ I := fun q => by have := R.hL; rw [q, ins_same] at this; cases this
  refine ⟨R.bs, fun a x q => (hs.2 a (fun z => by rw [z, gI] at q; cases q)).trans (R.gs a x q), fun a x q => ?_, fun a x q => ?_, ?_, fun x d q => ?_, R.gL, ?_, fun x c q => ?_, R.cnd, fun a l q => ?_, R.mnd⟩
  · by_cases z : a = I
    · subst z; rw [ins_same] at q; cases q; exact .of e
    · rw [ins_other z] at q
      obtain ⟨sl, e1, e2⟩ := R.hs a x (by rw [ins_other z]; exact q)
      exact ⟨sl, (hs.2 a z).trans e1, e2⟩
  · have := R.gh a x q
    have z : a ≠ I := fun z => by rw [z, gI] at q; cases q
    rw [ins_other z] at this ⊢; exact this
  · obtain ⟨m, hn⟩ := R.ns; exact ⟨m, hn.sameBut hs LI⟩
  · obtain ⟨u, i, hd, ⟨hl, m, hn, hm⟩ | ⟨c, hk, hc, hv⟩⟩ := R.vs x d q
    · exact ⟨u, i, hd, .inl ⟨hl, m, hn.sameBut hs LI, hm⟩⟩
    · refine ⟨u, i, hd, .inr ⟨c, hk, hc, ?_⟩⟩
      exact hv.sameBut hs (nocell hv)
  · have := R.hL; rw [ins_other LI] at this ⊢; exact this
  · obtain ⟨⟨v, hv⟩, r⟩ := R.cell x c q
    exact ⟨⟨v, hv.sameBut hs (nocell hv)⟩, r⟩
  · obtain ⟨vs, n, e1, r1, r2, r3, r4⟩ := R.mus a l q
    have z : a ≠ I := fun z => by rw [z, ins_same] at r3; cases r3
    exact ⟨vs, n, (hs.2 a z).trans e1, r1, r2, by rw [ins_other z] at r3 ⊢; exact r3, r4⟩

theorem Rep.letgo {g h h'} {I : Addr} {o : Obj} (R : Rep W (ins hid I o) g env vars mu h) (hI : hid I = none) (hf : ∀ v, o.data ≠ .cell v) (hs : Heap.ExtBut I h h') : Rep W hid g env vars mu h' := by
  have nocell : ∀ {c v}, h.IsCell c v → c ≠ I := by
    rintro c v ⟨oc, e1, e2⟩ rfl
    obtain ⟨sl, e3, _⟩ := R.hs c o (ins_same _ _ _)
    rw [e1] at e3; cases e3
    exact hf _ e2
  have R0 := R.unhide hI
  have gI : g I = none := by
    cases q : g I with
    | none => rfl
    | some x => have := R.gh I x q; rw [ins_same] at this; cases this
  have LI : env.locals ≠ I := fun q => by have := R.hL; rw [q, ins_same] at this; cases this
  have keepNs : ∀ {m}, h.Ns env.locals m → h'.Ns env.locals m := fun hn => by
    obtain ⟨o1, es1, ep1, p1, p2⟩ := hn; exact ⟨o1, es1, ep1, hs _ _ LI p1, p2⟩
  have keepCell : ∀ {c v}, h.IsCell c v → h'.IsCell c v := fun hc => by
    obtain ⟨oc, e1, e2⟩ := id hc; exact ⟨oc, hs _ _ (nocell hc) e1, e2⟩
  refine ⟨R0.bs, fun a x q => hs a x (fun z => by rw [z, gI] at q; cases q) (R.gs a x q), fun a x q => ?_, R0.gh, ?_, fun x d q => ?_, R.gL, R0.hL, fun x c q => ?_, R.cnd, fun a l q => ?_, R.mnd⟩
  · obtain ⟨sl, e1, e2⟩ := R0.hs a x q
    exact ⟨sl, hs a _ (fun z => by rw [z, hI] at q; cases q) e1, e2⟩
  · obtain ⟨m, hn⟩ := R.ns; exact ⟨m, keepNs hn⟩
  · obtain ⟨u, i, hd, ⟨hl, m, hn, hm⟩ | ⟨c, hk, hc, hv⟩⟩ := R.vs x d q
    · exact ⟨u, i, hd, .inl ⟨hl, m, keepNs hn, hm⟩⟩
    · exact ⟨u, i, hd, .inr ⟨c, hk, hc, keepCell hv⟩⟩
  · obtain ⟨⟨v, hv⟩, r⟩ := R.cell x c q
    exact ⟨⟨v, keepCell hv⟩, r⟩
  · obtain ⟨vs, n, e1, r1, r2, r3, r4⟩ := R.mus a l q
    have z : a ≠ I := fun z => by rw [z, ins_same] at r3; cases r3
    exact ⟨vs, n, hs a _ z e1, r1, r2, by rw [ins_other z] at r3; exact r3, r4⟩

def TurnK (J : Vars → Mu → Prop) (K : Out → Prop) : Out → Prop
  | .next v m => ∃ v' m', Sub v' v ∧ m'.Sublist m ∧ J v' m'
  | .cont v m => ∃ v' m', Sub v' v ∧ m'.Sublist m ∧ J v' m'
  | .brk v m => K (.next v m)
  | .ret d => K (.ret d)
  | .exc _ _ _ => False

end
end Mine
end

section
open PySem PySem.W PyProof.Rows PySem.Calls PySem.SeqAt
set_option linter.unusedVariables false
set_option maxRecDepth 100000
namespace Mine

def clFrom (env : Env) : List (Str × NameKind) → List (Str × Addr) → List (Str × Addr)
  | [], acc => acc
  | (n, k) :: r, acc => if k == .free then clFrom env r ((n, (env.cells.lookup n).getD 0) :: acc) else clFrom env r acc
def freeFound (env : Env) (names : List (Str × NameKind)) : Bool := names.all fun p => p.2 != .free || (env.cells.lookup p.1).isSome
theorem closure_is {scope : Scope} {env : Env} (h : freeFound env scope.names = true) : closureFor scope env = pure (clFrom env scope.names []) := by
  unfold closureFor
  have key : ∀ (names : List (Str × NameKind)) (acc : List (Str × Addr)), freeFound env names = true →
      (forIn names acc fun x cs => (if (x.2 == NameKind.free) = true then do let a ← cellOf env x.1; pure (ForInStep.yield ((x.1, a) :: cs)) else pure (ForInStep.yield cs) : Sem (ForInStep (List (Str × Addr))))) = pure (clFrom env names acc) := by
    intro names
    induction names with
    | nil => intro acc _; rfl
    | cons p r ih =>
      obtain ⟨n, k⟩ := p
      intro acc hf
      have hf' : ((k != NameKind.free || (env.cells.lookup n).isSome) && freeFound env r) = true := hf
      obtain ⟨h1, h2⟩ := Bool.and_eq_true_iff.mp hf'
      rw [List.forIn_cons]
      unfold clFrom
      by_cases hk : (k == NameKind.free) = true
      · have hs : (env.cells.lookup n).isSome = true := by
          rcases Bool.or_eq_true_iff.mp h1 with q | q
          · simp at q; simp [q] at hk
          · exact q
        obtain ⟨c, hc⟩ := Option.isSome_iff_exists.mp hs
        rw [if_pos hk, if_pos hk, hc]
        simp only [cellOf, hc, pure_bind, Option.getD_some]
        exact ih _ h2
      · rw [if_neg hk, if_neg hk]
        simp only [pure_bind]
        exact ih _ h2
  have := key scope.names [] h
  simpa using this

theorem clFrom_lookup {env : Env} : ∀ {names : List (Str × NameKind)} {acc : List (Str × Addr)} {x c}, freeFound env names = true → (clFrom env names acc).lookup x = some c → acc.lookup x = some c ∨ env.cells.lookup x = some c
  | [], _, _, _, _, h => .inl h
  | (n, k) :: r, acc, x, c, hf, h => by
    have hf' : ((k != NameKind.free || (env.cells.lookup n).isSome) && freeFound env r) = true := hf
    obtain ⟨h1, h2⟩ := Bool.and_eq_true_iff.mp hf'
    unfold clFrom at h
    split at h
    · rename_i hk
      rcases clFrom_lookup h2 h with q | q
      · by_cases hx : x = n
        · subst hx
          rw [lookup_cons_eq] at q
          rcases Bool.or_eq_true_iff.mp h1 with z | z
          · simp at z; simp [z] at hk
          · obtain ⟨c', hc⟩ := Option.isSome_iff_exists.mp z
            rw [hc] at q; simp at q; subst q; exact .inr hc
        · rw [lookup_cons_ne hx] at q; exact .inl q
      · exact .inr q
    · exact clFrom_lookup h2 h
theorem clFrom_acc {env : Env} : ∀ {names : List (Str × NameKind)} {acc : List (Str × Addr)} {x}, (∀ k, (x, k) ∈ names → k ≠ .free) → (clFrom env names acc).lookup x = acc.lookup x
  | [], _, _, _ => rfl
  | (n, k) :: r, acc, x, h => by
    unfold clFrom
    split
    · rename_i hk
      rw [clFrom_acc (fun k hk => h k (.tail _ hk)), lookup_cons_ne]
      rintro rfl
      exact h k (.head _) (by simpa using hk)
    · exact clFrom_acc (fun k hk => h k (.tail _ hk))
theorem clFrom_free {env : Env} : ∀ {names : List (Str × NameKind)} {acc : List (Str × Addr)} {x c}, (x, NameKind.free) ∈ names → env.cells.lookup x = some c → (clFrom env names acc).lookup x = some c
  | (n, k) :: r, acc, x, c, h, hc => by
    unfold clFrom
    by_cases hr : (x, NameKind.free) ∈ r
    · split <;> exact clFrom_free hr hc
    · rcases List.mem_cons.mp h with e | h
      · cases e
        rw [if_pos (by simp), clFrom_acc (fun k hk e => hr (e ▸ hk)), lookup_cons_eq, hc]; rfl
      · exact absurd h hr

theorem cellsFrom_lookup : ∀ {names : List (Str × NameKind)} {h : Heap} {acc : List (Str × Addr)} {x c}, (cellsFrom h.objs.size names acc).lookup x = some c → acc.lookup x = some c ∨ ((pushCells h names).IsCell c none ∧ h.objs.size ≤ c)
  | [], _, _, _, _, e => .inl e
  | (n, k) :: r, h, acc, x, c, e => by
    unfold cellsFrom at e
    unfold pushCells
    split at e
    · rename_i hk
      rw [if_pos hk]
      have e' : (cellsFrom (h.push { cls := .type "cell", data := .cell none }).objs.size r ((n, h.objs.size) :: acc)).lookup x = some c := by rw [Heap.size_push]; exact e
      rcases cellsFrom_lookup e' with q | ⟨q1, q2⟩
      · by_cases hx : x = n
        · subst hx; rw [lookup_cons_eq] at q; cases q
          exact .inr ⟨⟨_, pushCells_keeps _ _ _ _ (Heap.get?_push_size _ rfl), rfl⟩, Nat.le_refl _⟩
        · rw [lookup_cons_ne hx] at q; exact .inl q
      · rw [Heap.size_push] at q2; exact .inr ⟨q1, by (first | lia | omega)⟩
    · rename_i hk
      rw [if_neg hk]
      exact cellsFrom_lookup e
theorem cellsFrom_inj : ∀ {names : List (Str × NameKind)} {n : Nat} {acc : List (Str × Addr)}, (∀ x y c, acc.lookup x = some c → acc.lookup y = some c → x = y) → (∀ x c, acc.lookup x = some c → c < n) →
    ∀ x y c, (cellsFrom n names acc).lookup x = some c → (cellsFrom n names acc).lookup y = some c → x = y
  | [], _, _, h1, _ => h1
  | (nm, k) :: r, n, acc, h1, h2 => by
    unfold cellsFrom
    split
    · refine cellsFrom_inj (fun x y c e1 e2 => ?_) (fun x c e => ?_)
      · by_cases hx : x = nm <;> by_cases hy : y = nm
        · rw [hx, hy]
        · subst hx; rw [lookup_cons_eq] at e1; rw [lookup_cons_ne hy] at e2; cases e1; exact absurd (h2 _ _ e2) (Nat.lt_irrefl _)
        · subst hy; rw [lookup_cons_eq] at e2; rw [lookup_cons_ne hx] at e1; cases e2; exact absurd (h2 _ _ e1) (Nat.lt_irrefl _)
        · rw [lookup_cons_ne hx] at e1; rw [lookup_cons_ne hy] at e2; exact h1 x y c e1 e2
      · by_cases hx : x = nm
        · subst hx; rw [lookup_cons_eq] at e; cases e; exact Nat.lt_succ_self _
        · rw [lookup_cons_ne hx] at e; exact Nat.lt_succ_of_lt (h2 x c e)
    · exact cellsFrom_inj h1 h2
theorem cellsFrom_not : ∀ {names : List (Str × NameKind)} {n : Nat} {acc : List (Str × Addr)} {x}, (∀ k, (x, k) ∈ names → k ≠ .cell) → (cellsFrom n names acc).lookup x = acc.lookup x
  | [], _, _, _, _ => rfl
  | (nm, k) :: r, n, acc, x, h => by
    unfold cellsFrom
    split
    · rename_i hk
      rw [cellsFrom_not (fun k hk => h k (.tail _ hk)), lookup_cons_ne]
      rintro rfl; exact h k (.head _) (by simpa using hk)
    · exact cellsFrom_not (fun k hk => h k (.tail _ hk))

def cEnv (scope : Scope) (C : Addr) (env : Env) : Env :=
  { scope := relabel scope env, locals := C, globals := env.globals, cells := cellsFrom (C + 1) scope.names (clFrom env scope.names []), qual := env.qual, func := none, code := env.code, frame := env.frame, builtins := env.builtins }

theorem wpAny_newCompEnv {M : Model} {A : Around} {E : Value → Shared → Prop} {s : Shared} {scope : Scope} {globals : Addr} {cl : List (Str × Addr)} {qual : Str} {outer : Env} {Q : Env → Shared → Prop}
    (hQ : Q { scope, locals := s.heap.objs.size, globals, cells := cellsFrom (s.heap.objs.size + 1) scope.names cl, qual, func := none, code := outer.code, frame := outer.frame, builtins := outer.builtins }
      { s with heap := pushCells (s.heap.push { cls := .type "dict", data := .dict #[] }) scope.names }) :
    wpAny M A (newFunctionEnv scope globals cl [] qual none .none (some outer)) Q E s := by
  simp only [newFunctionEnv, Option.isSome_some, if_true]
  refine wpAny_bind (wpAny_alloc ?_)
  refine wpAny_bind (wpAny_layCells _ (fun name kind cells => by cases hkc : kind == NameKind.cell <;> simp [hkc]) _ _ _ _ ?_)
  rw [show ({ s with heap := s.heap.push { cls := .type "dict", data := .dict #[] } } : Shared).heap.objs.size = s.heap.objs.size + 1 from Heap.size_push ..]
  simp only [List.forIn_nil]
  exact wpAny_bind (wpAny_pure (wpAny_pure hQ))

def rest (g : PMap) (mu : Mu) (h : Heap) : PMap := fun b => if (g b).isSome || (mu.map (·.1)).contains b then none else h.get? b
theorem rest_some {g : PMap} {mu : Mu} {h : Heap} {b : Addr} {o : Obj} (e : rest g mu h b = some o) : h.get? b = some o ∧ g b = none ∧ b ∉ mu.map (·.1) := by
  unfold rest at e
  split at e
  · cases e
  · rename_i hc
    simp only [Bool.or_eq_true, not_or, Bool.not_eq_true, Option.isSome_eq_false_iff, Option.isNone_iff_eq_none] at hc
    exact ⟨e, hc.1, fun hm => by have := hc.2; rw [List.contains_iff_mem.mpr hm] at this; cases this⟩
theorem rest_of {g : PMap} {mu : Mu} {h : Heap} {b : Addr} {o : Obj} (e : h.get? b = some o) (hg : g b = none) (hm : b ∉ mu.map (·.1)) : rest g mu h b = some o := by
  unfold rest
  rw [if_neg]
  · exact e
  · simp only [Bool.or_eq_true, not_or, hg, Option.isSome_none, Bool.false_eq_true, not_false_eq_true, true_and]
    intro q; exact hm (List.contains_iff_mem.mp q)
theorem rest_none {g : PMap} {mu : Mu} {h : Heap} {b : Addr} (e : h.get? b = none) : rest g mu h b = none := by
  cases q : rest g mu h b with
  | none => rfl
  | some o => rw [(rest_some q).1] at e; cases e

def Over (scope : Scope) (env : Env) (vars' vars : Vars) : Prop := ∀ x d, vars'.lookup x = some d → vars.lookup x = some d ∧ scope.names.lookup x = some .free ∧ env.kindOf x ≠ some .local
theorem Over.nil {scope env vars} : Over scope env [] vars := fun x d e => by cases e
theorem Over.cons {scope env vars' vars x d} (h : vars.lookup x = some d) (k : scope.names.lookup x = some .free) (nl : (env.kindOf x == some .local) = false) (s : Over scope env vars' vars) : Over scope env ((x, d) :: vars') vars := fun y e q => by
  by_cases hb : y = x
  · subst hb; rw [lookup_cons_eq] at q; cases q; exact ⟨h, k, fun z => by rw [z] at nl; simp at nl⟩
  · rw [lookup_cons_ne hb] at q; exact s y e q

structure BlockOk (scope : Scope) (env : Env) : Prop where
  found : freeFound env scope.names = true
  kind : scope.kind = .function
  nodup : (scope.names.map (·.1)).Nodup

theorem lookup_mem_nodup {α : Type} : ∀ {l : List (Str × α)} {x a b}, (l.map (·.1)).Nodup → l.lookup x = some a → (x, b) ∈ l → b = a
  | (y, c) :: r, x, a, b, hn, h1, h2 => by
    obtain ⟨n1, n2⟩ := List.nodup_cons.mp hn
    by_cases hx : x = y
    · subst hx
      rw [lookup_cons_eq] at h1; cases h1
      rcases List.mem_cons.mp h2 with e | e
      · cases e; rfl
      · exact absurd (List.mem_map.mpr ⟨_, e, rfl⟩) n1
    · rw [lookup_cons_ne hx] at h1
      rcases List.mem_cons.mp h2 with e | e
      · cases e; exact absurd rfl hx
      · exact lookup_mem_nodup n2 h1 e

theorem relabel_lookup {env : Env} {x : Str} : ∀ {names : List (Str × NameKind)} {k}, names.lookup x = some k →
    (names.map fun (n, k) => if (k == NameKind.free && env.scope.kind == .function && env.kindOf n == some .cell) then (n, NameKind.cell) else (n, k)).lookup x = some (if (k == NameKind.free && env.scope.kind == .function && env.kindOf x == some .cell) then .cell else k)
  | (n, k') :: r, k, h => by
    rw [List.map_cons]
    by_cases hx : x = n
    · subst hx
      rw [lookup_cons_eq] at h; cases h
      dsimp only
      split <;> rw [lookup_cons_eq]
    · rw [lookup_cons_ne hx] at h
      have ih := relabel_lookup (env := env) (x := x) h
      dsimp only
      split <;> rw [lookup_cons_ne hx] <;> exact ih

section
variable {W : Wk} {A : Around} {hid : PMap} {env : Env} {vars : Vars} {mu : Mu} {K K' : Out → Prop}

theorem Rep.comp {scope : Scope} {vars' : Vars} {g h h2} (B : BlockOk scope env) (hk : env.scope.kind = .function) (R : Rep W hid g env vars mu h) (k2 : Kept h h2) (hv : Over scope env vars' vars) :
    Rep W (rest g mu h) g (cEnv scope h2.objs.size env) vars' mu (pushCells (h2.push { cls := .type "dict", data := .dict #[] }) scope.names) := by
  have kp : Kept h2 (pushCells (h2.push { cls := .type "dict", data := .dict #[] }) scope.names) := fun b o e => pushCells_keeps _ _ b o (Heap.get?_push_of_some _ e)
  have k := kept_trans k2 kp
  have hC2 : h2.get? h2.objs.size = none := Rep.fresh_size
  have hC : h.get? h2.objs.size = none := by
    cases q : h.get? h2.objs.size with
    | none => rfl
    | some o => rw [k2 _ _ q] at hC2; cases hC2
  have hns : (pushCells (h2.push { cls := .type "dict", data := .dict #[] }) scope.names).Ns h2.objs.size fun _ => none := (Heap.Ns.new h2 (.type "dict")).keeps (pushCells_keeps _ _)
  have hcl : ∀ x c, (clFrom env scope.names []).lookup x = some c → env.cells.lookup x = some c := fun x c e => (clFrom_lookup B.found e).elim (fun q => by cases q) id
  have hcells : ∀ x c, (cEnv scope h2.objs.size env).cells.lookup x = some c → env.cells.lookup x = some c ∨ ((pushCells (h2.push { cls := .type "dict", data := .dict #[] }) scope.names).IsCell c none ∧ h2.objs.size < c) := by
    intro x c e
    have e' : (cellsFrom (h2.push { cls := .type "dict", data := .dict #[] }).objs.size scope.names (clFrom env scope.names [])).lookup x = some c := by rw [Heap.size_push]; exact e
    rcases cellsFrom_lookup e' with q | ⟨q1, q2⟩
    · exact .inl (hcl x c q)
    · rw [Heap.size_push] at q2; exact .inr ⟨q1, q2⟩
  have old : ∀ {c}, h2.objs.size < c → h.get? c = none := fun {c} hlt => by
    cases q : h.get? c with
    | none => rfl
    | some o => exact absurd (Heap.lt_size (k2 _ _ q)) (Nat.not_lt.mpr (Nat.le_of_lt hlt))
  have Rk := R.keeps k
  refine ⟨R.bs, fun a o e => k _ _ (R.gs a o e), fun a o e => .of (k _ _ (rest_some e).1), fun a o e => ?_, ⟨_, hns⟩, fun x d e => ?_, R.gnone hC, rest_none hC, fun x c e => ?_, ?_, fun a l e => ?_, R.mnd⟩
  · cases q : rest g mu h a with
    | none => rfl
    | some o' => rw [(rest_some q).2.1] at e; cases e
  · obtain ⟨e1, e2, e3⟩ := hv x d e
    obtain ⟨u, i, hdb, hva⟩ := Rk.vs x d e1
    have hmem : (x, NameKind.free) ∈ scope.names := mem_of_lookup e2
    rcases hva with ⟨hl, _⟩ | ⟨c, hk', hc, hv'⟩
    · exact absurd hl e3
    · have hce : (cEnv scope h2.objs.size env).cells.lookup x = some c := by
        show (cellsFrom _ scope.names _).lookup x = some c
        rw [cellsFrom_not (fun k hk => by rw [lookup_mem_nodup B.nodup e2 hk]; intro q; cases q)]
        exact clFrom_free hmem hc
      have hkind : (cEnv scope h2.objs.size env).kindOf x = some (if (NameKind.free == NameKind.free && env.scope.kind == .function && env.kindOf x == some .cell) then .cell else .free) := relabel_lookup (env := env) e2
      refine ⟨u, i, hdb, .inr ⟨c, ?_, hce, hv'⟩⟩
      rw [hkind]
      split
      · exact .inl rfl
      · rename_i hn
        rcases hk' with q | ⟨q, q2⟩
        · exact absurd (by rw [hk, q]; rfl) hn
        · exact .inr ⟨rfl, q2⟩
  · rcases hcells x c e with q | ⟨q1, q2⟩
    · obtain ⟨⟨v, hv'⟩, r1, r2⟩ := Rk.cell x c q
      obtain ⟨⟨v0, oc, hv0, _⟩, _⟩ := R.cell x c q
      exact ⟨⟨v, hv'⟩, r1, fun z => by rw [show (cEnv scope h2.objs.size env).locals = h2.objs.size from rfl] at z; rw [z, hC] at hv0; cases hv0⟩
    · exact ⟨⟨_, q1⟩, R.gnone (old q2), fun z => Nat.lt_irrefl _ (by rw [show (cEnv scope h2.objs.size env).locals = h2.objs.size from rfl] at z; rw [z] at q2; exact q2)⟩
  · refine cellsFrom_inj (fun x y c e1 e2 => R.cnd x y c (hcl x c e1) (hcl y c e2)) fun x c e => ?_
    obtain ⟨⟨v, oc, e1, _⟩, _⟩ := R.cell x c (hcl x c e)
    exact Nat.lt_succ_of_lt (Heap.lt_size (k2 _ _ e1))
  · obtain ⟨vs, n, e1, r1, r2, r3, r4, r5⟩ := R.mus a l e
    have hma : a ∈ mu.map (·.1) := List.mem_map.mpr ⟨_, e, rfl⟩
    refine ⟨vs, n, k _ _ e1, r1, r2, ?_, fun z => ?_, fun x c q => ?_⟩
    · cases q : rest g mu h a with
      | none => rfl
      | some o' => exact absurd hma (rest_some q).2.2
    · rw [show (cEnv scope h2.objs.size env).locals = h2.objs.size from rfl] at z; rw [z, hC] at e1; cases e1
    · rcases hcells x c q with q | ⟨_, q2⟩
      · exact r5 x c q
      · rintro rfl; rw [old q2] at e1; cases e1

structure Lone (W : Wk) (hid g : PMap) (env : Env) (mu : Mu) (a : Addr) : Prop where
  g : g a = none
  hid : hid a = none
  loc : a ≠ env.locals
  cell : ∀ x c, env.cells.lookup x = some c → c ≠ a
  mu : a ∉ mu.map (·.1)
theorem Rep.lone {g h a} (R : Rep W hid g env vars mu h) (e : h.get? a = none) : Lone W hid g env mu a where
  g := R.gnone e
  hid := R.hnone e
  loc := fun z => by obtain ⟨m, _, _, _, q, _⟩ := R.ns; rw [z, q] at e; cases e
  cell := fun x c q z => by obtain ⟨⟨v, oc, e1, _⟩, _⟩ := R.cell x c q; rw [z, e] at e1; cases e1
  mu := fun hm => by
    obtain ⟨p, hp, rfl⟩ := List.mem_map.mp hm
    obtain ⟨vs, n, e1, _⟩ := R.mus p.1 p.2 hp
    rw [e] at e1; cases e1
theorem Rep.hideAt {g h a o} (R : Rep W hid g env vars mu h) (L : Lone W hid g env mu a) (e : h.get? a = some o) : Rep W (ins hid a o) g env vars mu h := by
  refine ⟨R.bs, R.gs, fun b o' q => ?_, fun b o' q => ?_, R.ns, R.vs, R.gL, by rw [ins_other (Ne.symm L.loc)]; exact R.hL, R.cell, R.cnd, fun b l q => ?_, R.mnd⟩
  · by_cases z : b = a
    · subst z; rw [ins_same] at q; cases q; exact .of e
    · rw [ins_other z] at q; exact R.hs b o' q
  · rw [ins_other (fun z => by rw [z, L.g] at q; cases q)]; exact R.gh b o' q
  · obtain ⟨vs, n, e1, r1, r2, r3, r4⟩ := R.mus b l q
    exact ⟨vs, n, e1, r1, r2, by rw [ins_other (fun z : b = a => L.mu (List.mem_map.mpr ⟨_, q, z⟩))]; exact r3, r4⟩
theorem Rep.freezeAt {g h a o} (R : Rep W hid g env vars mu h) (L : Lone W hid g env mu a) (e : h.get? a = some o) : Rep W hid (ins g a o) env vars mu h := by
  have lle := le_ins (o := o) L.g
  refine ⟨fun b o q => lle _ _ (R.bs b o q), fun b o' q => ?_, R.hs, fun b o' q => ?_, R.ns, fun x d e => let ⟨u, i, v⟩ := R.vs x d e; ⟨u, i.mono lle, v⟩, by rw [ins_other (Ne.symm L.loc)]; exact R.gL, R.hL, fun x c q => ?_, R.cnd, fun b l q => ?_, R.mnd⟩
  · by_cases z : b = a
    · subst z; rw [ins_same] at q; cases q; exact e
    · rw [ins_other z] at q; exact R.gs b o' q
  · by_cases z : b = a
    · subst z; exact L.hid
    · rw [ins_other z] at q; exact R.gh b o' q
  · obtain ⟨k1, k2, k3⟩ := R.cell x c q
    exact ⟨k1, by rw [ins_other (L.cell x c q)]; exact k2, k3⟩
  · obtain ⟨vs, n, e1, r1, r2, r3, r4⟩ := R.mus b l q
    exact ⟨vs, n, e1, r1.mono lle, by rw [ins_other (fun z : b = a => L.mu (List.mem_map.mpr ⟨_, q, z⟩))]; exact r2, r3, r4⟩
theorem Rep.own {g h a l vs n} (R : Rep W hid g env vars mu h) (L : Lone W hid g env mu a) (e : h.get? a = some (lobj vs n)) (i : Iss g l vs.toList) : Rep W hid g env vars ((a, l) :: mu) h :=
  ⟨R.bs, R.gs, R.hs, R.gh, R.ns, R.vs, R.gL, R.hL, R.cell, R.cnd, fun b lb q => by
    rcases List.mem_cons.mp q with q | q
    · cases q; exact ⟨vs, n, e, i, L.g, L.hid, L.loc, L.cell⟩
    · exact R.mus b lb q, List.nodup_cons.mpr ⟨L.mu, R.mnd⟩⟩

theorem Rep.back {g g' h h' mu₂} (R : Rep W hid g env vars mu h) (l : Le g g') (RE : RepE W (rest g mu₂ h) g' h') (hsub : ∀ a, a ∈ mu₂.map (·.1) → a ∈ mu.map (·.1))
    (hm : ∀ a l, (a, l) ∈ mu → a ∈ mu₂.map (·.1) → ∃ vs n, h'.get? a = some (lobj vs n) ∧ Iss g' l vs.toList ∧ g' a = none) : Rep W hid g' env vars mu h' := by
  have up : ∀ {a o}, h.get? a = some o → g a = none → a ∉ mu₂.map (·.1) → UpTo o h' a ∧ g' a = none := fun {a o} e hg hmm => by
    have e' := rest_of e hg hmm
    refine ⟨RE.hs a o e', ?_⟩
    cases q : g' a with
    | none => rfl
    | some x => have := RE.gh a x q; rw [e'] at this; cases this
  have muL : ∀ {a}, a ∈ mu₂.map (·.1) → g a = none ∧ hid a = none ∧ a ≠ env.locals ∧ ∀ x c, env.cells.lookup x = some c → c ≠ a := fun {a} hma => by
    obtain ⟨p, hp, rfl⟩ := List.mem_map.mp (hsub _ hma)
    obtain ⟨_, _, _, _, r1, r2, r3, r4⟩ := R.mus p.1 p.2 hp
    exact ⟨r1, r2, r3, r4⟩
  have ns' : ∀ {m}, h.Ns env.locals m → h'.Ns env.locals m := fun hn => by
    obtain ⟨o, es, ep, e1, e2, r⟩ := hn
    obtain ⟨⟨sl, q, _⟩, _⟩ := up e1 R.gL (fun hma => (muL hma).2.2.1 rfl)
    exact ⟨_, es, ep, q, e2, r⟩
  have cell' : ∀ {x c v}, env.cells.lookup x = some c → h.IsCell c v → h'.IsCell c v ∧ g' c = none := fun hc hv => by
    obtain ⟨o, e1, e2⟩ := hv
    obtain ⟨⟨sl, q, _⟩, q2⟩ := up e1 (R.cell _ _ hc).2.1 (fun hma => (muL hma).2.2.2 _ _ hc rfl)
    exact ⟨⟨_, q, e2⟩, q2⟩
  refine ⟨RE.bs, RE.gs, fun a o e => ?_, fun a o e => ?_, ?_, fun x d e => ?_, ?_, R.hL, fun x c e => ?_, R.cnd, fun a lb e => ?_, R.mnd⟩
  · obtain ⟨sl, e1, e2⟩ := R.hs a o e
    have hg : g a = none := by
      cases q : g a with
      | none => rfl
      | some x => have := R.gh a x q; rw [e] at this; cases this
    obtain ⟨⟨sl', q1, q2⟩, _⟩ := up e1 hg (fun hma => by have := (muL hma).2.1; rw [e] at this; cases this)
    exact ⟨sl', q1, fun hf => (q2 hf).trans (e2 hf)⟩
  · cases q : hid a with
    | none => rfl
    | some o' =>
      obtain ⟨sl, e1, _⟩ := R.hs a o' q
      have hg : g a = none := by
        cases q' : g a with
        | none => rfl
        | some x => have := R.gh a x q'; rw [q] at this; cases this
      obtain ⟨_, q2⟩ := up e1 hg (fun hma => by have := (muL hma).2.1; rw [q] at this; cases this)
      rw [q2] at e; cases e
  · obtain ⟨m, hn⟩ := R.ns; exact ⟨m, ns' hn⟩
  · obtain ⟨u, i, hd, ⟨hl, m, hn, hm'⟩ | ⟨c, hk, hc, hv⟩⟩ := R.vs x d e
    · exact ⟨u, i.mono l, hd, .inl ⟨hl, m, ns' hn, hm'⟩⟩
    · exact ⟨u, i.mono l, hd, .inr ⟨c, hk, hc, (cell' hc hv).1⟩⟩
  · obtain ⟨m, o, es, ep, e1, _⟩ := R.ns
    exact (up e1 R.gL (fun hma => (muL hma).2.2.1 rfl)).2
  · obtain ⟨⟨v, hv⟩, r1, r2⟩ := R.cell x c e
    exact ⟨⟨v, (cell' e hv).1⟩, (cell' e hv).2, r2⟩
  · obtain ⟨vs, n, e1, r1, r2, r3, r4⟩ := R.mus a lb e
    by_cases hma : a ∈ mu₂.map (·.1)
    · obtain ⟨vs', n', e1', r1', r2'⟩ := hm a lb e hma
      exact ⟨vs', n', e1', r1', r2', r3, r4⟩
    · obtain ⟨⟨sl', q, q3⟩, q2⟩ := up e1 r2 hma
      have hs : sl' = #[] := q3 (fun es ep (z : Data.seq vs n = Data.dict es ep) => nomatch z)
      subst hs
      exact ⟨vs, n, q, r1.mono l, q2, r3, r4⟩
end
end Mine
end

section
open PySem PySem.W PyProof.Rows PySem.Calls PySem.SeqAt
set_option linter.unusedVariables false
set_option maxRecDepth 100000
namespace Mine
section
variable {W : Wk} {A : Around} {hid : PMap} {env : Env} {vars : Vars} {mu : Mu} {K K' : Out → Prop}

theorem iter_self {h : Heap} {t : Nat} {d : PV} {u : Value} {I : Addr} {i : Nat} {Q : Value → Shared → Prop} {E} (x : ItAt u d i I h) (k : Q (.ref I) (W.S h t)) : wpAny W.M A (pyIter (.ref I)) Q E (W.S h t) := by
  cases x with
  | list _ _ _ q => exact wpAny_pyIter_listiter (s := W.S h t) q k
  | tup _ q => exact wpAny_pyIter_tupleiter (s := W.S h t) q k
  | rng q => exact wpAny_pyIter_rangeiter (s := W.S h t) q k

theorem append_K {h : Heap} {t : Nat} {D : Addr} {vs : Array Value} {n : Nat} {x : Value} {Q : Value → Shared → Prop} {E} (e : h.get? D = some (lobj vs n)) (hs : vs.size ≤ 100000)
    (k : ∀ h' n', h'.get? D = some (lobj (vs.push x) n') → Heap.SameBut D h h' → Q .none (W.S h' t)) : wpAny W.M A (call (.builtin "list.append") [.ref D, x]) Q E (W.S h t) := by
  have T : (W.S h t).TypeIs (.ref D) "list" := ⟨_, e, rfl⟩
  exact call_meets slot_list_append T entry_list_append (args_list_append _ _) (PySem.list_append D vs n x (by rw [sizeLine_eq]; (first | lia | omega))) ⟨e, k _ _ (IsL.update e (·.push x)) (Heap.SameBut.update ..)⟩

def Tests (W : Wk) (A : Around) (hid : PMap) (env : Env) (vars : Vars) (mu : Mu) (ifs : List Expr) (b : Bool) : Prop :=
  ∀ g h t (Q : Bool → Shared → Prop) (E : Value → Shared → Prop), Rep W hid g env vars mu h → (∀ g' h' t', Le g g' → Rep W hid g' env vars mu h' → Q b (W.S h' t')) →
    wpAny W.M A (forIn ifs true fun c r => if r = true then do let ok ← isTrue c env (eval c env); pure (ForInStep.yield ok) else pure (ForInStep.yield r)) Q E (W.S h t)
theorem tests_nil : Tests W A hid env vars mu [] true := fun g h t Q E R k => wpAny_tests_nil (k g h t (Le.refl g) R)
def Tgt (W : Wk) (A : Around) (hid : PMap) (env : Env) (vars : Vars) (mu : Mu) (target : Expr) (a : PV) (vars' : Vars) : Prop :=
  ∀ g h t v (Q : Unit → Shared → Prop) (E : Value → Shared → Prop), Rep W hid g env vars mu h → Is g a v → (∀ h' t', Rep W hid g env vars' mu h' → Q () (W.S h' t')) → wpAny W.M A (assign target env v) Q E (W.S h t)
theorem tgt_name {x : Str} {p : Pos} {a} (hs : Sto hid env x) (hk : env.scope.kind = .function) (hd : (x == ("__debug__" : Str)) = false) : Tgt W A hid env vars mu (.Name x p) a ((x, a) :: vars) := fun g h t v Q E R i k =>
  wpAny_assign_Name (store_K hs hk hd R i k)

theorem store_own {scope : Scope} {C : Addr} {x : Str} (hid : PMap) (h : (scope.names.lookup x = some .local)) : Sto hid (cEnv scope C env) x := .loc (lookup_relabel_local h)

def OwnFree (hid : PMap) (scope : Scope) (C : Addr) (env : Env) : Prop := ∀ x c, scope.names.lookup x = some .cell → (cEnv scope C env).cells.lookup x = some c → hid c = none
theorem ins_comm {g : PMap} {a b : Addr} {o o' : Obj} (h : a ≠ b) : ins (ins g a o) b o' = ins (ins g b o') a o := by
  funext x
  unfold ins
  by_cases h1 : x = b
  · subst h1; simp [Ne.symm h]
  · simp [h1]
theorem cellsFrom_ge : ∀ {names : List (Str × NameKind)} {n : Nat} {acc : List (Str × Addr)} {x c}, (cellsFrom n names acc).lookup x = some c → acc.lookup x = some c ∨ n ≤ c
  | [], _, _, _, _, e => .inl e
  | (nm, k) :: r, n, acc, x, c, e => by
    unfold cellsFrom at e
    split at e
    · rcases cellsFrom_ge e with q | q
      · by_cases hx : x = nm
        · subst hx; rw [lookup_cons_eq] at q; cases q; exact .inr (Nat.le_refl _)
        · rw [lookup_cons_ne hx] at q; exact .inl q
      · exact .inr (Nat.le_of_succ_le q)
    · exact cellsFrom_ge e
theorem cEnv_cells {scope : Scope} {C : Addr} {x c} (B : freeFound env scope.names = true) (e : (cEnv scope C env).cells.lookup x = some c) : env.cells.lookup x = some c ∨ C < c := by
  rcases cellsFrom_ge e with q | q
  · exact .inl ((clFrom_lookup B q).elim (fun q => by cases q) id)
  · exact .inr q
theorem cEnv_own {scope : Scope} {C : Addr} {x c} (hn : (scope.names.map (·.1)).Nodup) (h : scope.names.lookup x = some .cell) (e : (cEnv scope C env).cells.lookup x = some c) : C < c := by
  rcases cellsFrom_ge e with q | q
  · rw [clFrom_acc (fun k hk => by rw [lookup_mem_nodup hn h hk]; intro z; cases z)] at q; cases q
  · exact q

structure NewL (W : Wk) (hid g : PMap) (env : Env) (mu : Mu) (h : Heap) (D : Addr) (ds : List PV) : Prop where
  lone : Lone W hid g env mu D
  obj : ∃ vs n, h.get? D = some (lobj vs n) ∧ Iss g ds vs.toList

inductive LoOk (mu : Mu) (target : Expr) (d : PV) (its : List PV) : Prop where
  | any : (∀ v it, letOwnedTupleGo target it v = pure ()) → LoOk mu target d its
  | tup {es n p} : target = .Tuple es n p → AsList mu d its → (∀ a, a ∈ its → ∃ l, a = .tup l) → LoOk mu target d its
theorem LoOk.run {target : Expr} {d : PV} {its : List PV} {u : Value} {i : Nat} {I : Addr} {h : Heap} {t : Nat} {g : PMap} {a : PV} {v : Value} {Q : Unit → Shared → Prop} {E} (lo : LoOk mu target d its) (x : ItAt u d i I h) (ha : a ∈ its) (iv : Is g a v) (q : Q () (W.S h t)) : wpAny W.M A (letOwnedTupleGo target (.ref I) v) Q E (W.S h t) := by
  cases lo with
  | any e => rw [e]; exact wpAny_pure q
  | tup e hl ht =>
    subst e
    obtain ⟨l, rfl⟩ := ht a ha
    cases iv with
    | tup e1 _ =>
      cases x with
      | list _ _ _ y => exact wpAny_letOwnedTupleGo_listiter (s := W.S h t) y q
      | tup _ _ => exact absurd rfl (hl.notTup.1 _)
      | rng _ => exact absurd rfl (hl.notTup.2 _ _)

theorem loop_tests {prog : Program} {w : World} {R : Result → Shared → Prop} {s : Shared} {elt target iter : Expr} {ifs : List Expr} {scope : Scope} {pos : Pos} {it acc : Value} {env : Env} (I : Nat → Shared → Prop)
    (turn : ∀ n s, I n s → wpAny (model prog w) A (pyNext it) (fun r s₁ => match r with
      | none => R (.ok .next) s₁
      | some v => wpAny (model prog w) A (letOwnedTupleGo target it v) (fun _ s₀ => wpAny (model prog w) A (assign target env v) (fun _ s₂ =>
          wpAny (model prog w) A (forIn ifs true fun c r => if r = true then do let ok ← isTrue c env (eval c env); pure (ForInStep.yield ok) else pure (ForInStep.yield r)) (fun ok s₃ =>
            if ok = true then wpAny (model prog w) A (eval elt env) (fun x s₄ =>
              wpAny (model prog w) A (call (.builtin "list.append") [acc, x]) (fun _ s₅ => ∃ m, m < n ∧ I m s₅) (notedBy (model prog w) A env fun e s' => R (.error e) s') s₄) (notedBy (model prog w) A env fun e s' => R (.error e) s') s₃
            else ∃ m, m < n ∧ I m s₃) (notedBy (model prog w) A env fun e s' => R (.error e) s') s₂) (notedBy (model prog w) A env fun e s' => R (.error e) s') s₀) (notedBy (model prog w) A env fun e s' => R (.error e) s') s₁) (notedBy (model prog w) A env fun e s' => R (.error e) s') s)
    (n : Nat) (h : I n s) :
    codeAny (model prog w) A (.compLoop (.ListComp elt [⟨target, iter, ifs, 0⟩] scope pos) 0 it acc env) R s := by
  refine codeAny_loop rfl I (fun n s hI => ?_) n h
  show wpAny _ A ((compTurn (.ListComp elt [⟨target, iter, ifs, 0⟩] scope pos) 0 it acc env).onRaise (fun x => do noteFrame x env; theTreesLotGoes x)) _ _ s
  refine wpAny_noted ?_
  rw [compTurn_list]
  refine wpAny_bind (wpAny_standAt (wpAny_bind (wpAny_mono (turn n s hI) (fun r s₁ h₁ => ?_) fun _ _ h' => h')))
  cases r with
  | none => exact wpAny_pure h₁
  | some v =>
    refine wpAny_bind (wpAny_mono h₁ (fun _ s₂ h₂ => wpAny_bind (wpAny_mono h₂ (fun _ s₂ h₂ => wpAny_bind (wpAny_mono h₂ (fun ok s₃ h₃ => ?_) fun _ _ h' => h')) fun _ _ h' => h')) fun _ _ h' => h')
    cases ok with
    | false => exact wpAny_pure ⟨rfl, h₃⟩
    | true => exact wpAny_bind (wpAny_bind (wpAny_mono h₃ (fun x s₄ h₄ => wpAny_bind (wpAny_mono h₄ (fun _ s₅ h₅ => wpAny_pure (wpAny_pure ⟨rfl, h₅⟩)) fun _ _ h' => h')) fun _ _ h' => h'))

theorem comp_core {elt target iter : Expr} {ifs : List Expr} {scope : Scope} {pos cpos : Pos} {use : Option (Value → Sem Unit)} {d : PV} {its : List PV} {vars' : Vars} {p : PV → Bool} {f : PV → PV} {tv : PV → Vars}
    {g h t} {Q : Value → Shared → Prop} {E : Value → Shared → Prop}
    (hh : A.handled = none) (he : Ev W A hid env vars mu iter d) (hsrc : Src mu d its) (B : BlockOk scope env) (hk : env.scope.kind = .function) (hv : Over scope env vars' vars) (hf : ∀ x, foldedSetIterable iter env x = pure x)
    (hlo : LoOk mu target d its) (hlen : its.length ≤ 100000)
    (htgt : ∀ hid' C a, a ∈ its → OwnFree hid' scope C env → Tgt W A hid' (cEnv scope C env) vars' mu target a (tv a))
    (htest : ∀ hid' C a, a ∈ its → Tests W A hid' (cEnv scope C env) (tv a) mu ifs (p a))
    (helt : ∀ hid' C a, a ∈ its → p a = true → Ev W A hid' (cEnv scope C env) (tv a) mu elt (f a))
    (hsub : ∀ a, a ∈ its → Sub vars' (tv a))
    (R : Rep W hid g env vars mu h)
    (fin : ∀ C D g' h' t' oC, Le g g' → Rep W (ins hid C oC) g' env vars mu h' → hid C = none → (∀ v, oC.data ≠ .cell v) → (∀ h2, UpTo oC h2 C → ∃ m, h2.Ns C m) → NewL W (ins hid C oC) g' env mu h' D ((its.filter p).map f) → compPost W.M A E use Q (.ref D) C (.ok .next) (W.S h' t')) :
    wpAny W.M A (comprehension (.ListComp elt [⟨target, iter, ifs, 0⟩] scope pos) scope env cpos (newList []) false (eval iter env) use) Q E (W.S h t) := by
  refine wpAny_comprehension_free rfl hf (closure_is B.found) B.kind (fun x hx hl => ?_) (he g h t _ E R fun u g1 h1 t1 l1 R1 i1 => iter_start R1 hsrc i1 fun o ho hit => wpAny_newObj_type ?_)
  · obtain ⟨k, hk'⟩ : ∃ k, scope.names.lookup x.1 = some k := by
      cases q : scope.names.lookup x.1 with
      | some k => exact ⟨k, rfl⟩
      | none => exact absurd hx (fun hm => by
          have : ∀ {l : List (Str × NameKind)}, (x.1, x.2) ∈ l → l.lookup x.1 ≠ none := by
            intro l; induction l with
            | nil => intro h; cases h
            | cons p r ih =>
              obtain ⟨n, k⟩ := p
              intro h
              by_cases e : x.1 = n
              · subst e; rw [lookup_cons_eq]; simp
              · rw [lookup_cons_ne e]
                rcases List.mem_cons.mp h with z | z
                · cases z; exact absurd rfl e
                · exact ih z
          exact this hm q)
    rw [hk', ← lookup_mem_nodup B.nodup hk' hx, hl]
  refine wpAny_newCompEnv ?_
  -- the addresses
  have I1 : h1.get? h1.objs.size = none := Rep.fresh_size
  have eI : (h1.push o).get? h1.objs.size = some o := Heap.get?_push_size _ ho
  have hsz : (h1.push o).objs.size = h1.objs.size + 1 := Heap.size_push ..
  have D1 : h1.get? (h1.push o).objs.size = none := by
    cases q : h1.get? (h1.push o).objs.size with
    | none => rfl
    | some o' => have := Heap.lt_size q; rw [hsz] at this; exact absurd this (Nat.not_lt.mpr (Nat.le_succ _))
  have eD : ((h1.push o).push { cls := .type "list", data := .seq #[] }).get? (h1.push o).objs.size = some { cls := .type "list", data := .seq #[] } := Heap.get?_push_size _ rfl
  have hDI : (h1.push o).objs.size ≠ h1.objs.size := by rw [hsz]; exact Nat.succ_ne_self _
  generalize hH : (h1.push o).push { cls := .type "list", data := .seq #[] } = H at *
  have kH : Kept h1 H := hH ▸ kept_trans (kept_push h1 o) (kept_push _ _)
  have eI' : H.get? h1.objs.size = some o := hH ▸ Heap.get?_push_of_some _ eI
  have hit' : ItAt u d 0 h1.objs.size H := hit.at fun o' q => hH ▸ Heap.get?_push_of_some _ q
  have hIH : h1.objs.size < H.objs.size := Heap.lt_size eI'
  have hDH : (h1.push o).objs.size < H.objs.size := Heap.lt_size eD
  have RC := R1.comp B hk kH hv
  have lone : ∀ {a}, h1.get? a = none → a < H.objs.size → Lone W (rest g1 mu h1) g1 (cEnv scope H.objs.size env) mu a := fun {a} ha hlt =>
    ⟨R1.gnone ha, rest_none ha, fun z => Nat.lt_irrefl _ (show H.objs.size < H.objs.size from (show a = H.objs.size from z) ▸ hlt), fun x c e z => by
      rcases cEnv_cells B.found e with q | q
      · exact (R1.lone ha).cell x c q z
      · rw [z] at q; exact Nat.lt_irrefl _ (Nat.lt_trans q hlt), (R1.lone ha).mu⟩
  have kP : Kept H (pushCells (H.push { cls := .type "dict", data := .dict #[] }) scope.names) := fun b o e => pushCells_keeps _ _ b o (Heap.get?_push_of_some _ e)
  have hC1 : h1.get? H.objs.size = none := by
    cases q : h1.get? H.objs.size with
    | none => rfl
    | some o' => exact absurd (Heap.lt_size (kH _ _ q)) (Nat.lt_irrefl _)
  show codeAny _ _ (.compStart _ 0 _ _ (cEnv scope H.objs.size env)) (compPost W.M A E use Q (.ref (h1.push o).objs.size) H.objs.size) _
  generalize hP : pushCells (H.push { cls := .type "dict", data := .dict #[] }) scope.names = H4 at *
  have R2 := RC.hideAt (lone D1 hDH) (kP _ _ eD)
  have R3 := R2.hideAt (a := h1.objs.size) (by
    have L := lone I1 hIH
    exact ⟨L.g, by rw [ins_other (Ne.symm hDI)]; exact L.hid, L.loc, L.cell, L.mu⟩) (kP _ _ eI')
  generalize (h1.push o).objs.size = D at *
  generalize h1.objs.size = I at *
  have hit4 : ItAt u d 0 I H4 := hit'.at fun o' q => kP _ _ q
  have hrI : ∀ oD, ins (rest g1 mu h1) D oD I = none := fun oD => by rw [ins_other (Ne.symm hDI)]; exact rest_none I1
  have hrD : ∀ oI, ins (rest g1 mu h1) I oI D = none := fun oI => by rw [ins_other hDI]; exact rest_none D1
  have hof : ∃ vs, o.data = .fields vs := by obtain ⟨o', vs, e1, e2⟩ := hit4.fields; rw [kP _ _ eI'] at e1; cases e1; exact ⟨vs, e2⟩
  have ownfree : ∀ oD oI, OwnFree (ins (ins (rest g1 mu h1) D oD) I oI) scope H.objs.size env := fun oD oI x c e1 e2 => by
    have hlt := cEnv_own B.nodup e1 e2
    rw [ins_other (Ne.symm (Nat.ne_of_lt (Nat.lt_trans hIH hlt))), ins_other (Ne.symm (Nat.ne_of_lt (Nat.lt_trans hDH hlt)))]
    refine rest_none ?_
    cases q : h1.get? c with
    | none => rfl
    | some o' => exact absurd (Heap.lt_size (kH _ _ q)) (Nat.not_lt.mpr (Nat.le_of_lt hlt))
  refine codeAny_compStart_list ?_ (iter_self hit4 ?_)
  all_goals
    refine loop_tests (fun n s => ∃ i g' h' t' oI vs nn, n = its.length + 1 - i ∧ i ≤ its.length ∧ s = W.S h' t' ∧ Le g1 g' ∧ h'.get? I = some oI ∧ (∃ vs, oI.data = .fields vs) ∧ ItAt u d i I h' ∧
      h'.get? D = some (lobj vs nn) ∧ Iss g' (((its.take i).filter p).map f) vs.toList ∧ Rep W (ins (ins (rest g1 mu h1) D (lobj vs nn)) I oI) g' (cEnv scope H.objs.size env) vars' mu h') ?_ (its.length + 1)
      ⟨0, g1, H4, t1, o, #[], 0, rfl, Nat.zero_le _, rfl, Le.refl g1, kP _ _ eI', hof, hit4, kP _ _ eD, by simpa using Iss.nil, R3⟩
    rintro n s ⟨i, g', h', t', oI, vs, nn, rfl, hile, rfl, lg, eIh, hoI, hita, eDh, iss, R'⟩
    refine iter_next hh R' hsrc (i1.mono lg) hita (fun a w h2 t2 ha iw hsb hit2 => ?_) fun hge h2 t2 hext => ?_
    · have hlt : i < its.length := by
        rcases Nat.lt_or_ge i its.length with q | q
        · exact q
        · rw [List.getElem?_eq_none q] at ha; cases ha
      have hmem : a ∈ its := List.mem_of_getElem? ha
      obtain ⟨o2, vs2, eo2, ef2⟩ := hit2.fields
      have R4 := R'.rehide (hrI _) (nocell_of hoI) hsb eo2
      refine hlo.run hit2 hmem iw (htgt _ _ a hmem (ownfree _ _) g' h2 t2 w _ _ R4 iw fun h3 t3 R5 => ?_)
      refine htest _ _ a hmem g' h3 t3 _ _ R5 fun g4 h4 t4 l4 R6 => ?_
      have take : (its.take (i + 1)).filter p = (its.take i).filter p ++ (if p a then [a] else []) := take_succ_filter p its i a ha
      have fin2 : ∀ {gg hh tt vs' nn'}, Le g' gg → hh.get? D = some (lobj vs' nn') → Iss gg (((its.take (i + 1)).filter p).map f) vs'.toList →
          Rep W (ins (ins (rest g1 mu h1) D (lobj vs' nn')) I o2) gg (cEnv scope H.objs.size env) (tv a) mu hh →
          ∃ m, m < its.length + 1 - i ∧ ∃ i g' h' t' oI vs nn, m = its.length + 1 - i ∧ i ≤ its.length ∧ W.S hh tt = W.S h' t' ∧ Le g1 g' ∧ h'.get? I = some oI ∧ (∃ vs, oI.data = .fields vs) ∧ ItAt u d i I h' ∧
            h'.get? D = some (lobj vs nn) ∧ Iss g' (((its.take i).filter p).map f) vs.toList ∧ Rep W (ins (ins (rest g1 mu h1) D (lobj vs nn)) I oI) g' (cEnv scope H.objs.size env) vars' mu h' := by
        intro gg hh tt vs' nn' ll eD' is' RR
        obtain ⟨sl2, q1, q2⟩ := RR.hs I o2 (ins_same _ _ _)
        have q3 : hh.get? I = some o2 := by rw [q1, q2 (fun es ep z => by rw [ef2] at z; cases z)]
        exact ⟨its.length + 1 - (i + 1), by (first | lia | omega), i + 1, gg, hh, tt, o2, vs', nn', rfl, by (first | lia | omega), rfl, lg.trans ll, q3, ⟨vs2, ef2⟩, hit2.at fun o q => by rw [eo2] at q; cases q; exact q3, eD', is', RR.forget (hsub a hmem) (List.Sublist.refl _)⟩
      have getD : ∀ {gg hh vv}, Rep W (ins (ins (rest g1 mu h1) D (lobj vs nn)) I o2) gg (cEnv scope H.objs.size env) vv mu hh → hh.get? D = some (lobj vs nn) := fun RR => by
        obtain ⟨sl', q1, q2⟩ := RR.hs D _ (by rw [ins_other hDI, ins_same])
        rw [q1, q2 (fun es ep z => nomatch (show Data.seq vs nn = Data.dict es ep from z))]
      have redo : ∀ {gg hh vv vs' nn'}, Rep W (ins (ins (rest g1 mu h1) D (lobj vs nn)) I o2) gg (cEnv scope H.objs.size env) vv mu hh → hh.get? D = some (lobj vs' nn') →
          Rep W (ins (ins (rest g1 mu h1) D (lobj vs' nn')) I o2) gg (cEnv scope H.objs.size env) vv mu hh := fun RR q => by
        rw [ins_comm hDI] at RR ⊢
        exact RR.rehide (hrD _) (fun v z => by cases z) (Heap.SameBut.refl _ _) q
      cases hp : p a with
      | false =>
        simp only [Bool.false_eq_true, if_false]
        have q := getD R6
        refine fin2 l4 q ?_ (redo R6 q)
        rw [take, hp]; simpa using iss.mono l4
      | true =>
        simp only [if_true]
        refine helt _ _ a hmem hp g4 h4 t4 _ _ R6 fun y g5 h5 t5 l5 R7 iy => ?_
        have q := getD R7
        have hvs : vs.size ≤ 100000 := by
          have := iss.length
          have h3 : (((its.take i).filter p).map f).length ≤ (its.take i).length := by rw [List.length_map]; exact List.length_filter_le _ _
          simp at this h3
          (first | lia | omega)
        refine append_K q (by (first | lia | omega)) fun h6 n6 e6 hs6 => ?_
        refine fin2 (l4.trans l5) e6 ?_ ?_
        · rw [take, hp, List.map_append]
          simpa using ((iss.mono (l4.trans l5)).append (.cons iy .nil))
        · have R8 := R7
          rw [ins_comm hDI] at R8 ⊢
          exact R8.rehide (hrD _) (fun v z => by cases z) hs6 e6
    · have e : i = its.length := by (first | lia | omega)
      subst e
      have R4 := R'.letgo (hrI _) (nocell_of hoI) hext
      obtain ⟨slD, qD, qD2⟩ := R4.hs D _ (ins_same _ _ _)
      have : slD = #[] := qD2 (fun es ep z => nomatch (show Data.seq vs nn = Data.dict es ep from z))
      subst this
      have gD : g' D = none := by
        cases q : g' D with
        | none => rfl
        | some x => have := R4.gh D x q; rw [ins_same] at this; cases this
      have R5 := R4.unhide (rest_none D1)
      have RO := R1.back lg R5.e (fun a h => h) (fun a l hm _ => by
        obtain ⟨vs, n, e1, r1, r2, _⟩ := R5.mus a l hm
        exact ⟨vs, n, e1, r1, r2⟩)
      obtain ⟨m, oC, es, ep, eC, eCd, hrest⟩ := R5.ns
      have eC' : h2.get? H.objs.size = some oC := eC
      have LC : Lone W hid g' env mu H.objs.size := ⟨R5.gL, R1.hnone hC1, (R1.lone hC1).loc, (R1.lone hC1).cell, (R1.lone hC1).mu⟩
      have hDC : D ≠ H.objs.size := Nat.ne_of_lt hDH
      refine fin H.objs.size D g' h2 t2 oC (l1.trans lg) (RO.hideAt LC eC') LC.hid (fun v z => by rw [eCd] at z; cases z) (fun h3 ⟨sl3, q3, _⟩ => ⟨m, _, es, ep, q3, eCd, hrest⟩) ⟨⟨gD, by rw [ins_other hDC]; exact R1.hnone D1, (R1.lone D1).loc, (R1.lone D1).cell, (R1.lone D1).mu⟩, vs, nn, qD, ?_⟩
      have := iss
      rw [List.take_length] at this
      exact this
end
end Mine
end

section
open PySem PySem.W PyProof.Rows PySem.Calls PySem.SeqAt
set_option linter.unusedVariables false
set_option maxRecDepth 100000
namespace Mine
section
variable {W : Wk} {A : Around} {hid : PMap} {env : Env} {vars : Vars} {mu : Mu} {K K' : Out → Prop}

def EvNew (W : Wk) (A : Around) (hid : PMap) (env : Env) (vars : Vars) (mu : Mu) (e : Expr) (ds : List PV) : Prop :=
  ∀ g h t (Q : Value → Shared → Prop) (E : Value → Shared → Prop), Rep W hid g env vars mu h →
    (∀ D g' h' t', Le g g' → Rep W hid g' env vars mu h' → NewL W hid g' env mu h' D ds → Q (.ref D) (W.S h' t')) → wpAny W.M A (eval e env) Q E (W.S h t)
theorem EvNew.ev {e ds} (x : EvNew W A hid env vars mu e ds) : Ev W A hid env vars mu e (.list ds) := fun g h t Q E R k =>
  x g h t Q E R fun D g' h' t' l R' N => by
    obtain ⟨L, vs, n, e, i⟩ := N
    have lle := le_ins (o := lobj vs n) L.g
    exact k _ _ h' t' (l.trans lle) (R'.freezeAt L e) (.list (ins_same _ _ _) (i.mono lle))

theorem new_obj {g h D vs n ds} (R : Rep W hid g env vars mu h) (h0 : h.get? D = none) {h'} (k : Kept h h') (e : h'.get? D = some (lobj vs n)) (i : Iss g ds vs.toList) : NewL W hid g env mu h' D ds :=
  ⟨R.lone h0, vs, n, e, i⟩

theorem evnew_list {es : List Expr} {ds pos} (ha : EvArgs W A hid env vars mu es ds) (hl : ds.length ≤ 1000) : EvNew W A hid env vars mu (.List es pos) ds := fun g h t Q E R k =>
  List_ (ha pos g h t _ E R fun us g1 h1 t1 l1 R1 i1 => by
    refine wpAny_newObj_type ?_ (by show us.toArray.size ≤ sizeLine; rw [List.size_toArray, i1.length, sizeLine_eq]; (first | lia | omega))
    exact k _ g1 _ t1 l1 (R1.keeps (kept_push h1 _)) (new_obj R1 Rep.fresh_size (kept_push h1 _) (Heap.get?_push_size _ rfl) (by simpa using i1)))

theorem times_new {h : Heap} {t : Nat} {l : Addr} {items : Array Value} {k : Nat} {x : Int} {u : Tok} {Q : Value → Shared → Prop} {E} (hl : h.get? l = some { cls := .type "list", dict := none, data := .seq items k, slots := #[] }) (h0 : 0 ≤ x) (h1 : x ≤ 100000) (h2 : items.size ≤ 100)
    (q : Q (.ref h.objs.size) (W.S (h.push { cls := .type "list", data := .seq (List.foldl (fun x1 x2 => x1 ++ x2) #[] (List.replicate (if items.isEmpty = true then 0 else x.toNat) items)) }) t)) :
    wpAny W.M A (binaryOp .Mult (.ref l) (.int x u)) Q E (W.S h t) := by
  have b : items.size * x.toNat ≤ 100 * 100000 := Nat.mul_le_mul h2 (by (first | lia | omega))
  have T : (W.S h t).TypeIs (.ref l) "list" := ⟨_, hl, rfl⟩
  refine wpAny_binaryOp_repeat_ref (T := "list") (U := "int") (by decide) T (fun s' => typeIs_int s' x u) noFill_list_mul F.fills_int_mul F.slot_int_rmul repeat_list F.slot_int_index.lookup ?_
  refine call_meets F.slot_int_rmul (typeIs_int (W.S h t) x u) F.entry_int_rmul (F.args_int_rmul_2 _ _) (int___rmul___int_list x u l items k) ⟨hl, rfl, T, ?_⟩
  refine call_meets F.slot_list_mul T F.entry_list_mul (F.args_list_mul_2 _ _) (AutoListH.list___mul___list_int_3 l items k x u ?_ ?_ ?_) ⟨hl, q⟩
  · simp [Builtin.List.listFitsIndex]; (first | lia | omega)
  · (first | lia | omega)
  · simp [Builtin.List.listTooLong, sizeLine]; (first | lia | omega)

theorem evnew_rep {c e : Expr} {p pos : Pos} {a : PV} {n : Int} (hc : EvArgs W A hid env vars mu [c] [a]) (he : Ev W A hid env vars mu e (.int n)) (h0 : 0 ≤ n) (hn : n ≤ 100000) : EvNew W A hid env vars mu (.BinOp (.List [c] p) .Mult e pos) (List.replicate n.toNat a) := fun g h t Q E R k => by
  refine wpAny_BinOp (List_ (hc p g h t _ E R fun us g1 h1 t1 l1 R1 i1 => ?_))
  cases i1 with
  | cons i1 r =>
    cases r
    rename_i v
    refine wpAny_newObj_type ?_ (by show (1 : Nat) ≤ sizeLine; rw [sizeLine_eq]; (first | lia | omega))
    obtain ⟨R2, l2⟩ := R1.alloc { cls := .type "list", data := .seq [v].toArray } rfl
    refine he _ _ t1 _ E R2 fun w g3 h3 t3 l3 R3 i3 => ?_
    cases i3
    have e0 : h3.get? h1.objs.size = some { cls := .type "list", data := .seq [v].toArray } := R3.gs _ _ (l3 _ _ (ins_same _ _ _))
    refine times_new e0 h0 hn (by simp) ?_
    have hrep : (List.foldl (fun x1 x2 => x1 ++ x2) #[] (List.replicate (if ([v].toArray).isEmpty = true then 0 else n.toNat) [v].toArray) : Array Value).toList = List.replicate n.toNat v := by
      have key : ∀ (m : Nat) (acc : Array Value), (List.foldl (fun x1 x2 => x1 ++ x2) acc (List.replicate m [v].toArray) : Array Value).toList = acc.toList ++ List.replicate m v := by
        intro m
        induction m with
        | zero => intro acc; simp
        | succ m ih => intro acc; rw [List.replicate_succ, List.foldl_cons, ih, List.replicate_succ]; simp
      simpa using key n.toNat #[]
    refine k _ g3 _ t3 ((l1.trans l2).trans l3) (R3.keeps (kept_push h3 _)) (new_obj R3 Rep.fresh_size (kept_push h3 _) (Heap.get?_push_size _ rfl) ?_)
    rw [hrep]
    have iv : Is g3 a v := i1.mono (l2.trans l3)
    clear hrep
    induction n.toNat with
    | zero => exact .nil
    | succ m ih => exact .cons iv ih

theorem compPost_ok {M : Model} {A : Around} {E} {Q : Value → Shared → Prop} {acc : Value} {C : Addr} {s : Shared} (h : ∃ m, s.heap.Ns C m) (k : ∀ h', Heap.SameBut C s.heap h' → Q acc { s with heap := h' }) : compPost M A E none Q acc C (.ok .next) s := by
  obtain ⟨m, hm⟩ := h
  exact ⟨m, hm, k⟩

structure CompOk (W : Wk) (A : Around) (hid : PMap) (env : Env) (vars : Vars) (mu : Mu) (elt target iter : Expr) (ifs : List Expr) (scope : Scope) (its : List PV) (p : PV → Bool) (f : PV → PV) : Prop where
  run : ∃ (d : PV) (vars' : Vars) (tv : PV → Vars), Ev W A hid env vars mu iter d ∧ Src mu d its ∧ BlockOk scope env ∧ Over scope env vars' vars ∧ (∀ x, foldedSetIterable iter env x = pure x) ∧ LoOk mu target d its ∧ its.length ≤ 100000 ∧
    (∀ hid' C a, a ∈ its → OwnFree hid' scope C env → Tgt W A hid' (cEnv scope C env) vars' mu target a (tv a)) ∧
    (∀ hid' C a, a ∈ its → Tests W A hid' (cEnv scope C env) (tv a) mu ifs (p a)) ∧
    (∀ hid' C a, a ∈ its → p a = true → Ev W A hid' (cEnv scope C env) (tv a) mu elt (f a)) ∧ (∀ a, a ∈ its → Sub vars' (tv a))
  hh : A.handled = none
  hk : env.scope.kind = .function

theorem evnew_comp {elt target iter : Expr} {ifs : List Expr} {scope : Scope} {pos : Pos} {its p f} (c : CompOk W A hid env vars mu elt target iter ifs scope its p f) :
    EvNew W A hid env vars mu (.ListComp elt [⟨target, iter, ifs, 0⟩] scope pos) ((its.filter p).map f) := fun g h t Q E R k => by
  obtain ⟨⟨d, vars', tv, he, hsrc, B, hv, hf, hlo, hlen, htgt, htest, helt, hsub⟩, hh, hk⟩ := c
  rw [eval_ListComp]
  refine comp_core hh he hsrc B hk hv hf hlo hlen htgt htest helt hsub R fun C D g' h' t' oC l R' hC hnc hns N => ?_
  refine compPost_ok (hns _ (R'.hs C oC (ins_same _ _ _))) fun h2 hs2 => ?_
  have R2 := R'.letgo hC hnc hs2.extBut
  obtain ⟨L, vs, n, e, i⟩ := N
  have hDC : D ≠ C := fun z => by have := L.hid; rw [z, ins_same] at this; cases this
  refine k D g' h2 t' l R2 ⟨⟨L.g, by have := L.hid; rw [ins_other hDC] at this; exact this, L.loc, L.cell, L.mu⟩, vs, n, (hs2.2 D hDC).trans e, i⟩

theorem ex_own {x : Str} {p pos : Pos} {e : Expr} {ds : List PV} (he : EvNew W A hid env vars mu e ds) (hs : Sto hid env x) (hsw : swapsWith e (some (.Name x p)) pos.line env = pure false) (hk : env.scope.kind = .function) (hd : (x == ("__debug__" : Str)) = false) :
    Ex1 W A hid env vars mu (.Assign [.Name x p] e pos) (fun o => ∃ D, o = .next ((x, .loc D) :: vars) ((D, ds) :: mu)) := fun g h t R =>
  wpAny_Assign_Name (he g h t _ _ R fun D g1 h1 t1 l1 R1 N => by
    obtain ⟨L, vs, n, e, i⟩ := N
    exact store_K hs hk hd (R1.own L e i) .loc fun h2 t2 R2 => ⟨_, _, g1, h2, t2, rfl, ⟨D, rfl⟩, l1, R2⟩) hsw

theorem ex_comp {x : Str} {px spos : Pos} {elt target iter : Expr} {ifs : List Expr} {scope : Scope} {pos : Pos} {its p f} (c : CompOk W A hid env vars mu elt target iter ifs scope its p f)
    (hsw : swapsWith (.ListComp elt [⟨target, iter, ifs, 0⟩] scope pos) (some (.Name x px)) spos.line env = pure true) (hl : env.kindOf x = some .local) (hd : (x == ("__debug__" : Str)) = false) :
    Ex1 W A hid env vars mu (.Assign [.Name x px] (.ListComp elt [⟨target, iter, ifs, 0⟩] scope pos) spos) (· = .next ((x, .list ((its.filter p).map f)) :: vars) mu) := fun g h t R => by
  obtain ⟨⟨d, vars', tv, he, hsrc, B, hv, hf, hlo, hlen, htgt, htest, helt, hsub⟩, hh, hk⟩ := c
  rw [exec_Assign_Name_used x px _ spos hsw]
  refine wpAny_bind (wpAny_standAt (wpAny_bind ?_))
  show wpAny _ _ (do let _ ← comprehension (.ListComp elt [⟨target, iter, ifs, 0⟩] scope pos) scope env _ (newList []) false (eval iter env) (some (assign (.Name x px) env))) _ _ _
  refine wpAny_bind ?_
  refine comp_core hh he hsrc B hk hv hf hlo hlen htgt htest helt hsub R fun C D g' h' t' oC l R' hC hnc hns N => ?_
  obtain ⟨L, vs, n, e, i⟩ := N
  have lle := le_ins (o := lobj vs n) L.g
  show wpAny _ _ (assign (.Name x px) env (.ref D)) _ _ _
  refine wpAny_assign_Name (store_K (.loc hl) hk hd (R'.freezeAt L e) (.list (ins_same _ _ _) (i.mono lle)) fun h2 t2 R2 => ?_)
  obtain ⟨m, hm⟩ := hns _ (R2.hs C oC (ins_same _ _ _))
  refine ⟨m, hm, fun h3 hs3 => ?_⟩
  exact wpAny_pure (wpAny_pure ⟨_, _, _, h3, t2, rfl, rfl, l.trans lle, R2.letgo hC hnc hs3.extBut⟩)
end
end Mine
end

section
open PySem PySem.W PyProof.Rows PySem.Calls PySem.SeqAt
set_option linter.unusedVariables false
set_option maxRecDepth 100000
namespace Mine

def FrIn (h : Heap) (l : List Env) : Prop := ∀ e ∈ l, e.scope.kind = .function ∧ ∃ L o es ep, e.frame = some L ∧ h.get? L = some o ∧ o.data = .dict es ep
def FrHid (hid : PMap) (l : List Env) : Prop := ∀ e ∈ l, e.scope.kind = .function ∧ ∃ L o es ep, e.frame = some L ∧ hid L = some o ∧ o.data = .dict es ep
theorem funFrames_in {h : Heap} {as : List Addr} : ∀ {l : List Env}, FrIn h l → (∀ e ∈ l, ∀ a, e.frame = some a → a ∈ as) → h.FunFrames (hideAll h as) l
  | [], _, _ => trivial
  | env :: r, f, hin => by
    obtain ⟨hk, L, o, es, ep, hf, ho, hd⟩ := f env (.head _)
    exact ⟨by rw [hk]; decide, ⟨L, o, hf, hideAll_none _ (hin env (.head _) L hf), ho, fun vs q => by rw [hd] at q; cases q⟩, funFrames_in (fun e he => f e (.tail _ he)) fun e he => hin e (.tail _ he)⟩

def Fly (l : List Env) (g : PMap) (h₁ : Heap) (x : Value) (a : Addr) (h' : Heap) : Prop :=
  ∃ B a0, Heap.FlyingW B l a x a0 h' ∧ (∀ b o, g b = some o → B.get? b = some o) ∧ (∀ b o, h₁.get? b = some o → (∀ es ep, o.data ≠ .dict es ep) → B.get? b = some o) ∧ h₁.UpToSlots h'

section
variable {W : Wk} {A : Around} {hid g : PMap} {env : Env} {outer : List Env} {L a : Addr} {h₁ : Heap} {x : Value} {s : Shared}

structure FrOk (g : PMap) (h₁ : Heap) (l : List Env) : Prop where
  here : FrIn h₁ l
  free : ∀ e ∈ l, ∀ L, e.frame = some L → g L = none
  old : ∀ b o, g b = some o → h₁.get? b = some o

theorem FrOk.base (f : FrOk g h₁ outer) : (∀ b o, (hideAll h₁ (outer.filterMap (·.frame))).get? b = some o → h₁.get? b = some o) ∧ h₁.FunFrames (hideAll h₁ (outer.filterMap (·.frame))) outer ∧
    (∀ b o, g b = some o → (hideAll h₁ (outer.filterMap (·.frame))).get? b = some o) ∧ (∀ b o, h₁.get? b = some o → (∀ es ep, o.data ≠ .dict es ep) → (hideAll h₁ (outer.filterMap (·.frame))).get? b = some o) := by
  refine ⟨fun b o q => of_hideAll _ q, funFrames_in f.here fun e he b hb => List.mem_filterMap.mpr ⟨e, he, hb⟩, fun b o q => hideAll_get _ (f.old b o q) fun hm => ?_, fun b o q hn => hideAll_get _ q fun hm => ?_⟩
  · obtain ⟨e, he, hf⟩ := List.mem_filterMap.mp hm
    rw [f.free e he b hf] at q; cases q
  · obtain ⟨e, he, hf⟩ := List.mem_filterMap.mp hm
    obtain ⟨_, L, o', es, ep, hf', ho, hd⟩ := f.here e he
    rw [hf] at hf'; cases hf'
    rw [q] at ho; cases ho
    exact hn es ep hd

theorem leaves_held {M : Model} {base : Heap} {e : Addr} {cls a0 : Value} {E} {Q : Unit → Shared → Prop} (hf : env.frame = some L) (hh : Heap.HeldW base (env :: outer) e cls a0 L s.heap)
    (hQ : ∀ h', Heap.FlyingW base outer e cls a0 h' → s.heap.UpToSlots h' → Q () { s with heap := h' }) : wpAny M A (leaving env (.ref e)) Q E s := by
  unfold leaving
  refine wpAny_bind (wpAny_noteFrame_againW hf hh.2.2.2 ?_)
  refine wpAny_landsW hh fun h' hfl hs => ?_
  obtain ⟨k1, k2, ⟨_, _, k3⟩, k4⟩ := hfl
  exact hQ h' ⟨k1, k2, k3, k4⟩ hs

theorem leave_x {E} {Q : Unit → Shared → Prop} (hfr : A.frames = some (env :: outer)) (f : FrOk g h₁ (env :: outer)) (X : XForm W (env :: outer) g h₁ x a s.heap)
    (hQ : ∀ h', Fly outer g h₁ x a h' → Q () { s with heap := h' }) : wpAny W.M A (leaving env (.ref a)) Q E s := by
  obtain ⟨_, L, _, _, _, hf, _, _⟩ := f.here env (.head _)
  cases X with
  | made args hx =>
    obtain ⟨b1, b2, b3, b4⟩ := f.base
    exact wpAny_leaves_madeW hfr hf b1 b2 hx fun h' t x1 x2 x3 x4 => hQ h' ⟨_, _, x1, b3, b4, (Heap.UpToSlots.of_keeps hx.keeps).trans x4⟩
  | fly B a0 q1 q2 q3 q4 => exact wpAny_leaves_onW hfr hf q1 fun h' x1 x2 => hQ h' ⟨B, a0, x1, q2, q3, q4.trans x2⟩
  | held B a0 L' env' r e hf' q1 q2 q3 q4 =>
    cases e
    rw [hf] at hf'; cases hf'
    exact leaves_held hf q1 fun h' x1 x2 => hQ h' ⟨B, a0, x1, q2, q3, q4.trans x2⟩

theorem note_x {E} {Q : Unit → Shared → Prop} (hfr : A.frames = some (env :: outer)) (f : FrOk g h₁ (env :: outer)) (hf : env.frame = some L) (X : XForm W (env :: outer) g h₁ x a s.heap)
    (hQ : ∀ h' B a0, Heap.HeldW B (env :: outer) a x a0 L h' → (∀ b o, g b = some o → B.get? b = some o) → (∀ b o, h₁.get? b = some o → (∀ es ep, o.data ≠ .dict es ep) → B.get? b = some o) → h₁.UpToSlots h' → Q () { s with heap := h' }) :
    wpAny W.M A (noteFrame (.ref a) env) Q E s := by
  cases X with
  | made args hx =>
    obtain ⟨b1, b2, b3, b4⟩ := f.base
    obtain ⟨t, he, htn, ht⟩ := hx.there
    have fresh : ∀ b, h₁.get? b = none → (hideAll h₁ ((env :: outer).filterMap (·.frame))).get? b = none := fun b hb => by
      cases hq : (hideAll h₁ ((env :: outer).filterMap (·.frame))).get? b with
      | none => rfl
      | some o' => have := b1 b o' hq; rw [hb] at this; cases this
    unfold noteFrame
    simp only [hf]
    refine wpAny_bind (wpAny_field he rfl rfl ?_)
    rw [if_neg (by simp)]
    refine wpAny_entryW (a0 := .ref t) hfr (b2.of_keeps fun b o hb _ => ⟨o, hx.keeps b o hb, rfl⟩) hf he (fun b o hb => hx.keeps b o (b1 b o hb)) (fresh a hx.new) rfl (by show 1 < 6; decide) rfl fun h' N => ?_
    obtain ⟨k1, k2, k3, k4⟩ := N
    exact hQ h' _ _ ⟨k1, fresh a hx.new, k2, k3⟩ b3 b4 ((Heap.UpToSlots.of_keeps hx.keeps).trans k4)
  | fly B a0 q1 q2 q3 q4 => exact wpAny_looks_onW hfr hf q1 fun h' x1 x2 => hQ h' B a0 x1 q2 q3 (q4.trans x2)
  | held B a0 L' env' r e hf' q1 q2 q3 q4 =>
    cases e
    rw [hf] at hf'; cases hf'
    exact wpAny_noteFrame_againW hf q1.2.2.2 (hQ s.heap B a0 q1 q2 q3 q4)

theorem setFlight_held {M : Model} {base : Heap} {l : List Env} {e : Addr} {cls a0 : Value} {E} {Q : Unit → Shared → Prop} (R : Heap.HeldW base l e cls a0 L s.heap)
    (h : ∀ h', Heap.HeldW base l e cls a0 L h' → s.heap.UpToSlots h' → Q () { s with heap := h' }) : wpAny M A (setFlight (.ref e) (some L)) Q E s := by
  obtain ⟨hkb, hen, hl, oe, vs, T, oT, ts, he, hcls, hd, h1, hnT, hTe, hT, hdT, h3⟩ := R
  have hsz3 : 3 < ts.size := (Array.getElem?_eq_some_iff.mp h3).1
  have other : ∀ b, b ≠ T → (s.heap.update T (Obj.mapFields (·.setIfInBounds 3 ((some L).elim Value.none fun f => rawInt f)))).get? b = s.heap.get? b :=
    fun b hb => Heap.get?_update_other _ _ (Ne.symm hb)
  have noRecord : ∀ b o, s.heap.get? b = some o → (∀ vs, o.data ≠ .fields vs) → b ≠ T := fun b o hb hnf q => by
    rw [q, hT] at hb; injection hb with hb; subst hb; exact hnf ts hdT
  unfold setFlight
  refine wpAny_bind (wpAny_field he hd h1 ?_)
  rw [if_pos (show (Value.ref T != Value.none) = true from by simp)]
  refine wpAny_setField hT hdT hsz3 (h _ ⟨fun b o hbo => (other b fun q => by rw [q, hnT] at hbo; cases hbo).trans (hkb b o hbo), hen,
    hl.of_keeps fun b o hb hnf => ⟨o, (other b (noRecord b o hb hnf)).trans hb, rfl⟩, ?_⟩ fun b o hb hnf => ⟨o.slots, (other b (noRecord b o hb hnf)).trans hb⟩)
  exact ⟨oe, vs, T, _, _, (other e (Ne.symm hTe)).trans he, hcls, hd, h1, hnT, hTe, Heap.get?_update_self _ hT (Obj.isFreed_of_fields (Obj.data_mapFields hdT _)), Obj.data_mapFields hdT _, by simp [hsz3]⟩

theorem back_x {E : Value → Shared → Prop} {B : Heap} {a0 : Value} (hf : env.frame = some L) (q1 : Heap.HeldW B (env :: outer) a x a0 L s.heap) (q2 : ∀ b o, g b = some o → B.get? b = some o) (q3 : ∀ b o, h₁.get? b = some o → (∀ es ep, o.data ≠ .dict es ep) → B.get? b = some o)
    (q4 : h₁.UpToSlots s.heap) (hE : ∀ h', XForm W (env :: outer) g h₁ x a h' → E (.ref a) { s with heap := h' }) : cameBackBy W.M A env E (.ref a) s := by
  show wpAny _ _ (do
    if (← field (.ref a) 1) == .none then unsupported "frame.own-activation:exception-without-traceback"
    setFlight (.ref a) env.frame) _ _ _
  have q := q1
  obtain ⟨_, _, _, oe, vs, T, oT, ts, he, hcls, hd, h1, _⟩ := q
  refine wpAny_bind (wpAny_field he hd h1 ?_)
  rw [if_neg (by simp)]
  rw [hf]
  exact setFlight_held q1 fun h' k1 k2 => hE h' (.held B a0 L env outer rfl hf k1 q2 q3 (q4.trans k2))
end
end Mine
end

section
open PySem PySem.W PyProof.Rows PySem.Calls PySem.SeqAt
set_option linter.unusedVariables false
set_option maxRecDepth 100000
namespace Mine

structure FrX (A : Around) (hid : PMap) (env : Env) (outer : List Env) : Prop where
  frames : A.frames = some (env :: outer)
  kind : env.scope.kind = .function
  loc : env.frame = some env.locals
  hid : FrHid hid outer
theorem FrHid.mono {hid hid' : PMap} {l : List Env} (k : ∀ a o, hid a = some o → hid' a = some o) (f : FrHid hid l) : FrHid hid' l := fun e he => by
  obtain ⟨h1, L, o, es, ep, h2, h3, h4⟩ := f e he
  exact ⟨h1, L, o, es, ep, h2, k _ _ h3, h4⟩
theorem FrX.ins {A : Around} {hid : PMap} {env : Env} {outer : List Env} {I : Addr} {o : Obj} (f : FrX A hid env outer) (hI : hid I = none) : FrX A (ins hid I o) env outer :=
  ⟨f.frames, f.kind, f.loc, f.hid.mono fun a o' q => by rw [ins_other (fun z => by rw [z, hI] at q; cases q)]; exact q⟩

section
variable {W : Wk} {A : Around} {hid : PMap} {env : Env} {vars : Vars} {mu : Mu} {K K' : Out → Prop}

theorem Rep.frOk {g h outer} (R : Rep W hid g env vars mu h) (F : FrX A hid env outer) : FrOk g h (env :: outer) := by
  refine ⟨fun e he => ?_, fun e he L hL => ?_, R.gs⟩
  · rcases List.mem_cons.mp he with rfl | he
    · obtain ⟨m, o, es, ep, ho, hd, _⟩ := R.ns
      exact ⟨F.kind, _, o, es, ep, F.loc, ho, hd⟩
    · obtain ⟨h1, L, o, es, ep, h2, h3, h4⟩ := F.hid e he
      obtain ⟨sl, e1, _⟩ := R.hs L o h3
      exact ⟨h1, L, _, es, ep, h2, e1, h4⟩
  · rcases List.mem_cons.mp he with rfl | he
    · rw [F.loc] at hL; cases hL; exact R.gL
    · obtain ⟨_, L', o, _, _, h2, h3, _⟩ := F.hid e he
      rw [h2] at hL; cases hL
      cases q : g L with
      | none => rfl
      | some o' => rw [R.gh L o' q] at h3; cases h3

def TurnX (J : Vars → Mu → Prop) (K : Out → Prop) : Out → Prop
  | .next v m => ∃ v' m', Sub v' v ∧ m'.Sublist m ∧ J v' m'
  | .cont v m => ∃ v' m', Sub v' v ∧ m'.Sublist m ∧ J v' m'
  | .brk v m => K (.next v m)
  | .ret d => K (.ret d)
  | .exc x v m => K (.exc x v m)

theorem ex_forG {x : Str} {p pos : Pos} {e : Expr} {body : List Stmt} {d : PV} {its : List PV} (J : Nat → Vars → Mu → Prop) (hx : (∃ outer, FrX A hid env outer) ∨ ∀ x v m, ¬ K (.exc x v m)) (hh : A.handled = none) (he : Ev W A hid env vars mu e d) (hsrc : ∀ i v m, J i v m → Src m d its) (h0 : J 0 vars mu)
    (hs : Sto hid env x) (hk : env.scope.kind = .function) (hd : (x == ("__debug__" : Str)) = false) (hf : ∀ x, foldedSetIterable e env x = pure x)
    (turn : ∀ hid' i v m a, (∀ y, Sto hid env y → Sto hid' env y) → (∀ outer, FrX A hid env outer → FrX A hid' env outer) → its[i]? = some a → J i v m → Exs W A hid' env ((x, a) :: v) m body (TurnX (J (i + 1)) K))
    (done : ∀ v m, J its.length v m → K (.next v m)) : Ex1 W A hid env vars mu (.For (.Name x p) e body [] pos) K := fun g h t R => by
  refine wpAny_For (he g h t _ _ R fun u g1 h1 t1 l1 R1 i1 => iter_start R1 (hsrc 0 _ _ h0) i1 fun o ho hit => ?_) hf
  have hI : h1.get? h1.objs.size = none := Rep.fresh_size
  have hIh : hid h1.objs.size = none := R1.hnone hI
  have e0 : (h1.push o).get? h1.objs.size = some o := Heap.get?_push_size _ ho
  have R2 := R1.hide hI (kept_push h1 o) e0
  generalize h1.objs.size = I at *
  have hof : ∃ vs, o.data = .fields vs := by obtain ⟨o', vs, e1, e2⟩ := hit.fields; rw [e0] at e1; cases e1; exact ⟨vs, e2⟩
  have hsto : ∀ o' y, Sto hid env y → Sto (ins hid I o') env y := fun o' y s => by
    rcases s with s | ⟨c, s1, s2, s3⟩
    · exact .loc s
    · refine .cell c s1 s2 ?_
      obtain ⟨⟨v, oc, e1, e2⟩, _⟩ := R1.cell y c s2
      rw [ins_other (fun z => by rw [z, hI] at e1; cases e1)]; exact s3
  refine codeAny_forLoop (fun n s => ∃ i v m g' h' t' o', n = its.length + 1 - i ∧ i ≤ its.length ∧ s = W.S h' t' ∧ Le g1 g' ∧ J i v m ∧ h'.get? I = some o' ∧ (∃ vs, o'.data = .fields vs) ∧ ItAt u d i I h' ∧ Rep W (ins hid I o') g' env v m h') ?_ (its.length + 1)
    ⟨0, vars, mu, g1, _, t1, o, rfl, Nat.zero_le _, rfl, Le.refl g1, h0, e0, hof, hit, R2⟩
  rintro n s ⟨i, v, m, g', h', t', o', rfl, hile, rfl, lg, hJ, eo, hof', hita, R'⟩
  refine iter_next hh R' (hsrc i v m hJ) (i1.mono lg) hita (fun a w h2 t2 ha iw hsb hit2 => ?_) fun hge h2 t2 hext => ?_
  · have hlt : i < its.length := by
      rcases Nat.lt_or_ge i its.length with q | q
      · exact q
      · rw [List.getElem?_eq_none q] at ha; cases ha
    obtain ⟨o2, vs2, eo2, ef2⟩ := hit2.fields
    have R3 := R'.rehide hIh (nocell_of hof') hsb eo2
    refine wpAny_assign_Name (store_K (hsto o2 x hs) hk hd R3 iw fun h3 t3 R4 => ?_)
    refine wpAny_mono (turn (ins hid I o2) i v m a (hsto o2) (fun _ FX => FX.ins hIh) ha hJ g' h3 t3 R4) (fun f s3 y => ?_) fun e3 s3 y => ?_
    · have fin : ∀ {v m gg h4 t4}, (∃ v' m', Sub v' v ∧ m'.Sublist m ∧ J (i + 1) v' m') → Le g' gg → Rep W (ins hid I o2) gg env v m h4 → ∃ k, k < its.length + 1 - i ∧ ∃ i v m g' h' t' o', k = its.length + 1 - i ∧ i ≤ its.length ∧ W.S h4 t4 = W.S h' t' ∧ Le g1 g' ∧ J i v m ∧ h'.get? I = some o' ∧ (∃ vs, o'.data = .fields vs) ∧ ItAt u d i I h' ∧ Rep W (ins hid I o') g' env v m h' := by
        rintro v m gg h4 t4 ⟨v', m', s1, s2, hJ'⟩ l4 R5
        obtain ⟨sl, q1, q2⟩ := R5.hs I o2 (ins_same _ _ _)
        have q3 : h4.get? I = some o2 := by rw [q1, q2 (fun es ep z => by rw [ef2] at z; cases z)]
        refine ⟨its.length + 1 - (i + 1), by (first | lia | omega), i + 1, v', m', gg, h4, t4, o2, rfl, by (first | lia | omega), rfl, lg.trans l4, hJ', q3, ⟨vs2, ef2⟩, hit2.at fun o q => ?_, R5.forget s1 s2⟩
        rw [eo2] at q; cases q; exact q3
      cases f with
      | next => obtain ⟨v, m, gg, h4, t4, rfl, k, l4, R5⟩ := y; exact fin k l4 R5
      | cont => obtain ⟨v, m, gg, h4, t4, rfl, k, l4, R5⟩ := y; exact fin k l4 R5
      | brk => obtain ⟨v, m, gg, h4, t4, rfl, k, l4, R5⟩ := y; exact ⟨v, m, gg, h4, t4, rfl, k, (l1.trans lg).trans l4, R5.unhide hIh⟩
      | ret w => obtain ⟨d, gg, h4, t4, rfl, k, l4, R5, i5⟩ := y; exact ⟨d, gg, h4, t4, rfl, k, (l1.trans lg).trans l4, R5.unhide hIh, i5⟩
    · obtain ⟨x, v, m, g₁, h₁, a, l, hh', tt, rfl, rfl, k, l4, R5, efr, XF⟩ := y
      rcases hx with ⟨outer, FX⟩ | hx
      case inr => exact absurd k (hx x v m)
      rw [FX.frames] at efr
      cases efr
      have FO := (R5.unhide hIh).frOk FX
      refine note_x FX.frames FO FX.loc XF fun h2 B a0 q1 q2 q3 q4 => ?_
      exact back_x (s := W.S h2 tt) FX.loc q1 q2 q3 q4 fun h3 X3 => ⟨x, v, m, g₁, h₁, a, _, h3, tt, rfl, rfl, k, (l1.trans lg).trans l4, R5.unhide hIh, FX.frames, X3⟩
  · have e : i = its.length := by (first | lia | omega)
    subst e
    exact wpAny_execs_nil ⟨v, m, g', h2, t2, rfl, done v m hJ, l1.trans lg, R'.letgo hIh (nocell_of hof') hext⟩

theorem turn_free {J : Vars → Mu → Prop} {o : Out} (h : TurnK J K o) : TurnX J (fun o => K o ∧ ∀ x v m, o ≠ .exc x v m) o := by
  cases o with
  | next v m => exact h
  | cont v m => exact h
  | brk v m => exact ⟨h, fun _ _ _ z => nomatch z⟩
  | ret d => exact ⟨h, fun _ _ _ z => nomatch z⟩
  | exc x v m => exact h.elim
theorem ex_for {x : Str} {p pos : Pos} {e : Expr} {body : List Stmt} {d : PV} {its : List PV} (J : Nat → Vars → Mu → Prop) (hh : A.handled = none) (he : Ev W A hid env vars mu e d) (hsrc : ∀ i v m, J i v m → Src m d its) (h0 : J 0 vars mu)
    (hs : Sto hid env x) (hk : env.scope.kind = .function) (hd : (x == ("__debug__" : Str)) = false) (hf : ∀ x, foldedSetIterable e env x = pure x)
    (turn : ∀ hid' i v m a, (∀ y, Sto hid env y → Sto hid' env y) → its[i]? = some a → J i v m → Exs W A hid' env ((x, a) :: v) m body (TurnK (J (i + 1)) K))
    (done : ∀ v m, J its.length v m → K (.next v m)) : Ex1 W A hid env vars mu (.For (.Name x p) e body [] pos) K :=
  (ex_forG (K := fun o => K o ∧ ∀ x v m, o ≠ .exc x v m) J (.inr fun x v m h => h.2 x v m rfl) hh he hsrc h0 hs hk hd hf (fun hid' i v m a h1 h2 h3 h4 => (turn hid' i v m a h1 h3 h4).imp fun o => turn_free) (fun v m h => ⟨done v m h, fun _ _ _ z => nomatch z⟩)).imp fun o h => h.1
end
end Mine
end

section
open PySem PySem.W PyProof.Rows PySem.Calls PySem.SeqAt
set_option linter.unusedVariables false
set_option maxRecDepth 100000
namespace Mine

structure FnAt (W : Wk) (a : Addr) (fd : FuncData) (body : List Stmt) : Prop where
  obj : ∃ o, W.base.get? a = some o ∧ o.data = .func fd
  code : W.base.CodeRec fd.code fd.qualname
  body : fd.body = .stmts body
  closure : fd.closure = []
  glob : fd.globals = mainGlobals
  bn : fd.builtins = builtinsNs
  co : fd.scope.isCoroutine = false
  gen : fd.scope.isGenerator = false
  kind : fd.scope.kind = .function

structure AOk0 (A : Around) (n : Nat) : Prop where
  handled : A.handled = none
  depth : A.depth + n ≤ 500
  units : A.units + 3 * n ≤ 4000
  frames : ∃ l, A.frames = some l
theorem AOk.zero {W : Wk} {A : Around} {n : Nat} (a : AOk W A n) : AOk0 A n := ⟨a.handled, a.depth, a.units, let ⟨e, l, h, _⟩ := a.frames; ⟨e :: l, h⟩⟩
abbrev fEnv (fd : FuncData) (a L : Addr) : Env := callEnvC fd L a

theorem bindL_not {kindOf : Str → Option NameKind} : ∀ {bs : List (Str × Value)} {m : Str → Option Value} {x : Str}, x ∉ bs.map (·.1) → bindL kindOf bs m x = m x
  | [], _, _, _ => rfl
  | (n, v) :: r, m, x, h => by
    rw [List.map_cons, List.mem_cons, not_or] at h
    unfold bindL
    rw [bindL_not h.2]
    split
    · show (if x = n then some v else m x) = m x
      rw [if_neg h.1]
    · rfl
theorem bindC_not {kindOf : Str → Option NameKind} : ∀ {bs : List (Str × Value)} {m : Str → Option Value} {x : Str}, x ∉ bs.map (·.1) → bindC kindOf bs m x = m x
  | [], _, _, _ => rfl
  | (n, v) :: r, m, x, h => by
    rw [List.map_cons, List.mem_cons, not_or] at h
    unfold bindC
    rw [bindC_not h.2]
    split
    · rfl
    · show (if x = n then some v else m x) = m x
      rw [if_neg h.1]
theorem bindL_get {kindOf : Str → Option NameKind} : ∀ {bs : List (Str × Value)} {m : Str → Option Value} {x : Str} {v}, (bs.map (·.1)).Nodup → (x, v) ∈ bs → kindOf x = some .local → bindL kindOf bs m x = some v
  | (n, w) :: r, m, x, v, hn, hm, hk => by
    obtain ⟨n1, n2⟩ := List.nodup_cons.mp hn
    unfold bindL
    rcases List.mem_cons.mp hm with e | e
    · cases e
      rw [bindL_not n1, if_pos hk]
      exact if_pos rfl
    · exact bindL_get n2 e hk
theorem bindC_get {kindOf : Str → Option NameKind} : ∀ {bs : List (Str × Value)} {m : Str → Option Value} {x : Str} {v}, (bs.map (·.1)).Nodup → (x, v) ∈ bs → kindOf x ≠ some .local → bindC kindOf bs m x = some v
  | (n, w) :: r, m, x, v, hn, hm, hk => by
    obtain ⟨n1, n2⟩ := List.nodup_cons.mp hn
    unfold bindC
    rcases List.mem_cons.mp hm with e | e
    · cases e
      rw [bindC_not n1, if_neg hk]
      exact if_pos rfl
    · exact bindC_get n2 e hk

inductive Binds (g : PMap) : Vars → List (Str × Value) → Prop where
  | nil : Binds g [] []
  | cons {x d u vs bs} : Is g d u → Binds g vs bs → Binds g ((x, d) :: vs) ((x, u) :: bs)
theorem Binds.names {g : PMap} : ∀ {vs bs}, Binds g vs bs → bs.map (·.1) = vs.map (·.1)
  | _, _, .nil => rfl
  | _, _, .cons _ r => by rw [List.map_cons, List.map_cons, r.names]
theorem Binds.get {g : PMap} : ∀ {vs bs}, Binds g vs bs → ∀ x d, vs.lookup x = some d → ∃ u, (x, u) ∈ bs ∧ Is g d u
  | _, _, .nil, x, d, h => by cases h
  | _, _, @Binds.cons _ y e u vs bs i r, x, d, h => by
    by_cases hx : x = y
    · subst hx; rw [lookup_cons_eq] at h; cases h; exact ⟨_, .head _, i⟩
    · rw [lookup_cons_ne hx] at h
      obtain ⟨u, hm, iu⟩ := r.get x d h
      exact ⟨u, .tail _ hm, iu⟩

def paramsOk (scope : Scope) (names : List Str) : Bool :=
  names.all fun p => (scope.names.lookup p == some .local || scope.names.lookup p == some .cell) && !(p == ("__debug__" : Str))

section
variable {W : Wk} {A : Around} {hid : PMap} {env : Env} {vars : Vars} {mu : Mu} {K K' : Out → Prop}

theorem cellsFrom_has {x : Str} : ∀ {names : List (Str × NameKind)} {n : Nat} {acc : List (Str × Addr)}, (x, NameKind.cell) ∈ names → ((cellsFrom n names acc).lookup x).isSome = true
  | (nm, k) :: r, n, acc, hm => by
    unfold cellsFrom
    by_cases hr : (x, NameKind.cell) ∈ r
    · split <;> exact cellsFrom_has hr
    · rcases List.mem_cons.mp hm with e | e
      · cases e
        rw [if_pos (by simp), cellsFrom_not (fun k hk e => hr (e ▸ hk)), lookup_cons_eq]; rfl
      · exact absurd e hr

theorem sto_fn {fd : FuncData} {a L : Addr} {x : Str} {hid : PMap} (h : fd.scope.names.lookup x = some .local ∨ fd.scope.names.lookup x = some .cell) (hf : ∀ c, L < c → hid c = none) : Sto hid (fEnv fd a L) x := by
  rcases h with h | h
  · exact .loc h
  · obtain ⟨c, hc⟩ := Option.isSome_iff_exists.mp (cellsFrom_has (n := L + 1) (acc := []) (mem_of_lookup h))
    refine .cell c h hc (hf c ?_)
    rcases cellsFrom_ge hc with q | q
    · cases q
    · exact q

end
end Mine
end

section
open PySem PySem.W PyProof.Rows PySem.Calls PySem.SeqAt
set_option linter.unusedVariables false
set_option maxRecDepth 100000
namespace Mine

def FnP (W : Wk) (P : Prop) (f : Value) (n : Nat) (args : List PV) (K : PV → Prop) (X : Value → Prop) : Prop :=
  ∀ A hid g h t us (Q : Value → Shared → Prop) (E : Value → Shared → Prop) outer, AOk0 A n → (P → A.frames = some outer ∧ FrHid hid outer) → RepE W hid g h → Iss g args us →
    (∀ d u g' h' t', K d → Le g g' → RepE W hid g' h' → Is g' d u → Q u (W.S h' t')) →
    (∀ x a g' h₁ h' t', X x → Le g g' → RepE W hid g' h₁ → Fly outer g' h₁ x a h' → E (.ref a) (W.S h' t')) → wpAny W.M A (call f us) Q E (W.S h t)
abbrev FnG (W : Wk) (f : Value) (n : Nat) (args : List PV) (K : PV → Prop) (X : Value → Prop) : Prop := FnP W True f n args K X
abbrev Fn (W : Wk) (f : Value) (n : Nat) (args : List PV) (d : PV) : Prop := FnP W False f n args (· = d) (fun _ => False)

section
variable {W : Wk} {A : Around} {hid : PMap} {env : Env} {vars : Vars} {mu : Mu} {K K' : Out → Prop}

theorem fn_core {P : Prop} {fd : FuncData} {a : Addr} {body : List Stmt} {n : Nat} {args : List PV} {K : PV → Prop} {X : Value → Prop} (hXP : ∀ x, X x → P) (O : W.Ok) (F : FnAt W a fd body) (vars : Vars) (names : List Str) (hv : vars.map (·.1) = names) (hp : paramsOk fd.scope names = true) (hnd : names.Nodup)
    (hb : ∀ g h t us, (∀ a o, W.base.get? a = some o → h.get? a = some o) → (∀ a o, W.base.get? a = some o → g a = some o) → Iss g args us → ∃ binds, BindsTo (W.S h t) fd ⟨us, []⟩ binds ∧ Binds g vars binds)
    (hbody : ∀ A hid L outer, AOk W A n → (P → FrX A hid (fEnv fd a L) outer) → (∀ x, fd.scope.names.lookup x = some .local ∨ fd.scope.names.lookup x = some .cell → Sto hid (fEnv fd a L) x) → Exs W A hid (fEnv fd a L) vars [] body (fun o => (∃ d, K d ∧ o = .ret d) ∨ (∃ x v m, X x ∧ o = .exc x v m) ∨ (K .none ∧ ∃ v m, o = .next v m))) :
    FnP W P (.ref a) (n + 1) args K X := fun A hid g h t us Q E outer ao hfx RE iss k kx => by
  have hn : (vars.map (·.1)).Nodup := by rw [hv]; exact hnd
  obtain ⟨o, ho, hd⟩ := F.obj
  have kb : ∀ a o, W.base.get? a = some o → h.get? a = some o := fun a o e => RE.gs a o (RE.bs a o e)
  obtain ⟨binds, hbt, hB⟩ := hb g h t us kb RE.bs iss
  refine wpAny_call (codeAny_call_function (by have := ao.depth; show A.depth < 1000; (first | lia | omega)) (kb _ _ ho) hd F.co F.gen F.body (F.code.keeps kb) (hbt _ _ _ _ ?_))
  rw [F.closure]
  have hnn : (binds.map (·.1)).Nodup := by rw [hB.names]; exact hn
  have hkinds : ∀ y ∈ binds, fd.scope.names.lookup y.1 = some .local ∨ fd.scope.names.lookup y.1 = some .cell := fun y hy => by
    have : y.1 ∈ names := by rw [← hv, ← hB.names]; exact List.mem_map.mpr ⟨y, hy, rfl⟩
    have := List.all_eq_true.mp hp _ this
    simp only [Bool.and_eq_true, Bool.or_eq_true, beq_iff_eq] at this
    exact this.1
  refine wpAny_newFunctionEnv_cells F.kind (fun y hy => (hkinds y hy).imp id fun q => ⟨q, cellsFrom_has (mem_of_lookup q)⟩) fun env he s' x => ?_
  subst he
  obtain ⟨h₁, tk, rfl, hkk⟩ := x.toInCall.done
  have hfresh : ∀ {c}, h.objs.size ≤ c → h.get? c = none := fun {c} hc => by
    cases q : h.get? c with
    | none => rfl
    | some o' => exact absurd (Heap.lt_size q) (Nat.not_lt.mpr hc)
  have gnone : ∀ {c}, h.get? c = none → g c = none := fun {c} hc => by
    cases q : g c with
    | none => rfl
    | some o' => rw [RE.gs _ _ q] at hc; cases hc
  have hnone : ∀ {c}, h.get? c = none → hid c = none := fun {c} hc => by
    cases q : hid c with
    | none => rfl
    | some o' => obtain ⟨sl, z, _⟩ := RE.hs _ _ q; rw [z] at hc; cases hc
  have R : Rep W hid g (fEnv fd a h.objs.size) vars [] h₁ := by
    refine ⟨RE.bs, fun b o e => hkk _ _ (RE.gs b o e), fun b o e => (RE.hs b o e).keeps hkk, RE.gh, ⟨_, x.toInCall.ns⟩, fun y e q => ?_, gnone (hfresh (Nat.le_refl _)), hnone (hfresh (Nat.le_refl _)), fun y c q => ?_, fun y z c e1 e2 => ?_, fun a l q => (by cases q), List.nodup_nil⟩
    · obtain ⟨u, hm, iu⟩ := hB.get y e q
      have hdb : (y == ("__debug__" : Str)) = false := by
        have := List.all_eq_true.mp hp y (by rw [← hv]; exact List.mem_map.mpr ⟨_, mem_of_lookup q, rfl⟩)
        simp only [Bool.and_eq_true, Bool.not_eq_true'] at this
        exact this.2
      refine ⟨u, iu, hdb, ?_⟩
      rcases hkinds _ hm with q1 | q1
      · exact .inl ⟨q1, _, x.toInCall.ns, bindL_get hnn hm q1⟩
      · obtain ⟨c, hc⟩ := Option.isSome_iff_exists.mp (cellsFrom_has (n := h.objs.size + 1) (acc := []) (mem_of_lookup q1))
        refine .inr ⟨c, .inl q1, hc, ?_⟩
        have := x.cell y c hc
        rw [bindC_get hnn hm (by show fd.scope.names.lookup y ≠ _; rw [q1]; intro z; cases z)] at this
        exact this
    · have hlt := x.above y c (mem_of_lookup q)
      exact ⟨⟨_, x.cell y c q⟩, gnone (hfresh (Nat.le_of_lt hlt)), Ne.symm (Nat.ne_of_lt hlt)⟩
    · exact name_of_addr x.apart (mem_of_lookup e1) (mem_of_lookup e2)
  refine ⟨(O.nolimit.keeps kb).keeps hkk, codeAny_func ?_⟩

  have FX : P → FrX (A.deeper (fEnv fd a h.objs.size)) hid (fEnv fd a h.objs.size) outer := fun hx => ⟨Around.frames_deeper (hfx hx).1, F.kind, rfl, (hfx hx).2⟩
  have hstep := hbody (A.deeper (fEnv fd a h.objs.size)) hid h.objs.size outer ⟨ao.handled, by have := ao.depth; show A.depth + 1 + n ≤ 500; (first | lia | omega), by have := ao.units; show A.units + 3 + 3 * n ≤ 4000; (first | lia | omega), by
    obtain ⟨l, h1⟩ := ao.frames
    exact ⟨fEnv fd a h.objs.size, l, Around.frames_deeper h1, F.gen, F.co, F.bn, F.glob⟩⟩ FX (fun y hy => sto_fn hy fun c hc => hnone (hfresh (Nat.le_of_lt hc))) g h₁ tk R
  show wpAny _ (A.deeper (fEnv fd a h.objs.size)) (execs body (fEnv fd a h.objs.size)) _ _ _
  refine wpAny_mono hstep (fun f s y => ?_) fun e s y => ?_
  · cases f with
    | ret u =>
      obtain ⟨d', g', h', t', rfl, q, l, RE', i⟩ := y
      rcases q with ⟨d, kd, q⟩ | ⟨_, v, m, _, q⟩ | ⟨_, v, m, q⟩
      · cases q; exact k _ u g' h' t' kd l RE' i
      · cases q
      · cases q
    | next =>
      obtain ⟨v, m, g', h', t', rfl, q, l, R'⟩ := y
      rcases q with ⟨_, _, q⟩ | ⟨_, v, m, _, q⟩ | ⟨kd, _⟩
      · cases q
      · cases q
      · exact k .none .none g' h' t' kd l R'.e .none
    | brk => obtain ⟨v, m, g', h', t', rfl, q, l, R'⟩ := y; rcases q with ⟨_, _, q⟩ | ⟨_, v, m, _, q⟩ | ⟨_, v, m, q⟩ <;> cases q
    | cont => obtain ⟨v, m, g', h', t', rfl, q, l, R'⟩ := y; rcases q with ⟨_, _, q⟩ | ⟨_, v, m, _, q⟩ | ⟨_, v, m, q⟩ <;> cases q
  · obtain ⟨x, v, m, g₁, h₂, ae, l, h', t', rfl, rfl, q, lg, R', efr, XF⟩ := y
    rcases q with ⟨_, _, q⟩ | ⟨x', v', m', hX, q⟩ | ⟨_, v, m, q⟩
    · cases q
    · cases q
      have FX := FX (hXP _ hX)
      rw [FX.frames] at efr
      cases efr
      exact leave_x FX.frames (R'.frOk FX) XF fun h'' hf => kx _ ae g₁ h₂ h'' t' hX lg R'.e hf
    · cases q
theorem fn_introP {P : Prop} {fd : FuncData} {a : Addr} {body : List Stmt} {n : Nat} {args : List PV} {K : PV → Prop} {X : Value → Prop} (hXP : ∀ x, X x → P) (O : W.Ok) (F : FnAt W a fd body) (vars : Vars) (names : List Str) (hv : vars.map (·.1) = names) (hp : paramsOk fd.scope names = true) (hnd : names.Nodup)
    (hb : ∀ g h t us, (∀ a o, W.base.get? a = some o → h.get? a = some o) → (∀ a o, W.base.get? a = some o → g a = some o) → Iss g args us → ∃ binds, BindsTo (W.S h t) fd ⟨us, []⟩ binds ∧ Binds g vars binds)
    (hbody : ∀ A hid L outer, AOk W A n → (P → FrX A hid (fEnv fd a L) outer) → (∀ x, fd.scope.names.lookup x = some .local ∨ fd.scope.names.lookup x = some .cell → Sto hid (fEnv fd a L) x) → Exs W A hid (fEnv fd a L) vars [] body (fun o => (∃ d, K d ∧ o = .ret d) ∨ (∃ x v m, X x ∧ o = .exc x v m))) :
    FnP W P (.ref a) (n + 1) args K X :=
  fn_core hXP O F vars names hv hp hnd hb fun A hid L outer h1 h2 h3 => (hbody A hid L outer h1 h2 h3).imp fun o h => h.imp id .inl
theorem fn_introX {fd : FuncData} {a : Addr} {body : List Stmt} {n : Nat} {args : List PV} {K : PV → Prop} {X : Value → Prop} (O : W.Ok) (F : FnAt W a fd body) (vars : Vars) (names : List Str) (hv : vars.map (·.1) = names) (hp : paramsOk fd.scope names = true) (hnd : names.Nodup)
    (hb : ∀ g h t us, (∀ a o, W.base.get? a = some o → h.get? a = some o) → (∀ a o, W.base.get? a = some o → g a = some o) → Iss g args us → ∃ binds, BindsTo (W.S h t) fd ⟨us, []⟩ binds ∧ Binds g vars binds)
    (hbody : ∀ A hid L outer, AOk W A n → FrX A hid (fEnv fd a L) outer → (∀ x, fd.scope.names.lookup x = some .local ∨ fd.scope.names.lookup x = some .cell → Sto hid (fEnv fd a L) x) → Exs W A hid (fEnv fd a L) vars [] body (fun o => (∃ d, K d ∧ o = .ret d) ∨ (∃ x v m, X x ∧ o = .exc x v m))) :
    FnG W (.ref a) (n + 1) args K X :=
  fn_introP (fun _ _ => trivial) O F vars names hv hp hnd hb fun A hid L outer h1 h2 h3 => hbody A hid L outer h1 (h2 trivial) h3
theorem FnP.imp {P P' : Prop} {f : Value} {n : Nat} {args : List PV} {K K' : PV → Prop} {X X' : Value → Prop} (h : FnP W P f n args K X) (hP : P → P') (hK : ∀ d, K d → K' d) (hX : ∀ x, X x → X' x) : FnP W P' f n args K' X' :=
  fun A hid g hp t us Q E outer ao hfr RE iss k kx => h A hid g hp t us Q E outer ao (fun p => hfr (hP p)) RE iss (fun d u g' h' t' hd => k d u g' h' t' (hK d hd)) fun x a g' h1 h' t' hx => kx x a g' h1 h' t' (hX x hx)
theorem fn_intro {fd : FuncData} {a : Addr} {body : List Stmt} {n : Nat} {args : List PV} {d : PV} (O : W.Ok) (F : FnAt W a fd body) (vars : Vars) (names : List Str) (hv : vars.map (·.1) = names) (hp : paramsOk fd.scope names = true) (hnd : names.Nodup)
    (hb : ∀ g h t us, (∀ a o, W.base.get? a = some o → h.get? a = some o) → (∀ a o, W.base.get? a = some o → g a = some o) → Iss g args us → ∃ binds, BindsTo (W.S h t) fd ⟨us, []⟩ binds ∧ Binds g vars binds)
    (hbody : ∀ A hid L, AOk W A n → (∀ x, fd.scope.names.lookup x = some .local ∨ fd.scope.names.lookup x = some .cell → Sto hid (fEnv fd a L) x) → Exs W A hid (fEnv fd a L) vars [] body (fun o => o = .ret d ∨ (d = .none ∧ ∃ v m, o = .next v m))) :
    Fn W (.ref a) (n + 1) args d :=
  fn_core (fun _ h => h) O F vars names hv hp hnd hb fun A hid L outer h1 h2 h3 => (hbody A hid L h1 h3).imp fun o h => h.elim (fun e => .inl ⟨_, rfl, e⟩) fun e => .inr (.inr ⟨e.1.symm, e.2⟩)


def EvG (W : Wk) (A : Around) (hid : PMap) (env : Env) (vars : Vars) (mu : Mu) (e : Expr) (K : PV → Prop) (X : Value → Prop) : Prop :=
  ∀ g h t (Q : Value → Shared → Prop) (E : Value → Shared → Prop), Rep W hid g env vars mu h →
    (∀ d u g' h' t', K d → Le g g' → Rep W hid g' env vars mu h' → Is g' d u → Q u (W.S h' t')) →
    (∀ e s, ExcOk W A hid env (fun o => ∃ x, X x ∧ o = .exc x vars mu) g e s → E e s) → wpAny W.M A (eval e env) Q E (W.S h t)

theorem frHid_rest {g h outer} (R : Rep W hid g env vars mu h) (F : FrX A hid env outer) : FrHid (rest g [] h) (env :: outer) := fun e he => by
  rcases List.mem_cons.mp he with rfl | he
  · obtain ⟨m, o, es, ep, ho, hd, _⟩ := R.ns
    exact ⟨F.kind, _, o, es, ep, F.loc, rest_of ho R.gL (by simp), hd⟩
  · obtain ⟨h1, L, o, es, ep, h2, h3, h4⟩ := F.hid e he
    obtain ⟨sl, e1, _⟩ := R.hs L o h3
    refine ⟨h1, L, _, es, ep, h2, rest_of e1 ?_ (by simp), h4⟩
    cases q : g L with
    | none => rfl
    | some o' => rw [R.gh L o' q] at h3; cases h3

theorem ev_call_core {P : Prop} {x : Str} {np pos : Pos} {a : Addr} {fd : FuncData} {o : Obj} {n : Nat} {e : Expr} {es : List Expr} {ds : List PV} {K : PV → Prop} {X : Value → Prop} {outer} (O : W.Ok) (ao : AOk W A n) (F : P → FrX A hid env outer) (hXP : ∀ x, X x → P) (N : GName W env x (.ref a)) (ho : W.base.get? a = some o) (hd : o.data = .func fd)
    (ha : EvArgs W A hid env vars mu (e :: es) ds) (hf : FnP W P (.ref a) n ds K X) (hs : starEach (e :: es) env = (false, eval e env) :: starEach es env) : EvG W A hid env vars mu (.Call (.Name x np) (e :: es) [] pos) K X := fun g h t Q E R k kx =>
  Call_ (name_global O N R (callWith_def hd (ha pos g h t _ E R fun us g1 h1 t1 l1 R1 i1 => ⟨R1.base _ _ ho, by
    have back : ∀ {g2 h2}, Le g1 g2 → RepE W (rest g1 [] h1) g2 h2 → Rep W hid g2 env vars mu h2 := fun l2 RE2 => R1.back l2 RE2 (fun a h => by cases h) (fun a l _ h => by cases h)
    refine hf A (rest g1 [] h1) g1 h1 t1 us _ E (env :: outer) ao.zero (fun hx => ⟨(F hx).frames, frHid_rest R1 (F hx)⟩) ⟨R1.bs, R1.gs, fun b o e => .of (rest_some e).1, fun b o e => ?_⟩ i1 (fun d u g2 h2 t2 hK l2 RE2 i2 => ?_) fun x ae g2 h2 h3 t3 hX l2 RE2 FL => ?_
    · cases q : rest g1 [] h1 b with
      | none => rfl
      | some o' => rw [(rest_some q).2.1] at e; cases e
    · exact k d u g2 h2 t2 hK (l1.trans l2) (back l2 RE2) i2
    · obtain ⟨B, a0, q1, q2, q3, q4⟩ := FL
      exact kx _ _ ⟨x, vars, mu, g2, h2, ae, _, h3, t3, rfl, rfl, ⟨x, hX, rfl⟩, l1.trans l2, back l2 RE2, (F (hXP x hX)).frames, .fly B a0 q1 q2 q3 q4⟩⟩) hs)) rfl
theorem ev_call_fn {x : Str} {np pos : Pos} {a : Addr} {fd : FuncData} {o : Obj} {n : Nat} {e : Expr} {es : List Expr} {ds : List PV} {d : PV} (O : W.Ok) (ao : AOk W A n) (N : GName W env x (.ref a)) (ho : W.base.get? a = some o) (hd : o.data = .func fd)
    (ha : EvArgs W A hid env vars mu (e :: es) ds) (hf : Fn W (.ref a) n ds d) (hs : starEach (e :: es) env = (false, eval e env) :: starEach es env) : Ev W A hid env vars mu (.Call (.Name x np) (e :: es) [] pos) d := fun g h t Q E R k =>
  ev_call_core (outer := []) O ao (fun h => h.elim) (fun _ h => h) N ho hd ha hf hs g h t Q E R (fun d' u g' h' t' e => by subst e; exact k u g' h' t') fun e s y => by
    obtain ⟨_, _, _, _, _, _, _, _, _, _, _, ⟨_, h, _⟩, _⟩ := y; exact h.elim

theorem ex_retG {e : Expr} {pos} {Kd : PV → Prop} {X : Value → Prop} (he : EvG W A hid env vars mu e Kd X) : Ex1 W A hid env vars mu (.Return (some e) pos) (fun o => (∃ d, Kd d ∧ o = .ret d) ∨ (∃ x, X x ∧ o = .exc x vars mu)) := fun g h t R =>
  wpAny_Return_some (he g h t _ _ R (fun d u g1 h1 t1 hK l1 R1 i1 => ⟨d, g1, h1, t1, rfl, .inl ⟨d, hK, rfl⟩, l1, R1.e, i1⟩) fun e s y => by
    obtain ⟨x, v, m, g₁, h₁, a, l, hh, tt, e1, e2, q, r⟩ := y
    exact ⟨x, v, m, g₁, h₁, a, l, hh, tt, e1, e2, .inr q, r⟩)
theorem ex_assignG {x : Str} {p pos : Pos} {e : Expr} {Kd : PV → Prop} {X : Value → Prop} (he : EvG W A hid env vars mu e Kd X) (hs : Sto hid env x) (hsw : swapsWith e (some (.Name x p)) pos.line env = pure false) (hk : env.scope.kind = .function) (hd : (x == ("__debug__" : Str)) = false) :
    Ex1 W A hid env vars mu (.Assign [.Name x p] e pos) (fun o => (∃ d, Kd d ∧ o = .next ((x, d) :: vars) mu) ∨ (∃ x, X x ∧ o = .exc x vars mu)) := fun g h t R =>
  wpAny_Assign_Name (he g h t _ _ R (fun d u g1 h1 t1 hK l1 R1 i1 => store_K hs hk hd R1 i1 fun h2 t2 R2 => ⟨_, _, g1, h2, t2, rfl, .inl ⟨d, hK, rfl⟩, l1, R2⟩) fun e s y => by
    obtain ⟨x, v, m, g₁, h₁, a, l, hh, tt, e1, e2, q, r⟩ := y
    exact ⟨x, v, m, g₁, h₁, a, l, hh, tt, e1, e2, .inr q, r⟩) hsw
end
end Mine
end

section
open PySem PySem.W PyProof.Rows PySem.Calls PySem.SeqAt
set_option linter.unusedVariables false
set_option maxRecDepth 100000
namespace Mine
section
variable {W : Wk} {A : Around} {hid : PMap} {env : Env} {vars : Vars} {mu : Mu} {K K' : Out → Prop}

theorem AsList.obj {g h d l u} (x : AsList mu d l) (R : Rep W hid g env vars mu h) (i : Is g d u) : ∃ a vs n, u = .ref a ∧ h.get? a = some (lobj vs n) ∧ Iss g l vs.toList := by
  rcases x with rfl | ⟨a, rfl, hm⟩
  · cases i with
    | list e r => exact ⟨_, _, _, rfl, R.gs _ _ e, r⟩
  · cases i
    obtain ⟨vs, n, e, r, _⟩ := R.mus a l hm
    exact ⟨a, vs, n, rfl, e, r⟩

theorem evnew_add {a b : Expr} {pos : Pos} {d e la lb} (ha : Ev W A hid env vars mu a d) (hb : Ev W A hid env vars mu b e) (hla : AsList mu d la) (hlb : AsList mu e lb) (hs : la.length + lb.length ≤ 100000) :
    EvNew W A hid env vars mu (.BinOp a .Add b pos) (la ++ lb) := fun g h t Q E R k =>
  wpAny_BinOp (ha g h t _ E R fun u g1 h1 t1 l1 R1 i1 => hb g1 h1 t1 _ E R1 fun v g2 h2 t2 l2 R2 i2 => by
    obtain ⟨x, vs, n, rfl, e1, q1⟩ := hla.obj R2 (i1.mono l2)
    obtain ⟨y, ws, m, rfl, e2, q2⟩ := hlb.obj R2 i2
    have s1 := q1.length
    have s2 := q2.length
    simp at s1 s2
    refine P.add_list (s := W.S h2 t2) e1 e2 ?_ (by rw [sizeLine_eq]; (first | lia | omega))
    exact k _ g2 _ t2 (l1.trans l2) (R2.keeps (kept_push h2 _)) (new_obj R2 Rep.fresh_size (kept_push h2 _) (Heap.get?_push_size _ rfl) (by simpa using q1.append q2)))

inductive Part (W : Wk) (A : Around) (hid : PMap) (env : Env) (vars : Vars) (mu : Mu) : Option Expr → Option Int → Prop where
  | none : Part W A hid env vars mu none none
  | some {e k} : Ev W A hid env vars mu e (.int k) → Part W A hid env vars mu (some e) (some k)
theorem Part.run {o k} (x : Part W A hid env vars mu o k) : ∀ g h t (Q : Value → Shared → Prop) (E : Value → Shared → Prop), Rep W hid g env vars mu h →
    (∀ u g' h' t', Le g g' → Rep W hid g' env vars mu h' → IsPart u k → Q u (W.S h' t')) → wpAny W.M A (evalPart o env) Q E (W.S h t) := by
  cases x with
  | none => intro g h t Q E R k; exact wpAny_pure (k _ g h t (Le.refl g) R .none)
  | some he => intro g h t Q E R k; exact he g h t Q E R fun u g1 h1 t1 l1 R1 i1 => by cases i1; exact k _ g1 h1 t1 l1 R1 (.int _ _)
def sliceP {α : Type} (l : List α) (lo hi : Option Int) : List α := (l.drop (lo.elim 0 (clipAt l.length))).take (hi.elim l.length (clipAt l.length) - lo.elim 0 (clipAt l.length))
theorem Iss.drop {g : PMap} : ∀ {ds vs}, Iss g ds vs → ∀ k, Iss g (ds.drop k) (vs.drop k)
  | _, _, h, 0 => h
  | _, _, .nil, _ + 1 => by simpa using Iss.nil
  | _, _, .cons _ r, k + 1 => r.drop k
theorem Iss.take {g : PMap} : ∀ {ds vs}, Iss g ds vs → ∀ k, Iss g (ds.take k) (vs.take k)
  | _, _, _, 0 => by simpa using Iss.nil
  | _, _, .nil, _ + 1 => by simpa using Iss.nil
  | _, _, .cons h r, k + 1 => .cons h (r.take k)
theorem Iss.reverse {g : PMap} : ∀ {ds vs}, Iss g ds vs → Iss g ds.reverse vs.reverse
  | _, _, .nil => by simpa using Iss.nil
  | _, _, .cons h r => by
    rw [List.reverse_cons, List.reverse_cons]
    exact r.reverse.append (.cons h .nil)

theorem evnew_slice {v : Expr} {lo hi : Option Expr} {p pos : Pos} {d l klo khi} (hv : Ev W A hid env vars mu v d) (hl : AsList mu d l) (hn : l.length ≤ 100000) (plo : Part W A hid env vars mu lo klo) (phi : Part W A hid env vars mu hi khi) :
    EvNew W A hid env vars mu (.Subscript v (.Slice lo hi none p) pos) (sliceP l klo khi) := fun g h t Q E R k =>
  Subscript_ (hv g h t _ E R fun u g1 h1 t1 l1 R1 i1 => wpAny_Slice (plo.run g1 h1 t1 _ E R1 fun x g2 h2 t2 l2 R2 p2 => phi.run g2 h2 t2 _ E R2 fun y g3 h3 t3 l3 R3 p3 => wpAny_pure (by
    obtain ⟨a, vs, rfl, q1, q2⟩ := hl.get R3 (i1.mono (l2.trans l3))
    have hlen : vs.size = l.length := by have := q2.length; simpa using this
    obtain ⟨ops, ho⟩ := sub_ops (.Slice lo hi none p) (.ref a) (.ref h3.objs.size)
    have hl2 : (h3.push { cls := .type "slice", data := .fields #[x, y, .none] }).IsList a vs := q1.push _
    refine tail_any (s := W.S (h3.push { cls := .type "slice", data := .fields #[x, y, .none] }) t3) hl2.typeIs slot_list_getitem.lookup (wpAny_getItem_list_slice (s := W.S (h3.push { cls := .type "slice", data := .fields #[x, y, .none] }) t3) hl2 (Heap.IsSliceOf.new ..) p2 p3 .none (by simp) ?_ (by rw [sizeLine_eq]; (first | lia | omega))) ho
    have R4 := R3.keeps (kept_push h3 { cls := .type "slice", data := .fields #[x, y, .none] })
    refine k _ g3 _ t3 ((l1.trans l2).trans l3) (R4.keeps (kept_push _ _)) (new_obj R4 Rep.fresh_size (kept_push _ _) (Heap.get?_push_size _ rfl) ?_)
    rw [slicePick_plain]
    unfold sliceP
    rw [hlen]
    exact (q2.drop _).take _)))
theorem evnew_rev {v st : Expr} {p pos : Pos} {d l} (hv : Ev W A hid env vars mu v d) (hl : AsList mu d l) (hn : l.length ≤ 100000) (hst : Ev W A hid env vars mu st (.int (-1))) :
    EvNew W A hid env vars mu (.Subscript v (.Slice none none (some st) p) pos) l.reverse := fun g h t Q E R k =>
  Subscript_ (hv g h t _ E R fun u g1 h1 t1 l1 R1 i1 => wpAny_Slice (wpAny_pure (wpAny_pure (hst g1 h1 t1 _ E R1 fun y g3 h3 t3 l3 R3 i3 => by
    cases i3
    rename_i tk
    obtain ⟨a, vs, rfl, q1, q2⟩ := hl.get R3 (i1.mono l3)
    have hlen : vs.size = l.length := by have := q2.length; simpa using this
    obtain ⟨ops, ho⟩ := sub_ops (.Slice none none (some st) p) (.ref a) (.ref h3.objs.size)
    have hl2 : (h3.push { cls := .type "slice", data := .fields #[.none, .none, .int (-1) tk] }).IsList a vs := q1.push _
    refine tail_any (s := W.S (h3.push { cls := .type "slice", data := .fields #[.none, .none, .int (-1) tk] }) t3) hl2.typeIs slot_list_getitem.lookup (wpAny_getItem_list_slice (s := W.S (h3.push { cls := .type "slice", data := .fields #[.none, .none, .int (-1) tk] }) t3) hl2 (Heap.IsSliceOf.new ..) .none .none (.int (-1) tk) (by simp) ?_ (by rw [sizeLine_eq]; (first | lia | omega))) ho
    have R4 := R3.keeps (kept_push h3 { cls := .type "slice", data := .fields #[.none, .none, .int (-1) tk] })
    refine k _ g3 _ t3 (l1.trans l3) (R4.keeps (kept_push _ _)) (new_obj R4 Rep.fresh_size (kept_push _ _) (Heap.get?_push_size _ rfl) ?_)
    rw [krv_pick]
    exact q2.reverse))))

theorem Rep.mutate {g h h' a l l' m1 m2 vs' n'} (R : Rep W hid g env vars (m1 ++ (a, l) :: m2) h) (hs : Heap.SameBut a h h') (e : h'.get? a = some (lobj vs' n')) (i : Iss g l' vs'.toList) : Rep W hid g env vars (m1 ++ (a, l') :: m2) h' := by
  obtain ⟨vs, n, e0, i0, r2, r3, r4, r5⟩ := R.mus a l (by simp)
  have nodup := R.mnd
  rw [List.map_append, List.map_cons] at nodup
  have hne : ∀ b lb, (b, lb) ∈ m1 ∨ (b, lb) ∈ m2 → b ≠ a := by
    rintro b lb hm rfl
    have hh := List.nodup_append.mp nodup
    rcases hm with hm | hm
    · exact hh.2.2 b (List.mem_map.mpr ⟨_, hm, rfl⟩) b (List.mem_cons_self) rfl
    · exact (List.nodup_cons.mp hh.2.1).1 (List.mem_map.mpr ⟨_, hm, rfl⟩)
  refine ⟨R.bs, fun b o q => (hs.2 b (fun z => by rw [z, r2] at q; cases q)).trans (R.gs b o q), fun b o q => ?_, R.gh, ?_, fun x d q => ?_, R.gL, R.hL, fun x c q => ?_, R.cnd, fun b lb q => ?_, ?_⟩
  · obtain ⟨sl, e1, e2⟩ := R.hs b o q
    exact ⟨sl, (hs.2 b (fun z => by rw [z, r3] at q; cases q)).trans e1, e2⟩
  · obtain ⟨m, hn⟩ := R.ns; exact ⟨m, hn.sameBut hs (Ne.symm r4)⟩
  · obtain ⟨u, iu, hd, ⟨hl, m, hn, hm⟩ | ⟨c, hk, hc, hv⟩⟩ := R.vs x d q
    · exact ⟨u, iu, hd, .inl ⟨hl, m, hn.sameBut hs (Ne.symm r4), hm⟩⟩
    · exact ⟨u, iu, hd, .inr ⟨c, hk, hc, hv.sameBut hs (r5 x c hc)⟩⟩
  · obtain ⟨⟨v, hv⟩, k1, k2⟩ := R.cell x c q
    exact ⟨⟨v, hv.sameBut hs (r5 x c q)⟩, k1, k2⟩
  · by_cases z : b = a
    · subst z
      have : lb = l' := by
        rcases List.mem_append.mp q with q | q
        · exact absurd rfl (hne _ _ (.inl q))
        · rcases List.mem_cons.mp q with q | q
          · cases q; rfl
          · exact absurd rfl (hne _ _ (.inr q))
      subst this
      exact ⟨vs', n', e, i, r2, r3, r4, r5⟩
    · have q' : (b, lb) ∈ m1 ++ (a, l) :: m2 := by
        rcases List.mem_append.mp q with q | q
        · exact List.mem_append_left _ q
        · rcases List.mem_cons.mp q with q | q
          · cases q; exact absurd rfl z
          · exact List.mem_append_right _ (.tail _ q)
      obtain ⟨ws, m, k1, k2, k3⟩ := R.mus b lb q'
      exact ⟨ws, m, (hs.2 b z).trans k1, k2, k3⟩
  · rw [List.map_append, List.map_cons]; exact nodup

theorem setitem_K {h : Heap} {t : Nat} {a : Addr} {vs : Array Value} {n : Nat} {k : Int} {tk : Tok} {x : Value} {Q : Unit → Shared → Prop} {E} (e : h.get? a = some (lobj vs n)) (h0 : 0 ≤ k) (h1 : k < vs.size) (h2 : vs.size ≤ 100000)
    (kk : ∀ h' n', h'.get? a = some (lobj (vs.setIfInBounds k.toNat x) n') → Heap.SameBut a h h' → Q () (W.S h' t)) : wpAny W.M A (setItem (.ref a) (.int k tk) x) Q E (W.S h t) := by
  have T : (W.S h t).TypeIs (.ref a) "list" := ⟨_, e, rfl⟩
  unfold setItem
  first
    | refine wpAny_holding (wpAny_bind (wpAny_sequenceKey T (by decide) ?_))
    | refine wpAny_bind (wpAny_sequenceKey T (by decide) ?_)
  refine wpAny_bind (wpAny_callSpecial?_slot (name := Str.ofString "__setitem__") T slot_list_setitem (wpAny_call_entry slot_list_setitem T entry_list_setitem ?_ (args_list_setitem _ _ _)))
  have hfit : Builtin.List.listFitsIndex k = true := fitsIndex_of h0 (by (first | lia | omega))
  show wpAny _ _ (Builtin.List.listSubscript? (.int k tk) >>= _) _ _ _
  refine wpAny_bind (wpAny_listSubscript_int hfit ?_)
  clear hfit
  obtain ⟨j, rfl⟩ := Int.eq_ofNat_of_zero_le h0
  rw [Int.toNat_natCast] at kk
  have hx : vs[j]? = some (vs[j]'(by (first | lia | omega))) := Array.getElem?_eq_getElem _
  have up := IsL.update e (·.setIfInBounds j x)
  show wpAny _ _ ((seqItemAt a j >>= fun r => pure (r.map (j, ·))) >>= _) _ _ _
  refine wpAny_bind (wpAny_bind (wpAny_seqItemAt (s := W.S h t) e rfl (wpAny_pure ?_)))
  rw [hx]
  show wpAny _ _ (setSeqItemAt a j x >>= _) _ _ _
  refine wpAny_bind (wpAny_setSeqItemAt (s := W.S h t) e rfl ?_)
  first
    | exact wpAny_bind (wpAny_pure (wpAny_pure ⟨.none, rfl, wpAny_pure (kk _ _ up (Heap.SameBut.update ..))⟩))
    | exact wpAny_pure ⟨.none, rfl, wpAny_pure (kk _ _ up (Heap.SameBut.update ..))⟩

theorem ex_setitem {o i e : Expr} {p pos : Pos} {a l k d m1 m2} (he : Ev W A hid env vars (m1 ++ (a, l) :: m2) e d) (ho : Ev W A hid env vars (m1 ++ (a, l) :: m2) o (.loc a)) (hi : Ev W A hid env vars (m1 ++ (a, l) :: m2) i (.int k))
    (h0 : 0 ≤ k) (h1 : k < l.length) (h2 : l.length ≤ 100000) (hsw : swapsWith e (some (.Subscript o i p)) pos.line env = pure false) :
    Ex1 W A hid env vars (m1 ++ (a, l) :: m2) (.Assign [.Subscript o i p] e pos) (· = .next vars (m1 ++ (a, l.set k.toNat d) :: m2)) := fun g h t R =>
  wpAny_Assign_Subscript (he g h t _ _ R fun u g1 h1' t1 l1 R1 i1 => ho g1 h1' t1 _ _ R1 fun v g2 h2' t2 l2 R2 i2 => hi g2 h2' t2 _ _ R2 fun w g3 h3 t3 l3 R3 i3 => by
    cases i2; cases i3
    obtain ⟨vs, n, e0, i0, _⟩ := R3.mus a l (by simp)
    have hlen : vs.size = l.length := by have := i0.length; simpa using this
    refine setitem_K e0 h0 (by (first | lia | omega)) (by (first | lia | omega)) fun h4 n4 e4 hs4 => ⟨_, _, g3, h4, t3, rfl, rfl, (l1.trans l2).trans l3, R3.mutate hs4 e4 ?_⟩
    rw [Array.toList_setIfInBounds]
    exact Iss.set (i1.mono (l2.trans l3)) _ i0) hsw
theorem ex_augitem {o i e : Expr} {p pos : Pos} {op : Operator} {a l k b c d m1 m2} (ho : Ev W A hid env vars (m1 ++ (a, l) :: m2) o (.loc a)) (hi : Ev W A hid env vars (m1 ++ (a, l) :: m2) i (.int k)) (he : Ev W A hid env vars (m1 ++ (a, l) :: m2) e b)
    (h0 : 0 ≤ k) (h1 : k < l.length) (h2 : l.length ≤ 100000) (hc : l[k.toNat]? = some c) (hop : Op W A hid env vars (m1 ++ (a, l) :: m2) [c, b] (fun us => inplaceOp op (us.getD 0 .none) (us.getD 1 .none)) d)
    (ha : ∀ ov iv new, augStore i ov iv new = (do holding [new, ov, iv] (setItem ov iv new); release [new, ov, iv] []; pure .next)) :
    Ex1 W A hid env vars (m1 ++ (a, l) :: m2) (.AugAssign (.Subscript o i p) op e pos) (· = .next vars (m1 ++ (a, l.set k.toNat d) :: m2)) := fun g h t R =>
  wpAny_AugAssign_SubscriptAny (ho g h t _ _ R fun v g1 h1' t1 l1 R1 i1 => hi g1 h1' t1 _ _ R1 fun w g2 h2' t2 l2 R2 i2 => by
    cases i1; cases i2
    obtain ⟨vs, n, e0, i0, _⟩ := R2.mus a l (by simp)
    have hlen : vs.size = l.length := by have := i0.length; simpa using this
    obtain ⟨x, hx, ix⟩ := i0.get _ _ hc
    refine wpAny_getItem_list (s := W.S h2' t2) (items := vs) ⟨_, e0, rfl, _, rfl⟩ h0 (by (first | lia | omega)) (by simpa using hx) (he g2 h2' t2 _ _ R2 fun y g3 h3 t3 l3 R3 i3 => ?_)
    refine hop g3 h3 t3 [x, y] _ _ R3 (.cons (ix.mono l3) (.cons i3 .nil)) fun z g4 h4 t4 l4 R4 i4 => ?_
    obtain ⟨vs', n', e1, i1', _⟩ := R4.mus a l (by simp)
    have hlen' : vs'.size = l.length := by have := i1'.length; simpa using this
    refine setitem_K e1 h0 (by (first | lia | omega)) (by (first | lia | omega)) fun h5 n5 e5 hs5 => ⟨_, _, g4, h5, t4, rfl, rfl, ((l1.trans l2).trans l3).trans l4, R4.mutate hs5 e5 ?_⟩
    rw [Array.toList_setIfInBounds]
    exact Iss.set i4 _ i1') ha

inductive TgtAll (hid : PMap) (env : Env) : List Expr → List PV → Vars → Vars → Prop where
  | nil {v} : TgtAll hid env [] [] v v
  | cons {x p es d ds v v'} : Sto hid env x → (x == ("__debug__" : Str)) = false → TgtAll hid env es ds ((x, d) :: v) v' → TgtAll hid env (.Name x p :: es) (d :: ds) v v'
theorem TgtAll.len {es ds v v'} (x : TgtAll hid env es ds v v') : (assignEach es env).length = ds.length ∧ (assignEach es env).findIdx? (·.1) = none := by
  induction x with
  | nil => exact ⟨rfl, rfl⟩
  | @cons x p es d ds v v' h1 h2 _ ih =>
    refine ⟨by show (assignEach es env).length + 1 = _; rw [ih.1]; rfl, ?_⟩
    show (((false, assign (.Name x p) env) :: assignEach es env).findIdx? (·.1)) = none
    rw [List.findIdx?_cons]
    simp [ih.2]
theorem TgtAll.run {es ds v v'} (x : TgtAll hid env es ds v v') (hk : env.scope.kind = .function) : ∀ g h t us (Q : Unit → Shared → Prop) (E : Value → Shared → Prop), Rep W hid g env v mu h → Iss g ds us →
    (∀ h' t', Rep W hid g env v' mu h' → Q () (W.S h' t')) → wpAny W.M A (assignInOrder ((assignEach es env).map (·.2)) us) Q E (W.S h t) := by
  induction x with
  | nil => intro g h t us Q E R i k; exact assignInOrder_nil (k h t R)
  | @cons x p es d ds v v' h1 h2 _ ih =>
    intro g h t us Q E R i k
    cases i with
    | cons i is =>
      exact assignInOrder_cons (wpAny_assign_Name (store_K h1 hk h2 R i fun h' t' R' => ih g h' t' _ Q E R' is k))
theorem tgt_tuple {es : List Expr} {n pos ds v'} (hh : A.handled = none) (hk : env.scope.kind = .function) (x : TgtAll hid env es ds vars v') : Tgt W A hid env vars mu (.Tuple es n pos) (.tup ds) v' := fun g h t v Q E R i k => by
  cases i with
  | tup e q =>
    rename_i a vs m
    have hlen : vs.size = ds.length := by have := q.length; simpa using this
    refine assign_Tuple_tuple (s := W.S h t) hh ⟨_, R.gs _ _ e, rfl, m, rfl⟩ (by rw [x.len.1, hlen]) x.len.2 fun h' he => ?_
    have hk' : Kept h h' := fun b o q => he b o (fun z => by rw [z, Rep.fresh_size] at q; cases q) q
    exact x.run hk g h' t _ Q E (R.keeps hk') q k
theorem ex_unpack {es : List Expr} {n : Nat} {tp pos : Pos} {e : Expr} {ds v'} (hh : A.handled = none) (hk : env.scope.kind = .function) (he : Ev W A hid env vars mu e (.tup ds)) (x : TgtAll hid env es ds vars v')
    (hs : swapsWithSole [.Tuple es n tp] e pos.line env = pure false) (hw : swappedStores [.Tuple es n tp] e env = pure none) :
    Ex1 W A hid env vars mu (.Assign [.Tuple es n tp] e pos) (· = .next v' mu) := fun g h t R =>
  PyProof.Rows.Assign_Tuple (he g h t _ _ R fun u g1 h1 t1 l1 R1 i1 => tgt_tuple hh hk x g1 h1 t1 u _ _ R1 i1 fun h2 t2 R2 => ⟨_, _, g1, h2, t2, rfl, rfl, l1, R2⟩) hs hw
end
end Mine
end

section
open PySem PySem.W PyProof.Rows PySem.Calls PySem.SeqAt
set_option linter.unusedVariables false
set_option maxRecDepth 100000
namespace Mine
section
variable {W : Wk} {A : Around} {hid : PMap} {env : Env} {vars : Vars} {mu : Mu} {K K' : Out → Prop}

end
end Mine
end

section
open PySem PySem.W PyProof.Rows PySem.Calls PySem.SeqAt
set_option linter.unusedVariables false
set_option maxRecDepth 100000
namespace Mine
section
variable {W : Wk} {A : Around} {hid : PMap} {env : Env} {vars : Vars} {mu : Mu} {K K' : Out → Prop}
end
end Mine
end

section
open PySem PySem.W PyProof.Rows PySem.Calls PySem.SeqAt
set_option linter.unusedVariables false
set_option maxRecDepth 100000
namespace Mine

structure Names (W : Wk) : Prop where
  ok : W.Ok
  len : W.mg "len" = none
  sum : W.mg "sum" = none
  range : W.mg "range" = none
  sorted : W.mg "sorted" = none
  abs : W.mg "abs" = none
  int : W.mg "int" = none
  min : W.mg "min" = none
  max : W.mg "max" = none
  isinstance : W.mg "isinstance" = none
  list : W.mg "list" = none

theorem boot_len : bootBuiltins "len" = some (.builtin "len") := by decide +kernel
theorem boot_sum : bootBuiltins "sum" = some (.builtin "sum") := by decide +kernel
theorem boot_range : bootBuiltins "range" = some (.type "range") := by decide +kernel
theorem boot_sorted : bootBuiltins "sorted" = some (.builtin "sorted") := by decide +kernel
theorem boot_abs : bootBuiltins "abs" = some (.builtin "abs") := by decide +kernel
theorem boot_int : bootBuiltins "int" = some (.type "int") := by decide +kernel
theorem boot_min : bootBuiltins "min" = some (.builtin "min") := by decide +kernel
theorem boot_max : bootBuiltins "max" = some (.builtin "max") := by decide +kernel

structure EnvOk (env : Env) : Prop where
  kind : env.scope.kind = .function
  glob : env.globals = mainGlobals
  bn : env.builtins = builtinsNs

section
variable {W : Wk} {A : Around} {hid : PMap} {env : Env} {vars : Vars} {mu : Mu} {K K' : Out → Prop}

theorem gname_b {x : Str} {v : Value} (E : EnvOk env) (hm : W.mg x = none) (hn : x ≠ "__name__") (hb : bootBuiltins x = some v) (hx : env.kindOf x = some .globalImplicit) (hd : (x == ("__debug__" : Str)) = false) : GName W env x v :=
  ⟨E.kind, E.glob, E.bn, hx, hd, .inr ⟨hm, hn, hb⟩⟩
theorem gname_g {x : Str} {v : Value} (E : EnvOk env) (hm : W.mg x = some v) (hx : env.kindOf x = some .globalImplicit) (hd : (x == ("__debug__" : Str)) = false) : GName W env x v :=
  ⟨E.kind, E.glob, E.bn, hx, hd, .inl hm⟩

theorem args1 {e : Expr} {d} (he : Ev W A hid env vars mu e d) (hs : starEach [e] env = [(false, eval e env)]) : EvArgs W A hid env vars mu [e] [d] := evargs_cons he evargs_nil hs

theorem ev_len {e : Expr} {np pos : Pos} {d l} (N : Names W) (E : EnvOk env) (he : Ev W A hid env vars mu e d) (hl : AsList mu d l) (hf : l.length < 2 ^ 62) (hx : env.kindOf "len" = some .globalImplicit) (hs : starEach [e] env = [(false, eval e env)]) :
    Ev W A hid env vars mu (.Call (.Name "len" np) [e] [] pos) (.int l.length) := ev_call_builtin N.ok (gname_b E N.len (by decide) boot_len hx (by decide)) (args1 he hs) (op_len hl hf) hs rfl
theorem ev_sum {e : Expr} {np pos : Pos} {d} {ns : List Int} (N : Names W) (E : EnvOk env) (hh : A.handled = none) (he : Ev W A hid env vars mu e d) (hl : AsList mu d (ns.map .int)) (hx : env.kindOf "sum" = some .globalImplicit) (hs : starEach [e] env = [(false, eval e env)]) :
    Ev W A hid env vars mu (.Call (.Name "sum" np) [e] [] pos) (.int ns.sum) := ev_call_builtin N.ok (gname_b E N.sum (by decide) boot_sum hx (by decide)) (args1 he hs) (op_sum hh hl) hs rfl
theorem ev_sorted {e : Expr} {np pos : Pos} {d} {ns : List Int} (N : Names W) (E : EnvOk env) (he : Ev W A hid env vars mu e d) (hl : AsList mu d (ns.map .int)) (h64 : ns.length < 64) (hx : env.kindOf "sorted" = some .globalImplicit) (hs : starEach [e] env = [(false, eval e env)]) :
    Ev W A hid env vars mu (.Call (.Name "sorted" np) [e] [] pos) (.list ((sortI ns).map .int)) := ev_call_builtin N.ok (gname_b E N.sorted (by decide) boot_sorted hx (by decide)) (args1 he hs) (op_sorted hl h64) hs rfl
theorem ev_abs {e : Expr} {np pos : Pos} {n : Int} (N : Names W) (E : EnvOk env) (he : Ev W A hid env vars mu e (.int n)) (hx : env.kindOf "abs" = some .globalImplicit) (hs : starEach [e] env = [(false, eval e env)]) :
    Ev W A hid env vars mu (.Call (.Name "abs" np) [e] [] pos) (.int (n.natAbs : Int)) := ev_call_builtin N.ok (gname_b E N.abs (by decide) boot_abs hx (by decide)) (args1 he hs) op_abs hs rfl
theorem ev_toint {e : Expr} {np pos : Pos} {n : Int} (N : Names W) (E : EnvOk env) (he : Ev W A hid env vars mu e (.int n)) (hx : env.kindOf "int" = some .globalImplicit) (hs : starEach [e] env = [(false, eval e env)]) :
    Ev W A hid env vars mu (.Call (.Name "int" np) [e] [] pos) (.int n) := ev_call_type N.ok (gname_b E N.int (by decide) boot_int hx (by decide)) (args1 he hs) op_int hs rfl
theorem ev_range1 {e : Expr} {np pos : Pos} {n : Int} (N : Names W) (E : EnvOk env) (he : Ev W A hid env vars mu e (.int n)) (hx : env.kindOf "range" = some .globalImplicit) (hs : starEach [e] env = [(false, eval e env)]) :
    Ev W A hid env vars mu (.Call (.Name "range" np) [e] [] pos) (.rng 0 n) := ev_call_type N.ok (gname_b E N.range (by decide) boot_range hx (by decide)) (args1 he hs) op_range1 hs rfl
theorem ev_min2 {e f : Expr} {np pos : Pos} {n m : Int} (N : Names W) (E : EnvOk env) (hh : A.handled = none) (he : Ev W A hid env vars mu e (.int n)) (hf : Ev W A hid env vars mu f (.int m)) (hx : env.kindOf "min" = some .globalImplicit) (hs : starEach [e, f] env = [(false, eval e env), (false, eval f env)]) (hs2 : starEach [f] env = [(false, eval f env)]) :
    Ev W A hid env vars mu (.Call (.Name "min" np) [e, f] [] pos) (.int (min n m)) := ev_call_builtin N.ok (gname_b E N.min (by decide) boot_min hx (by decide)) (evargs_cons he (args1 hf hs2) (by rw [hs, hs2])) (op_min2 hh) (by rw [hs, hs2]) (by rw [hs2]; rfl)
theorem ev_max2 {e f : Expr} {np pos : Pos} {n m : Int} (N : Names W) (E : EnvOk env) (hh : A.handled = none) (he : Ev W A hid env vars mu e (.int n)) (hf : Ev W A hid env vars mu f (.int m)) (hx : env.kindOf "max" = some .globalImplicit) (hs : starEach [e, f] env = [(false, eval e env), (false, eval f env)]) (hs2 : starEach [f] env = [(false, eval f env)]) :
    Ev W A hid env vars mu (.Call (.Name "max" np) [e, f] [] pos) (.int (max n m)) := ev_call_builtin N.ok (gname_b E N.max (by decide) boot_max hx (by decide)) (evargs_cons he (args1 hf hs2) (by rw [hs, hs2])) (op_max2 hh) (by rw [hs, hs2]) (by rw [hs2]; rfl)
theorem ev_maxl {e : Expr} {np pos : Pos} {d} {ns : List Int} {m : Int} (N : Names W) (E : EnvOk env) (hh : A.handled = none) (he : Ev W A hid env vars mu e d) (hl : AsList mu d (ns.map .int)) (hm : m ∈ ns) (hmx : ∀ a ∈ ns, a ≤ m) (hx : env.kindOf "max" = some .globalImplicit) (hs : starEach [e] env = [(false, eval e env)]) :
    Ev W A hid env vars mu (.Call (.Name "max" np) [e] [] pos) (.int m) := ev_call_builtin N.ok (gname_b E N.max (by decide) boot_max hx (by decide)) (args1 he hs) (op_max hh hl hm hmx) hs rfl
end

theorem bits_of_lt {a : Int} {k : Nat} (h : a.natAbs < 2 ^ k) : Builtin.Int.intBits a ≤ k := by
  unfold Builtin.Int.intBits
  split
  · exact Nat.zero_le _
  · rename_i h0
    have hn : a.natAbs ≠ 0 := by
      intro z; apply h0; simp; (first | lia | omega)
    exact (Nat.log2_lt hn).mpr h
theorem mulOk {a b : Int} {j k : Nat} (ha : a.natAbs < 2 ^ j) (hb : b.natAbs < 2 ^ k) (h : j + k ≤ 134217728) : IntMulOk a b := by
  have h1 := bits_of_lt ha
  have h2 := bits_of_lt hb
  unfold IntMulOk
  have : Builtin.Int.intTooBig ((Builtin.Int.intBits a : Int) + (Builtin.Int.intBits b : Int)) = false := by
    unfold Builtin.Int.intTooBig
    rw [bitsLine_eq]
    simp only [gt_iff_lt, decide_eq_false_iff_not, Int.not_lt]
    (first | lia | omega)
  rw [this]; simp
end Mine
end

section
open PySem PySem.W PyProof.Rows PySem.Calls PySem.SeqAt
set_option linter.unusedVariables false
set_option maxRecDepth 100000
namespace Mine
section
variable {W : Wk} {A : Around} {hid : PMap} {env : Env} {vars : Vars} {mu : Mu} {K K' : Out → Prop}

open Classical in
noncomputable def unmk {α β : Type} (mk : α → PV) (f : α → β) (z : β) (v : PV) : β := if h : ∃ a, mk a = v then f h.choose else z
theorem unmk_eq {α β : Type} {mk : α → PV} (inj : ∀ a b, mk a = mk b → a = b) {f : α → β} {z : β} (a : α) : unmk mk f z (mk a) = f a := by
  unfold unmk
  have h : ∃ b, mk b = mk a := ⟨a, rfl⟩
  rw [dif_pos h]
  exact congrArg f (inj _ _ h.choose_spec)

structure CompM (W : Wk) (A : Around) (hid : PMap) (env : Env) (vars : Vars) (mu : Mu) (elt target iter : Expr) (ifs : List Expr) (scope : Scope) {α : Type} (mk : α → PV) (xs : List α) (p : α → Bool) (f : α → PV) (d : PV) (vars' : Vars) (tv : α → Vars) : Prop where
  inj : ∀ a b, mk a = mk b → a = b
  hh : A.handled = none
  hk : env.scope.kind = .function
  it : Ev W A hid env vars mu iter d
  src : Src mu d (xs.map mk)
  blk : BlockOk scope env
  over : Over scope env vars' vars
  fold : ∀ x, foldedSetIterable iter env x = pure x
  lo : LoOk mu target d (xs.map mk)
  len : xs.length ≤ 100000
  tgt : ∀ hid' C a, a ∈ xs → OwnFree hid' scope C env → Tgt W A hid' (cEnv scope C env) vars' mu target (mk a) (tv a)
  test : ∀ hid' C a, a ∈ xs → Tests W A hid' (cEnv scope C env) (tv a) mu ifs (p a)
  elt : ∀ hid' C a, a ∈ xs → p a = true → Ev W A hid' (cEnv scope C env) (tv a) mu elt (f a)
  sub : ∀ a, a ∈ xs → Sub vars' (tv a)

theorem CompM.ok {elt target iter : Expr} {ifs : List Expr} {scope : Scope} {α : Type} {mk : α → PV} {xs : List α} {p : α → Bool} {f : α → PV} {d vars' tv} (c : CompM W A hid env vars mu elt target iter ifs scope mk xs p f d vars' tv) :
    CompOk W A hid env vars mu elt target iter ifs scope (xs.map mk) (unmk mk p false) (unmk mk f .none) ∧ (((xs.map mk).filter (unmk mk p false)).map (unmk mk f .none)) = (xs.filter p).map f := by
  have e : ∀ {β : Type} {g : α → β} {z : β} (a : α), unmk mk g z (mk a) = g a := fun a => unmk_eq c.inj a
  refine ⟨⟨⟨d, vars', unmk mk tv [], c.it, c.src, c.blk, c.over, c.fold, c.lo, by rw [List.length_map]; exact c.len, fun hid' C v hv o => ?_, fun hid' C v hv => ?_, fun hid' C v hv hp => ?_, fun v hv => ?_⟩, c.hh, c.hk⟩, ?_⟩
  · obtain ⟨a, ha, rfl⟩ := List.mem_map.mp hv; rw [e]; exact c.tgt hid' C a ha o
  · obtain ⟨a, ha, rfl⟩ := List.mem_map.mp hv; rw [e, e]; exact c.test hid' C a ha
  · obtain ⟨a, ha, rfl⟩ := List.mem_map.mp hv; rw [e] at hp; rw [e, e]; exact c.elt hid' C a ha hp
  · obtain ⟨a, ha, rfl⟩ := List.mem_map.mp hv; rw [e]; exact c.sub a ha
  · rw [List.filter_map, List.map_map]
    have h1 : (unmk mk p false ∘ mk) = p := funext fun a => e a
    have h2 : (unmk mk f PV.none ∘ mk) = f := funext fun a => e a
    rw [h1, h2]
theorem evnew_compM {elt target iter : Expr} {ifs : List Expr} {scope : Scope} {pos : Pos} {α : Type} {mk : α → PV} {xs : List α} {p : α → Bool} {f : α → PV} {d vars' tv} (c : CompM W A hid env vars mu elt target iter ifs scope mk xs p f d vars' tv) :
    EvNew W A hid env vars mu (.ListComp elt [⟨target, iter, ifs, 0⟩] scope pos) ((xs.filter p).map f) := by
  have := evnew_comp (pos := pos) c.ok.1
  rw [c.ok.2] at this; exact this
theorem ex_compM {x : Str} {px spos : Pos} {elt target iter : Expr} {ifs : List Expr} {scope : Scope} {pos : Pos} {α : Type} {mk : α → PV} {xs : List α} {p : α → Bool} {f : α → PV} {d vars' tv} (c : CompM W A hid env vars mu elt target iter ifs scope mk xs p f d vars' tv)
    (hsw : swapsWith (.ListComp elt [⟨target, iter, ifs, 0⟩] scope pos) (some (.Name x px)) spos.line env = pure true) (hl : env.kindOf x = some .local) (hd : (x == ("__debug__" : Str)) = false) :
    Ex1 W A hid env vars mu (.Assign [.Name x px] (.ListComp elt [⟨target, iter, ifs, 0⟩] scope pos) spos) (· = .next ((x, .list ((xs.filter p).map f)) :: vars) mu) := by
  have := ex_comp c.ok.1 hsw hl hd
  rw [c.ok.2] at this; exact this

theorem src_rng {n : Nat} (h : n < 2 ^ 61) : Src mu (.rng 0 n) ((List.range n).map fun (i : Nat) => PV.int (i : Int)) := by
  have e : rngL 0 (n : Int) = (List.range n).map fun (i : Nat) => PV.int (i : Int) := by
    unfold rngL
    have : ((n : Int) - 0).toNat = n := by (first | lia | omega)
    rw [this]
    simp
  rw [← e]
  exact .rng (by (first | lia | omega)) (by (first | lia | omega)) (by (first | lia | omega)) (by (first | lia | omega))
theorem inj_nat : ∀ a b : Nat, PV.int (a : Int) = PV.int (b : Int) → a = b := fun a b h => by injection h with h; (first | lia | omega)
theorem inj_int : ∀ a b : Int, PV.int a = PV.int b → a = b := fun a b h => by injection h

end
end Mine
end

local macro_rules | `(tactic| walk_at "ev") => `(tactic| first
  | exact Mine.ev_int | exact Mine.ev_bool | exact Mine.ev_none | exact Mine.ev_str
  | exact Mine.ev_name rfl rfl
  | (refine Mine.ev_add ?_ ?_ <;> walk_at "ev")
  | (refine Mine.ev_sub ?_ ?_ <;> walk_at "ev")
  | (refine Mine.ev_neg ?_ <;> walk_at "ev"))
local macro_rules | `(tactic| walk_at "args") => `(tactic| first
  | exact Mine.evargs_nil
  | (refine Mine.evargs_cons ?_ ?_ rfl; (walk_at "ev"); (walk_at "args")))
local macro_rules | `(tactic| walk_at "sub") => `(tactic| repeat (first | exact Mine.Sub.nil | refine Mine.Sub.cons rfl ?_))
local macro_rules | `(tactic| walk_at "over") => `(tactic| repeat (first | exact Mine.Over.nil | refine Mine.Over.cons rfl rfl rfl ?_))

section
open PySem PySem.W PyProof.Rows PySem.Calls PySem.SeqAt
set_option linter.unusedVariables false
set_option maxRecDepth 100000
namespace Mine

def fnOf? : List Stmt → Str → Option (Arguments × List Stmt × Scope)
  | [], _ => none
  | .FunctionDef name args body _ _ _ scope _ _ _ :: r, n => if name == n then some (args, body, scope) else fnOf? r n
  | _ :: r, n => fnOf? r n
def argsOf (p : Program) (n : Str) : Arguments := ((fnOf? p.main.body n).map (·.1)).getD { posonlyargs := [], args := [], vararg := none, kwonlyargs := [], kw_defaults := [], kwarg := none, defaults := [] }
def bodyOf (p : Program) (n : Str) : List Stmt := ((fnOf? p.main.body n).map (·.2.1)).getD []
def scopeOf (p : Program) (n : Str) : Scope := ((fnOf? p.main.body n).map (·.2.2)).getD { kind := .function, names := [], isGenerator := false, isCoroutine := false, more := [] }

def DefAt (W : Wk) (p : Program) (n : Str) (a : Addr) (dV : Value) : Prop :=
  W.mg n = some (.ref a) ∧ ∃ kV doc pm an cdv ct, FnAt W a (fnOf n n (argsOf p n) (bodyOf p n) (scopeOf p n) dV kV doc pm an cdv ct) (bodyOf p n)

abbrev p1 : Program := PySem.Challenge.pw_af0002_04

section
variable {W : Wk} {A : Around} {hid : PMap} {env : Env} {vars : Vars} {mu : Mu} {K : Out → Prop}


theorem ev_in {l r : Expr} {pos : Pos} {x : Str} {ns : List Str} {d} (hl : Ev W A hid env vars mu l (.str x)) (hr : Ev W A hid env vars mu r d) (hd : AsList mu d (ns.map .str)) (hm : behindInMarks .In r = false) : Tr W A hid env vars mu (.Compare l [.In] [r] pos) (ns.any (· == x)) :=
  tr_cmp hl hr hm (c_ins hd)

theorem filter_tt' {α : Type} (l : List α) : l.filter (fun _ => true) = l := by simp
structure CompA (W : Wk) (A : Around) (hid : PMap) (env : Env) (vars : Vars) (mu : Mu) (elt target iter : Expr) (scope : Scope) {α : Type} (mk : α → PV) (xs : List α) (f : α → PV) (d : PV) (vars' : Vars) (tv : α → Vars) : Prop where
  inj : ∀ a b, mk a = mk b → a = b
  hh : A.handled = none
  hk : env.scope.kind = .function
  it : Ev W A hid env vars mu iter d
  src : Src mu d (xs.map mk)
  blk : BlockOk scope env
  over : Over scope env vars' vars
  fold : ∀ x, foldedSetIterable iter env x = pure x
  lo : LoOk mu target d (xs.map mk)
  len : xs.length ≤ 100000
  tgt : ∀ hid' C a, a ∈ xs → OwnFree hid' scope C env → Tgt W A hid' (cEnv scope C env) vars' mu target (mk a) (tv a)
  elt : ∀ hid' C a, a ∈ xs → Ev W A hid' (cEnv scope C env) (tv a) mu elt (f a)
  sub : ∀ a, a ∈ xs → Sub vars' (tv a)
theorem CompA.m {elt target iter : Expr} {scope : Scope} {α : Type} {mk : α → PV} {xs : List α} {f : α → PV} {d vars' tv} (c : CompA W A hid env vars mu elt target iter scope mk xs f d vars' tv) :
    CompM W A hid env vars mu elt target iter [] scope mk xs (fun _ => true) f d vars' tv :=
  ⟨c.inj, c.hh, c.hk, c.it, c.src, c.blk, c.over, c.fold, c.lo, c.len, c.tgt, fun _ _ _ _ => tests_nil, fun hid' C a h _ => c.elt hid' C a h, c.sub⟩
theorem evnew_compA {elt target iter : Expr} {scope : Scope} {pos : Pos} {α : Type} {mk : α → PV} {xs : List α} {f : α → PV} {d vars' tv} (c : CompA W A hid env vars mu elt target iter scope mk xs f d vars' tv) :
    EvNew W A hid env vars mu (.ListComp elt [⟨target, iter, [], 0⟩] scope pos) (xs.map f) := by
  have := evnew_compM (pos := pos) c.m
  rw [filter_tt'] at this; exact this
theorem ex_compA {x : Str} {px spos : Pos} {elt target iter : Expr} {scope : Scope} {pos : Pos} {α : Type} {mk : α → PV} {xs : List α} {f : α → PV} {d vars' tv} (c : CompA W A hid env vars mu elt target iter scope mk xs f d vars' tv)
    (hsw : swapsWith (.ListComp elt [⟨target, iter, [], 0⟩] scope pos) (some (.Name x px)) spos.line env = pure true) (hl : env.kindOf x = some .local) (hd : (x == ("__debug__" : Str)) = false) :
    Ex1 W A hid env vars mu (.Assign [.Name x px] (.ListComp elt [⟨target, iter, [], 0⟩] scope pos) spos) (· = .next ((x, .list (xs.map f)) :: vars) mu) := by
  have := ex_compM c.m hsw hl hd
  rw [filter_tt'] at this; exact this
theorem exs_own {st : Stmt} {rest : List Stmt} {x : Str} {ds : List PV} (h : Ex1 W A hid env vars mu st (fun o => ∃ D, o = .next ((x, .loc D) :: vars) ((D, ds) :: mu))) (k : ∀ D, Exs W A hid env ((x, .loc D) :: vars) ((D, ds) :: mu) rest K) : Exs W A hid env vars mu (st :: rest) K :=
  exs_cons h (fun v m e => by obtain ⟨D, e⟩ := e; cases e; exact k D) fun o e hn => by obtain ⟨D, e⟩ := e; subst e; exact absurd rfl (hn _ _)

theorem mulOk20 {a b : Int} (ha : a.natAbs < 2 ^ 20) (hb : b.natAbs < 2 ^ 20) : IntMulOk a b := mulOk ha hb (by decide)

theorem ev_tup2 {e1 e2 : Expr} {n pos} {d1 d2} (h1 : Ev W A hid env vars mu e1 d1) (h2 : Ev W A hid env vars mu e2 d2) (hs : starEach [e1, e2] env = [(false, eval e1 env), (false, eval e2 env)]) (hs2 : starEach [e2] env = [(false, eval e2 env)]) : Ev W A hid env vars mu (.Tuple [e1, e2] n pos) (.tup [d1, d2]) :=
  ev_tuple (evargs_cons h1 (args1 h2 hs2) (by rw [hs, hs2])) (Nat.le_of_ble_eq_true rfl)
end
end Mine
end

section
open PySem PySem.W PyProof.Rows PySem.Calls PySem.SeqAt
set_option linter.unusedVariables false
set_option maxRecDepth 100000
namespace Mine

theorem lt_of_get {α : Type} {l : List α} {i : Nat} {a : α} (h : l[i]? = some a) : i < l.length := by
  rcases Nat.lt_or_ge i l.length with q | q
  · exact q
  · rw [List.getElem?_eq_none q] at h; cases h
section
variable {W : Wk} {A : Around} {hid : PMap} {env : Env} {vars : Vars} {mu : Mu} {K : Out → Prop}
theorem ev_pair0 {v s : Expr} {pos x y} (hv : Ev W A hid env vars mu v (.tup [x, y])) (hs : Ev W A hid env vars mu s (.int 0)) : Ev W A hid env vars mu (.Subscript v s pos) x :=
  ev_tidx hv hs (by decide) (by show (0 : Int) < ((2 : Nat) : Int); decide) (by show 2 < 2 ^ 62; decide) rfl
theorem ev_pair1 {v s : Expr} {pos x y} (hv : Ev W A hid env vars mu v (.tup [x, y])) (hs : Ev W A hid env vars mu s (.int 1)) : Ev W A hid env vars mu (.Subscript v s pos) y :=
  ev_tidx hv hs (by decide) (by show (1 : Int) < ((2 : Nat) : Int); decide) (by show 2 < 2 ^ 62; decide) rfl

end
end Mine
end

section
open PySem PySem.W PyProof.Rows PySem.Calls PySem.SeqAt
set_option linter.unusedVariables false
set_option maxRecDepth 100000
namespace Mine

section
variable {W : Wk} {A : Around} {hid : PMap} {env : Env} {vars : Vars} {mu : Mu} {K : Out → Prop}

abbrev listI (l : List Int) : PV := .list (l.map .int)
theorem getD_map_int (l : List Int) (i : Nat) (h : i < l.length) : (l.map PV.int)[i]? = some (.int (l.getD i 0)) := by
  rw [List.getElem?_map, List.getD, List.getElem?_eq_getElem h]; rfl
theorem idx_nat (i n : Nat) : idx (i : Int) n = i := by unfold idx; rw [if_pos (by (first | lia | omega))]; (first | lia | omega)

theorem ev_nidx {v s : Expr} {pos d l} {k : Nat} {r} (hv : Ev W A hid env vars mu v d) (hs : Ev W A hid env vars mu s (.int (k : Int))) (hl : AsList mu d l) (hn : l.length ≤ 100000) (hr : l[k]? = some r) : Ev W A hid env vars mu (.Subscript v s pos) r := by
  have hk := lt_of_get hr
  exact ev_idx hv hs hl (by (first | lia | omega)) (by (first | lia | omega)) (by (first | lia | omega)) (by rw [idx_nat]; exact hr)
theorem ev_iidx {v s : Expr} {pos d} {xs : List Int} {k : Nat} (hv : Ev W A hid env vars mu v d) (hs : Ev W A hid env vars mu s (.int (k : Int))) (hl : AsList mu d (xs.map .int)) (hk : k < xs.length) (hn : xs.length ≤ 100000) : Ev W A hid env vars mu (.Subscript v s pos) (.int (xs.getD k 0)) :=
  ev_nidx hv hs hl (by rw [List.length_map]; exact hn) (getD_map_int _ _ hk)
end
end Mine
end

section
open PySem PySem.W PyProof.Rows PySem.Calls PySem.SeqAt
set_option linter.unusedVariables false
set_option maxRecDepth 100000
namespace Mine

def has (m : Int) (l : List Int) : Bool := l.any (· == m)
def tieStep (S : Nat) (ws : List (List Int)) (m : Int) (r : List Int) (i : Nat) : List Int := if decide (r.sum < (S : Int)) && has m (ws.getD i []) then r.set i (r.getD i 0 + 1) else r
def tieFold (S : Nat) (ws : List (List Int)) (m : Int) (r : List Int) (n : Nat) : List Int := (List.range n).foldl (tieStep S ws m) r
def tieSeen (S : Nat) (ws : List (List Int)) (m : Int) (r : List Int) (n : Nat) : Bool := (List.range n).any fun i => (tieFold S ws m r i).sum == (S : Int) && has m (ws.getD i [])
theorem tieStep_len {S ws m r i} : (tieStep S ws m r i).length = r.length := by unfold tieStep; split <;> simp
theorem tieFold_succ {S ws m r n} : tieFold S ws m r (n + 1) = tieStep S ws m (tieFold S ws m r n) n := by
  unfold tieFold; rw [List.range_succ, List.foldl_append]; rfl
theorem tieFold_len {S ws m r} : ∀ {n}, (tieFold S ws m r n).length = r.length
  | 0 => rfl
  | n + 1 => by rw [tieFold_succ, tieStep_len, tieFold_len]
theorem tieSeen_succ {S ws m r n} : tieSeen S ws m r (n + 1) = (tieSeen S ws m r n || ((tieFold S ws m r n).sum == (S : Int) && has m (ws.getD n []))) := by
  unfold tieSeen; rw [List.range_succ, List.any_append]; simp
section
variable {W : Wk} {A : Around} {hid : PMap} {env : Env} {vars : Vars} {mu : Mu} {K : Out → Prop}

theorem tr_and2 {a b : Expr} {pos x y} (ha : Tr W A hid env vars mu a x) (hb : x = true → Tr W A hid env vars mu b y) : Tr W A hid env vars mu (.BoolOp .And [a, b] pos) (x && y) := by
  cases x
  · exact tr_bool (.stop ha rfl)
  · have := hb rfl
    cases y
    · exact tr_bool (.more ha rfl (.stop this rfl))
    · exact tr_bool (.more ha rfl (.more this rfl .nil))
theorem tr_name_bool {x : Str} {p b} (h : vars.lookup x = some (.bool b)) (hk : env.scope.kind = .function) (hf : ∀ v : Sem Value, isTrue (.Name x p) env v = (do let x ← v; standAt p; holding [x] (truthy x))) : Tr W A hid env vars mu (.Name x p) b :=
  tr_of (ev_name h hk) (show b = b from rfl) hf

end
end Mine
end

section
open PySem PySem.W PyProof.Rows PySem.Calls PySem.SeqAt
set_option linter.unusedVariables false
set_option maxRecDepth 100000
namespace Mine

theorem sortI_len (l : List Int) : (sortI l).length = l.length := (sortI_perm l).length_eq

section
variable {W : Wk} {A : Around} {hid : PMap} {env : Env} {vars : Vars} {mu : Mu} {K : Out → Prop}

end
end Mine
end

section
set_option linter.unusedVariables false
namespace Mine

def cntP (p : Int → Bool) (l : List Int) : Nat := (l.filter p).length
theorem cntP_append (p) (a b : List Int) : cntP p (a ++ b) = cntP p a + cntP p b := by unfold cntP; rw [List.filter_append, List.length_append]
theorem cntP_perm {p} {a b : List Int} (h : a.Perm b) : cntP p a = cntP p b := (h.filter p).length_eq
theorem cntP_zero {p} {a : List Int} (h : ∀ x ∈ a, p x = false) : cntP p a = 0 := by
  unfold cntP
  rw [List.filter_eq_nil_iff.mpr (fun x hx => by simp [h x hx])]; rfl
theorem cntP_all {p} {a : List Int} (h : ∀ x ∈ a, p x = true) : cntP p a = a.length := by
  unfold cntP; rw [List.filter_eq_self.mpr h]
theorem cntP_le {p} {a : List Int} : cntP p a ≤ a.length := List.length_filter_le _ _
theorem cntP_cons {p} {x} {a : List Int} : cntP p (x :: a) = (if p x then 1 else 0) + cntP p a := by
  unfold cntP; rw [List.filter_cons]; split <;> simp <;> (first | lia | omega)
theorem cut_counts {fl : List Int} (hs : fl.Pairwise (· ≤ ·)) {T : Nat} (h1 : 1 ≤ T) (h2 : T ≤ fl.length) :
    cntP (fun w => decide (w > fl.getD (fl.length - T) 0)) fl < T ∧ T ≤ cntP (fun w => decide (w ≥ fl.getD (fl.length - T) 0)) fl := by
  have hp : fl.length - T < fl.length := by (first | lia | omega)
  generalize hm : fl.getD (fl.length - T) 0 = m
  have hm' : fl[fl.length - T] = m := by rw [← hm, List.getD, List.getElem?_eq_getElem hp]; rfl
  have e : fl = fl.take (fl.length - T) ++ (m :: fl.drop (fl.length - T + 1)) := by
    rw [← hm', ← List.drop_eq_getElem_cons hp, List.take_append_drop]
  have hl : (fl.drop (fl.length - T + 1)).length = T - 1 := by rw [List.length_drop]; (first | lia | omega)
  generalize hA : fl.take (fl.length - T) = A at e
  generalize hB : fl.drop (fl.length - T + 1) = B at e hl
  rw [e] at hs
  obtain ⟨_, hB2, hAB⟩ := List.pairwise_append.mp hs
  have hB3 := List.pairwise_cons.mp hB2
  constructor
  · rw [e, cntP_append, cntP_zero (a := A) (fun x hx => by have := hAB x hx m List.mem_cons_self; simp; (first | lia | omega)), cntP_cons]
    have := cntP_le (p := fun w => decide (w > m)) (a := B)
    rw [if_neg (by simp)]; (first | lia | omega)
  · rw [e, cntP_append, cntP_all (a := m :: B) (fun x hx => by
      rcases List.mem_cons.mp hx with rfl | hx
      · simp
      · have := hB3.1 x hx; simp; (first | lia | omega)), List.length_cons]
    (first | lia | omega)

theorem sum_set : ∀ (l : List Int) (i : Nat) (h : i < l.length), (l.set i (l.getD i 0 + 1)).sum = l.sum + 1
  | [], i, h => by simp at h
  | x :: r, 0, _ => by simp [List.getD]; (first | lia | omega)
  | x :: r, i + 1, h => by
    have := sum_set r i (by simpa using h)
    rw [List.set_cons_succ, List.sum_cons, List.sum_cons]
    have e : (x :: r).getD (i + 1) 0 = r.getD i 0 := by simp [List.getD]
    rw [e, this]; (first | lia | omega)
def hasTo (m : Int) (ws : List (List Int)) : Nat → Nat
  | 0 => 0
  | i + 1 => hasTo m ws i + (if has m (ws.getD i []) then 1 else 0)
theorem hasTo_succ {m ws i} : hasTo m ws (i + 1) = hasTo m ws i + (if has m (ws.getD i []) then 1 else 0) := rfl
theorem getD_set {l : List Int} {i j : Nat} {x : Int} (h : i < l.length) : (l.set i x).getD j 0 = if j = i then x else l.getD j 0 := by
  simp only [List.getD, List.getElem?_set]
  by_cases e : i = j
  · subst e; simp [h]
  · rw [if_neg e, if_neg (fun q => e q.symm)]
theorem tieFold_spec {S : Nat} {ws : List (List Int)} {m : Int} {r : List Int} (hr : r.sum ≤ (S : Int)) : ∀ {i : Nat}, i ≤ r.length → (tieFold S ws m r i).sum = min (S : Int) (r.sum + hasTo m ws i) ∧
    ∀ j, (tieFold S ws m r i).getD j 0 = r.getD j 0 + (if j < i ∧ has m (ws.getD j []) = true ∧ r.sum + hasTo m ws j < (S : Int) then 1 else 0) := by
  intro i
  induction i with
  | zero => intro _; exact ⟨by show r.sum = min (S : Int) (r.sum + ((0 : Nat) : Int)); (first | lia | omega), fun j => by show r.getD j 0 = _; simp⟩
  | succ i ih =>
    intro hi
    obtain ⟨h1, h2⟩ := ih (by (first | lia | omega))
    have hlen : (tieFold S ws m r i).length = r.length := tieFold_len
    rw [tieFold_succ]
    unfold tieStep
    by_cases hc : (tieFold S ws m r i).sum < (S : Int) ∧ has m (ws.getD i []) = true
    · rw [if_pos (by rw [hc.2]; simp [hc.1])]
      constructor
      · rw [sum_set _ _ (by (first | lia | omega)), h1]
        rw [hasTo_succ, if_pos hc.2]
        have := hc.1
        (first | lia | omega)
      · intro j
        rw [getD_set (by (first | lia | omega))]
        by_cases e : j = i
        · subst e
          have := hc.1
          rw [if_pos rfl, h2 j, if_neg (by (first | lia | omega)), if_pos ⟨by (first | lia | omega), hc.2, by (first | lia | omega)⟩]
          (first | lia | omega)
        · rw [if_neg e, h2 j]
          have : (j < i + 1) ↔ (j < i) := by (first | lia | omega)
          simp only [this]
    · rw [if_neg (by simpa using hc)]
      constructor
      · rw [hasTo_succ]
        by_cases hh : has m (ws.getD i []) = true
        · rw [if_pos hh]; have : ¬ (tieFold S ws m r i).sum < (S : Int) := fun q => hc ⟨q, hh⟩
          (first | lia | omega)
        · rw [if_neg hh]; exact h1
      · intro j
        rw [h2 j]
        by_cases e : j = i
        · subst e
          rw [if_neg (by (first | lia | omega)), if_neg]
          rintro ⟨_, q1, q2⟩
          exact hc ⟨by (first | lia | omega), q1⟩
        · have : (j < i + 1) ↔ (j < i) := by (first | lia | omega)
          simp only [this]

end Mine
end

section
set_option linter.unusedVariables false
namespace Mine

theorem getD_lt {l : List Int} {k : Nat} (h : k < l.length) : l.getD k 0 = l[k] := by rw [List.getD, List.getElem?_eq_getElem h]; rfl
end Mine
end

section
set_option linter.unusedVariables false
namespace Mine

def lrQ (v : List Int) (S : Nat) : List Int := v.map fun p => (p * (S : Int)).fdiv v.sum
def lrR (v : List Int) (S : Nat) : List Int := v.map fun p => p * (S : Int) - (p * (S : Int)).fdiv v.sum * v.sum
def lrC (v : List Int) (S : Nat) : Int := (sortI (lrR v S)).getD (idx ((lrQ v S).sum - (S : Int)) v.length) 0
def lrStep (S : Nat) (rem : List Int) (c : Int) (s : List Int × Bool) (i : Nat) : List Int × Bool :=
  if (s.1.sum == (S : Int)) && decide (rem.getD i 0 ≥ c) then (s.1, true)
  else if decide (s.1.sum < (S : Int)) && decide (rem.getD i 0 > c) then (s.1.set i (s.1.getD i 0 + 1), s.2)
  else if decide (s.1.sum < (S : Int)) && (rem.getD i 0 == c) then (s.1.set i (s.1.getD i 0 + 1), s.2)
  else s
def lrFold (S : Nat) (rem : List Int) (c : Int) (r : List Int) (n : Nat) : List Int × Bool := (List.range n).foldl (lrStep S rem c) (r, false)
def lrF (v : List Int) (S : Nat) : List Int := if (lrQ v S).sum < (S : Int) then (lrFold S (lrR v S) (lrC v S) (lrQ v S) v.length).1 else lrQ v S
def lrTie (v : List Int) (S : Nat) : Bool := if (lrQ v S).sum < (S : Int) then (lrFold S (lrR v S) (lrC v S) (lrQ v S) v.length).2 else false
theorem lrFold_succ {S rem c r n} : lrFold S rem c r (n + 1) = lrStep S rem c (lrFold S rem c r n) n := by
  unfold lrFold; rw [List.range_succ, List.foldl_append]; rfl
theorem lrStep_len {S rem c s i} : (lrStep S rem c s i).1.length = s.1.length := by
  unfold lrStep; split
  · rfl
  · split
    · exact List.length_set
    · split
      · exact List.length_set
      · rfl
theorem lrFold_len {S rem c r} : ∀ {n}, (lrFold S rem c r n).1.length = r.length
  | 0 => rfl
  | n + 1 => by rw [lrFold_succ, lrStep_len, lrFold_len]

structure LrPre (v : List Int) (S B : Nat) : Prop where
  s1 : 1 ≤ S
  sS : S < 2 ^ 100
  n1 : 1 ≤ v.length
  n63 : v.length ≤ 63
  sum : 0 < v.sum
  small : ∀ p ∈ v, p.natAbs < 2 ^ B
  sums : v.sum.natAbs < 2 ^ B
  fl : (S : Int) - (lrQ v S).sum ≤ v.length
  hq : ∀ p ∈ v, ((p * (S : Int)).fdiv v.sum).natAbs < 2 ^ 110
  hB : B ≤ 10 ^ 7

theorem lrQ_len {v S} : (lrQ v S).length = v.length := List.length_map _
theorem lrR_len {v S} : (lrR v S).length = v.length := List.length_map _
theorem getD_map {f : Int → Int} {l : List Int} {i : Nat} (h : i < l.length) : (l.map f).getD i 0 = f (l.getD i 0) := by
  rw [List.getD, List.getElem?_map, List.getD, List.getElem?_eq_getElem h]; rfl

def gs (c : Int) (rem : List Int) : List (List Int) := rem.map fun x => if x ≥ c then [c] else []
theorem has_gs {c : Int} {rem : List Int} {i : Nat} (h : i < rem.length) : has c ((gs c rem).getD i []) = decide (rem.getD i 0 ≥ c) := by
  unfold gs
  rw [List.getD, List.getElem?_map, List.getD, List.getElem?_eq_getElem h]
  show has c (if rem[i] ≥ c then [c] else []) = decide (rem[i] ≥ c)
  split
  · rename_i q; rw [decide_eq_true q]; simp [has]
  · rename_i q; rw [decide_eq_false q]; rfl
abbrev cge (c : Int) (l : List Int) : Nat := cntP (fun w => decide (w ≥ c)) l
theorem cge_take {c : Int} {l : List Int} {i : Nat} (h : i < l.length) : cge c (l.take (i + 1)) = cge c (l.take i) + (if l.getD i 0 ≥ c then 1 else 0) := by
  rw [List.take_succ_eq_append_getElem h, cge, cntP_append, ← getD_lt h]
  congr 1
  show cntP _ [l.getD i 0] = _
  rw [cntP_cons]
  show (if decide (l.getD i 0 ≥ c) = true then 1 else 0) + 0 = _
  simp
theorem hasTo_gs {c : Int} {rem : List Int} : ∀ {i : Nat}, i ≤ rem.length → hasTo c (gs c rem) i = cge c (rem.take i)
  | 0, _ => rfl
  | i + 1, h => by
    rw [hasTo_succ, hasTo_gs (i := i) (Nat.le_of_succ_le h), has_gs h, cge_take h]
    simp
theorem lrFold_eq {S : Nat} {rem : List Int} {c : Int} {r : List Int} : ∀ {i : Nat}, i ≤ rem.length → lrFold S rem c r i = (tieFold S (gs c rem) c r i, tieSeen S (gs c rem) c r i)
  | 0, _ => rfl
  | i + 1, h => by
    rw [lrFold_succ, lrFold_eq (i := i) (Nat.le_of_succ_le h), tieFold_succ, tieSeen_succ]
    unfold lrStep tieStep
    rw [has_gs h]
    show (if _ then _ else _) = _
    generalize tieFold S (gs c rem) c r i = s
    generalize tieSeen S (gs c rem) c r i = b
    generalize rem.getD i 0 = x
    rcases Int.lt_trichotomy s.sum (S : Int) with h1 | h1 | h1
    · have e1 : (s.sum == (S : Int)) = false := by simp; (first | lia | omega)
      have e2 : decide (s.sum < (S : Int)) = true := decide_eq_true h1
      simp only [e1, e2, Bool.false_and, Bool.true_and, Bool.or_false]
      by_cases q1 : x > c
      · simp [q1, Int.le_of_lt q1]
      · by_cases q2 : x = c
        · subst q2; simp
        · have : ¬ x ≥ c := by (first | lia | omega)
          simp [q1, q2, this]
    · have e1 : (s.sum == (S : Int)) = true := by simp [h1]
      have e2 : decide (s.sum < (S : Int)) = false := decide_eq_false (by (first | lia | omega))
      simp only [e1, e2, Bool.false_and, Bool.true_and]
      by_cases q : x ≥ c <;> simp [q]
    · have e1 : (s.sum == (S : Int)) = false := by simp; (first | lia | omega)
      have e2 : decide (s.sum < (S : Int)) = false := decide_eq_false (by (first | lia | omega))
      simp [e1, e2]
theorem tieSeen_iff {S : Nat} {ws : List (List Int)} {m : Int} {r : List Int} (hr : r.sum ≤ (S : Int)) : ∀ {n : Nat}, n ≤ r.length → (tieSeen S ws m r n = true ↔ (S : Int) < r.sum + hasTo m ws n)
  | 0, _ => by
    have : tieSeen S ws m r 0 = false := rfl
    rw [this]
    show false = true ↔ (S : Int) < r.sum + ((0 : Nat) : Int)
    constructor
    · intro h; cases h
    · intro h; (first | lia | omega)
  | n + 1, h => by
    have ih := tieSeen_iff (ws := ws) (m := m) hr (n := n) (Nat.le_of_succ_le h)
    have hs := (tieFold_spec (ws := ws) (m := m) hr (i := n) (Nat.le_of_succ_le h)).1
    rw [tieSeen_succ, hasTo_succ, Bool.or_eq_true, ih, Bool.and_eq_true, beq_iff_eq, hs]
    split
    · rename_i q; simp only [q, and_true]; (first | lia | omega)
    · rename_i q; simp only [q]; simp

structure LrOk (v : List Int) (S : Nat) (a : List Int) (tie : Bool) (k : Nat) (c : Int) : Prop where
  hk : (lrQ v S).sum + (k : Int) = (S : Int)
  kn : k < v.length
  len : a.length = v.length
  sum : a.sum = (S : Int)
  at_ : ∀ j, j < v.length → a.getD j 0 = (lrQ v S).getD j 0 + (if (lrR v S).getD j 0 ≥ c ∧ cge c ((lrR v S).take j) < k then 1 else 0)
  tied : tie = true ↔ k < cge c (lrR v S)
  cut : k ≤ cge c (lrR v S)
  nt : tie = true → cntP (fun w => decide (w > c)) (lrR v S) < k

theorem sum_lin (v : List Int) (f : Int → Int) (s t : Int) : (v.map fun p => p * s - f p * t).sum = v.sum * s - (v.map f).sum * t := by
  induction v with
  | nil => simp
  | cons p q ih =>
    rw [List.map_cons, List.sum_cons, ih, List.sum_cons, List.map_cons, List.sum_cons, Int.add_mul, Int.add_mul]; (first | lia | omega)
theorem lrR_sum (v : List Int) (S : Nat) : (lrR v S).sum = v.sum * ((S : Int) - (lrQ v S).sum) := by
  unfold lrR lrQ
  rw [sum_lin, Int.mul_sub, Int.mul_comm v.sum (List.sum _)]
theorem rem_range {a t : Int} (ht : 0 < t) : 0 ≤ a - a.fdiv t * t ∧ a - a.fdiv t * t < t := by
  have h1 := Int.fmod_nonneg_of_pos a ht
  have h2 := Int.fmod_lt_of_pos a ht
  have h3 := Int.fmod_def a t
  rw [Int.mul_comm] at h3
  (first | lia | omega)
theorem lrR_get {v : List Int} {S j : Nat} (hj : j < v.length) : (lrR v S).getD j 0 = v.getD j 0 * (S : Int) - (lrQ v S).getD j 0 * v.sum := by
  unfold lrR lrQ; rw [getD_map hj, getD_map hj]
theorem lrR_mem {v : List Int} {S : Nat} (hT : 0 < v.sum) : ∀ x ∈ lrR v S, 0 ≤ x ∧ x < v.sum := by
  intro x hx
  unfold lrR at hx
  obtain ⟨p, _, rfl⟩ := List.mem_map.mp hx
  exact rem_range hT
theorem sum_nonneg : ∀ {l : List Int}, (∀ x ∈ l, 0 ≤ x) → 0 ≤ l.sum
  | [], _ => Int.le_refl 0
  | x :: r, h => by
    rw [List.sum_cons]
    have := h x List.mem_cons_self
    have := sum_nonneg (l := r) fun y hy => h y (List.mem_cons_of_mem _ hy)
    (first | lia | omega)
theorem sum_below : ∀ {l : List Int} {t : Int}, (∀ x ∈ l, x < t) → l.sum ≤ t * (l.length : Int) - (l.length : Int)
  | [], t, _ => by simp
  | x :: r, t, h => by
    have h1 := h x List.mem_cons_self
    have h2 := sum_below (l := r) fun y hy => h y (List.mem_cons_of_mem _ hy)
    have e : ((x :: r).length : Int) = (r.length : Int) + 1 := by simp
    rw [List.sum_cons, e, Int.mul_add, Int.mul_one]
    (first | lia | omega)
theorem lr_k {v : List Int} {S : Nat} (hT : 0 < v.sum) : ∃ k : Nat, (lrQ v S).sum + (k : Int) = (S : Int) ∧ k < v.length ∧ (lrR v S).sum = v.sum * (k : Int) := by
  have h1 := lrR_sum v S
  have h2 := sum_nonneg fun x hx => (lrR_mem (S := S) hT x hx).1
  have h3 := sum_below fun x hx => (lrR_mem (S := S) hT x hx).2
  rw [lrR_len] at h3
  have hn : 0 < v.length := by
    rcases Nat.eq_zero_or_pos v.length with q | q
    · rw [List.length_eq_zero_iff.mp q] at hT; exact absurd hT (by decide)
    · exact q
  have h4 : 0 ≤ (S : Int) - (lrQ v S).sum := by
    rw [h1] at h2
    rcases Int.lt_or_le ((S : Int) - (lrQ v S).sum) 0 with q | q
    · have := Int.mul_neg_of_pos_of_neg hT q; (first | lia | omega)
    · exact q
  have h5 : (S : Int) - (lrQ v S).sum < (v.length : Int) := by
    have : v.sum * ((S : Int) - (lrQ v S).sum) < v.sum * (v.length : Int) := by (first | lia | omega)
    exact Int.lt_of_mul_lt_mul_left this (Int.le_of_lt hT)
  refine ⟨((S : Int) - (lrQ v S).sum).toNat, by (first | lia | omega), by (first | lia | omega), ?_⟩
  rw [h1]; congr 1; (first | lia | omega)
theorem cge_zero {c : Int} {l : List Int} (h : ∀ x ∈ l, x < c) : cge c l = 0 := cntP_zero fun x hx => decide_eq_false (Int.not_le.mpr (h x hx))

theorem lr_ok {v : List Int} {S : Nat} (hT : 0 < v.sum) : ∃ k c, LrOk v S (lrF v S) (lrTie v S) k c := by
  obtain ⟨k, hk, hkn, _⟩ := lr_k (S := S) hT
  rcases Nat.eq_zero_or_pos k with hz | hpos
  · subst hz
    have hlt : ¬ (lrQ v S).sum < (S : Int) := by (first | lia | omega)
    have eF : lrF v S = lrQ v S := if_neg hlt
    have eT : lrTie v S = false := if_neg hlt
    have hc : cge v.sum (lrR v S) = 0 := cge_zero fun x hx => (lrR_mem hT x hx).2
    rw [eF, eT]
    exact ⟨0, v.sum, hk, hkn, lrQ_len, by (first | lia | omega), fun j hj => by rw [if_neg (fun q => absurd q.2 (Nat.not_lt_zero _)), Int.add_zero], by rw [hc]; simp, by rw [hc]; exact Nat.le_refl 0, fun h => nomatch h⟩
  · have hlt : (lrQ v S).sum < (S : Int) := by (first | lia | omega)
    have eF : lrF v S = (lrFold S (lrR v S) (lrC v S) (lrQ v S) v.length).1 := if_pos hlt
    have eT : lrTie v S = (lrFold S (lrR v S) (lrC v S) (lrQ v S) v.length).2 := if_pos hlt
    rw [lrFold_eq (by rw [lrR_len]; exact Nat.le_refl _)] at eF eT
    have eF : lrF v S = tieFold S (gs (lrC v S) (lrR v S)) (lrC v S) (lrQ v S) v.length := eF
    have eT : lrTie v S = tieSeen S (gs (lrC v S) (lrR v S)) (lrC v S) (lrQ v S) v.length := eT
    have hsl : (sortI (lrR v S)).length = v.length := (sortI_len _).trans lrR_len
    have ec : lrC v S = (sortI (lrR v S)).getD ((sortI (lrR v S)).length - k) 0 := by
      unfold lrC idx
      rw [if_neg (by (first | lia | omega)), hsl]
      congr 1; (first | lia | omega)
    have hcut := cut_counts (sortI_sorted (lrR v S)) (T := k) hpos (by (first | lia | omega))
    rw [← ec, cntP_perm (sortI_perm _), cntP_perm (sortI_perm _)] at hcut
    have hr : (lrQ v S).sum ≤ (S : Int) := Int.le_of_lt hlt
    have hlen : v.length ≤ (lrQ v S).length := by rw [lrQ_len]; exact Nat.le_refl _
    obtain ⟨f1, f2⟩ := tieFold_spec (ws := gs (lrC v S) (lrR v S)) (m := lrC v S) hr (i := v.length) hlen
    have hto : ∀ {j}, j ≤ v.length → hasTo (lrC v S) (gs (lrC v S) (lrR v S)) j = cge (lrC v S) ((lrR v S).take j) := fun {j} hj => hasTo_gs (by rw [lrR_len]; exact hj)
    have htn := hto (Nat.le_refl v.length)
    rw [List.take_of_length_le (by rw [lrR_len]; exact Nat.le_refl _)] at htn
    have hti := tieSeen_iff (ws := gs (lrC v S) (lrR v S)) (m := lrC v S) hr (n := v.length) hlen
    rw [htn] at hti f1
    rw [← eF] at f1 f2
    refine ⟨k, lrC v S, hk, hkn, by rw [eF]; show (tieFold _ _ _ _ _).length = _; rw [tieFold_len, lrQ_len], by rw [f1]; have := hcut.2; show min (S : Int) ((lrQ v S).sum + (cge (lrC v S) (lrR v S) : Nat)) = _; have : k ≤ cge (lrC v S) (lrR v S) := hcut.2; (first | lia | omega), fun j hj => ?_, by rw [eT, hti]; (first | lia | omega), hcut.2, fun _ => hcut.1⟩
    rw [f2 j, hto (Nat.le_of_lt hj), has_gs (by rw [lrR_len]; exact hj)]
    congr 1
    by_cases q : (lrR v S).getD j 0 ≥ lrC v S ∧ cge (lrC v S) ((lrR v S).take j) < k
    · rw [if_pos q, if_pos ⟨hj, decide_eq_true q.1, by have := q.2; (first | lia | omega)⟩]
    · rw [if_neg q, if_neg]
      rintro ⟨_, z1, z2⟩
      exact q ⟨of_decide_eq_true z1, by (first | lia | omega)⟩
end Mine
end

section
set_option linter.unusedVariables false
namespace Mine

theorem cntP_map {f : Int → Int} {p : Int → Bool} : ∀ (l : List Int), cntP p (l.map f) = cntP (fun x => p (f x)) l
  | [] => rfl
  | x :: r => by rw [List.map_cons, cntP_cons, cntP_cons, cntP_map r]
theorem cntP_congr {p q : Int → Bool} : ∀ {l : List Int}, (∀ x ∈ l, p x = q x) → cntP p l = cntP q l
  | [], _ => rfl
  | x :: r, h => by rw [cntP_cons, cntP_cons, h x List.mem_cons_self, cntP_congr (l := r) fun y hy => h y (List.mem_cons_of_mem _ hy)]
theorem cntP_split (p q : Int → Bool) : ∀ (l : List Int), cntP p l = cntP (fun x => p x && q x) l + cntP (fun x => p x && !q x) l
  | [] => rfl
  | x :: r => by
    rw [cntP_cons, cntP_cons, cntP_cons, cntP_split p q r]
    cases p x <;> cases q x <;> simp <;> (first | lia | omega)
theorem cntP_mono {p q : Int → Bool} : ∀ {l : List Int}, (∀ x ∈ l, p x = true → q x = true) → cntP p l ≤ cntP q l
  | [], _ => Nat.le_refl _
  | x :: r, h => by
    rw [cntP_cons, cntP_cons]
    have h1 := h x List.mem_cons_self
    have h2 := cntP_mono (l := r) fun y hy => h y (List.mem_cons_of_mem _ hy)
    cases e : p x
    · simp; (first | lia | omega)
    · rw [h1 e]; simp; (first | lia | omega)
theorem cntP_same {p q : Int → Bool} : ∀ {l : List Int}, (∀ x ∈ l, p x = true → q x = true) → cntP p l = cntP q l → ∀ x ∈ l, p x = q x
  | [], _, _ => fun x hx => nomatch hx
  | x :: r, h, e => by
    have h2 : ∀ y ∈ r, p y = true → q y = true := fun y hy => h y (List.mem_cons_of_mem _ hy)
    have h3 := cntP_mono h2
    have h1 := h x List.mem_cons_self
    rw [cntP_cons, cntP_cons] at e
    have hx : p x = q x := by
      cases e1 : p x
      · cases e2 : q x
        · rfl
        · rw [e1, e2] at e; simp at e; (first | lia | omega)
      · exact (h1 e1).symm
    intro y hy
    rcases List.mem_cons.mp hy with rfl | hy
    · exact hx
    · rw [hx] at e
      exact cntP_same h2 (by (first | lia | omega)) y hy
theorem cge_take_le {c : Int} {l : List Int} {j : Nat} : cge c (l.take j) ≤ cge c l := by
  have : cge c l = cge c (l.take j) + cge c (l.drop j) := by
    have := cntP_append (fun w => decide (w ≥ c)) (l.take j) (l.drop j)
    rw [List.take_append_drop] at this; exact this
  (first | lia | omega)

theorem lr_nt {v a : List Int} {S k : Nat} {tie : Bool} {c : Int} (H : LrOk v S a tie k c) : tie = false ↔ ∃ θ, cge θ (lrR v S) = k := by
  constructor
  · intro h
    have : ¬ k < cge c (lrR v S) := fun q => by have := H.tied.mpr q; rw [h] at this; cases this
    exact ⟨c, by have := H.cut; (first | lia | omega)⟩
  · rintro ⟨θ, h⟩
    cases e : tie
    · rfl
    · have h1 := H.nt e
      have h2 := H.tied.mp e
      rcases Int.lt_or_le c θ with q | q
      · have : cge θ (lrR v S) ≤ cntP (fun w => decide (w > c)) (lrR v S) := cntP_mono fun x _ hx => decide_eq_true (Int.lt_of_lt_of_le q (of_decide_eq_true hx))
        (first | lia | omega)
      · have : cge c (lrR v S) ≤ cge θ (lrR v S) := cntP_mono fun x _ hx => decide_eq_true (Int.le_trans q (of_decide_eq_true hx))
        (first | lia | omega)
theorem lr_at_nt {v a : List Int} {S k : Nat} {tie : Bool} {c θ : Int} (H : LrOk v S a tie k c) (h : cge θ (lrR v S) = k) : ∀ j, j < v.length → a.getD j 0 = (lrQ v S).getD j 0 + (if (lrR v S).getD j 0 ≥ θ then 1 else 0) := by
  have ht := (lr_nt H).mpr ⟨θ, h⟩
  have hc : cge c (lrR v S) = k := by
    have : ¬ k < cge c (lrR v S) := fun q => by have := H.tied.mpr q; rw [ht] at this; cases this
    have := H.cut; (first | lia | omega)
  have same : ∀ x ∈ lrR v S, decide (x ≥ θ) = decide (x ≥ c) := by
    rcases Int.le_total θ c with q | q
    · intro x hx
      exact (cntP_same (p := fun w => decide (w ≥ c)) (q := fun w => decide (w ≥ θ)) (fun x _ hx => decide_eq_true (Int.le_trans q (of_decide_eq_true hx))) (hc.trans h.symm) x hx).symm
    · exact cntP_same (p := fun w => decide (w ≥ θ)) (q := fun w => decide (w ≥ c)) (fun x _ hx => decide_eq_true (Int.le_trans q (of_decide_eq_true hx))) (h.trans hc.symm)
  intro j hj
  have hjr : j < (lrR v S).length := by rw [lrR_len]; exact hj
  rw [H.at_ j hj]
  congr 1
  have hs := same ((lrR v S).getD j 0) (by rw [getD_lt hjr]; exact List.getElem_mem _)
  rw [decide_eq_decide] at hs
  by_cases q : (lrR v S).getD j 0 ≥ c
  · have ht := cge_take (c := c) hjr
    rw [if_pos q] at ht
    have := cge_take_le (c := c) (l := lrR v S) (j := j + 1)
    rw [if_pos ⟨q, by (first | lia | omega)⟩, if_pos (hs.mpr q)]
  · rw [if_neg (fun z => q z.1), if_neg (fun z => q (hs.mp z))]

theorem lr_rng {v : List Int} {S j : Nat} (hT : 0 < v.sum) (hj : j < v.length) : 0 ≤ (lrR v S).getD j 0 ∧ (lrR v S).getD j 0 < v.sum := by
  have h : j < (lrR v S).length := by rw [lrR_len]; exact hj
  rw [getD_lt h]; exact lrR_mem hT _ (List.getElem_mem h)
theorem quot_mono {x y T q r p s : Int} (h : y ≤ x) (hx : x = q * T + r) (hy : y = p * T + s) (hT : 0 < T) (h1 : r < T) (h2 : 0 ≤ s) : p ≤ q ∧ (p = q → s ≤ r) := by
  constructor
  · refine Int.not_lt.mp fun k => ?_
    have := Int.mul_le_mul_of_nonneg_right (show q + 1 ≤ p by (first | lia | omega)) (Int.le_of_lt hT)
    rw [Int.add_mul, Int.one_mul] at this
    (first | lia | omega)
  · intro e; subst e; (first | lia | omega)
theorem lr_mono {v a : List Int} {S k : Nat} {c : Int} (hT : 0 < v.sum) (H : LrOk v S a false k c) {i j : Nat} (hi : i < v.length) (hj : j < v.length) (h : v.getD i 0 > v.getD j 0) : a.getD j 0 ≤ a.getD i 0 := by
  obtain ⟨θ, hθ⟩ := (lr_nt H).mp rfl
  rw [lr_at_nt H hθ i hi, lr_at_nt H hθ j hj]
  have ri := lrR_get (S := S) hi
  have rj := lrR_get (S := S) hj
  have bi := lr_rng (S := S) hT hi
  have bj := lr_rng (S := S) hT hj
  have hS : v.getD j 0 * (S : Int) ≤ v.getD i 0 * (S : Int) := Int.mul_le_mul_of_nonneg_right (Int.le_of_lt h) (Int.natCast_nonneg S)
  obtain ⟨h1, h2⟩ := quot_mono hS (show v.getD i 0 * (S : Int) = (lrQ v S).getD i 0 * v.sum + (lrR v S).getD i 0 by (first | lia | omega)) (show v.getD j 0 * (S : Int) = (lrQ v S).getD j 0 * v.sum + (lrR v S).getD j 0 by (first | lia | omega)) hT bi.2 bj.1
  clear ri rj hS bi bj
  generalize (lrQ v S).getD i 0 = q at *
  generalize (lrQ v S).getD j 0 = p at *
  split <;> split <;> (first | lia | omega)

theorem fdiv_of {x q t r : Int} (h : x = q * t + r) (h0 : 0 ≤ r) (h1 : r < t) : x.fdiv t = q := by
  have h2 := rem_range (a := x) (t := t) (by (first | lia | omega))
  have k1 := quot_mono (Int.le_refl x) h (show x = x.fdiv t * t + (x - x.fdiv t * t) by (first | lia | omega)) (by (first | lia | omega)) h1 h2.1
  have k2 := quot_mono (Int.le_refl x) (show x = x.fdiv t * t + (x - x.fdiv t * t) by (first | lia | omega)) h (by (first | lia | omega)) h2.2 h0
  (first | lia | omega)

structure LrLike (v : List Int) (S : Nat) (w : List Int) (S' : Nat) (q r : List Int) : Prop where
  len : w.length = v.length
  qlen : q.length = v.length
  rlen : r.length = v.length
  T : 0 < w.sum
  eq : ∀ j, j < v.length → w.getD j 0 * (S' : Int) = q.getD j 0 * w.sum + r.getD j 0 ∧ 0 ≤ r.getD j 0 ∧ r.getD j 0 < w.sum
theorem list_ext {a b : List Int} (h : a.length = b.length) (k : ∀ j, j < a.length → a.getD j 0 = b.getD j 0) : a = b :=
  List.ext_getElem h fun i h1 h2 => by have := k i h1; rw [getD_lt h1, getD_lt h2] at this; exact this
theorem LrLike.quots {v w q r : List Int} {S S' : Nat} (L : LrLike v S w S' q r) : lrQ w S' = q ∧ lrR w S' = r := by
  have hq : lrQ w S' = q := list_ext (by rw [lrQ_len, L.len, L.qlen]) fun j hj => by
    rw [lrQ_len] at hj
    obtain ⟨e, h0, h1⟩ := L.eq j (L.len ▸ hj)
    unfold lrQ
    rw [getD_map hj]
    exact fdiv_of e h0 h1
  refine ⟨hq, list_ext (by rw [lrR_len, L.len, L.rlen]) fun j hj => ?_⟩
  rw [lrR_len] at hj
  obtain ⟨e, h0, h1⟩ := L.eq j (L.len ▸ hj)
  rw [lrR_get hj, hq, e]; (first | lia | omega)

theorem sortI_scale {l : List Int} {h : Int} (hp : 0 < h) : sortI (l.map (h * ·)) = (sortI l).map (h * ·) := by
  refine (eq_sortI ((sortI_perm l).map _) ?_).symm
  exact List.Pairwise.map _ (fun a b hab => Int.mul_le_mul_of_nonneg_left hab (Int.le_of_lt hp)) (sortI_sorted l)
theorem lr_shift {v w q c : List Int} {S S' : Nat} {h : Int} (hT : 0 < v.sum) (hh : 0 < h) (hc : c.length = v.length) (hsum : (S' : Int) = S + c.sum)
    (L : LrLike v S w S' ((List.range v.length).map fun j => (lrQ v S).getD j 0 + c.getD j 0) ((lrR v S).map (h * ·))) (hqs : ((List.range v.length).map fun j => (lrQ v S).getD j 0 + c.getD j 0).sum = (lrQ v S).sum + c.sum) :
    lrTie w S' = lrTie v S ∧ lrF w S' = (List.range v.length).map fun j => (lrF v S).getD j 0 + c.getD j 0 := by
  obtain ⟨eq, er⟩ := L.quots
  have hget : ∀ {f : Nat → Int} {j : Nat}, j < v.length → ((List.range v.length).map f).getD j 0 = f j := fun {f j} hj => by
    rw [List.getD, List.getElem?_map, List.getElem?_range hj]; rfl
  have hlt : (lrQ w S').sum < (S' : Int) ↔ (lrQ v S).sum < (S : Int) := by rw [eq, hqs, hsum]; (first | lia | omega)
  by_cases q : (lrQ v S).sum < (S : Int)
  · have ec : lrC w S' = h * lrC v S := by
      unfold lrC
      have hi : idx ((lrQ w S').sum - (S' : Int)) w.length = idx ((lrQ v S).sum - (S : Int)) v.length := by rw [eq, hqs, hsum, L.len]; congr 1; (first | lia | omega)
      rw [hi, er, sortI_scale hh]
      generalize idx ((lrQ v S).sum - (S : Int)) v.length = i
      rw [List.getD, List.getElem?_map, List.getD]
      cases (sortI (lrR v S))[i]? with
      | none => simp
      | some x => rfl
    have key : ∀ n, n ≤ v.length → (lrFold S' (lrR w S') (lrC w S') (lrQ w S') n).2 = (lrFold S (lrR v S) (lrC v S) (lrQ v S) n).2 ∧ (lrFold S' (lrR w S') (lrC w S') (lrQ w S') n).1 = (List.range v.length).map (fun j => (lrFold S (lrR v S) (lrC v S) (lrQ v S) n).1.getD j 0 + c.getD j 0) := by
      have hr : ∀ j, j < v.length → (lrR w S').getD j 0 = h * (lrR v S).getD j 0 := fun j hj => by rw [er, getD_map (by rw [lrR_len]; exact hj)]
      have hge : ∀ {x y : Int}, h * x ≥ h * y ↔ x ≥ y := fun {x y} => ⟨fun z => Int.le_of_mul_le_mul_left z hh, fun z => Int.mul_le_mul_of_nonneg_left z (Int.le_of_lt hh)⟩
      intro n
      induction n with
      | zero => intro _; exact ⟨rfl, by show lrQ w S' = _; rw [eq]; rfl⟩
      | succ n ih =>
        intro hn
        obtain ⟨h1, h2⟩ := ih (Nat.le_of_succ_le hn)
        rw [lrFold_succ, lrFold_succ]
        have hsl : (lrFold S (lrR v S) (lrC v S) (lrQ v S) n).1.length = v.length := lrFold_len.trans lrQ_len
        have hss : (lrFold S' (lrR w S') (lrC w S') (lrQ w S') n).1.sum = (lrFold S (lrR v S) (lrC v S) (lrQ v S) n).1.sum + c.sum := by
          rw [h2]
          have : ∀ (a b : List Int), a.length = b.length → ((List.range a.length).map fun j => a.getD j 0 + b.getD j 0).sum = a.sum + b.sum := by
            intro a
            induction a with
            | nil => intro b hb; cases b <;> first | rfl | cases hb
            | cons x r ih =>
              intro b hb
              cases b with
              | nil => cases hb
              | cons y s =>
                have := ih s (by simpa using hb)
                rw [List.length_cons, List.range_succ_eq_map, List.map_cons, List.sum_cons, List.map_map, List.sum_cons, List.sum_cons]
                have e : ((fun j => (x :: r).getD j 0 + (y :: s).getD j 0) ∘ Nat.succ) = fun j => r.getD j 0 + s.getD j 0 := by funext j; simp [List.getD]
                rw [e, this]; simp [List.getD]; (first | lia | omega)
          rw [← hsl]; exact this _ _ (by rw [hsl, hc])
        generalize lrFold S (lrR v S) (lrC v S) (lrQ v S) n = s at *
        generalize lrFold S' (lrR w S') (lrC w S') (lrQ w S') n = s' at *
        have b1 : (s'.1.sum == (S' : Int)) = (s.1.sum == (S : Int)) := by rw [hss, hsum, Bool.eq_iff_iff, beq_iff_eq, beq_iff_eq]; (first | lia | omega)
        have b2 : decide (s'.1.sum < (S' : Int)) = decide (s.1.sum < (S : Int)) := by rw [hss, hsum, decide_eq_decide]; (first | lia | omega)
        have b3 : decide ((lrR w S').getD n 0 ≥ lrC w S') = decide ((lrR v S).getD n 0 ≥ lrC v S) := by rw [hr n hn, ec, decide_eq_decide]; exact hge
        have b4 : decide ((lrR w S').getD n 0 > lrC w S') = decide ((lrR v S).getD n 0 > lrC v S) := by
          rw [hr n hn, ec, decide_eq_decide]
          have := hge (x := lrC v S) (y := (lrR v S).getD n 0)
          (first | lia | omega)
        have b5 : ((lrR w S').getD n 0 == lrC w S') = ((lrR v S).getD n 0 == lrC v S) := by
          rw [hr n hn, ec, Bool.eq_iff_iff, beq_iff_eq, beq_iff_eq]
          exact ⟨fun z => Int.eq_of_mul_eq_mul_left (Int.ne_of_gt hh) z, fun z => by rw [z]⟩
        have hset : s'.1.set n (s'.1.getD n 0 + 1) = (List.range v.length).map (fun j => (s.1.set n (s.1.getD n 0 + 1)).getD j 0 + c.getD j 0) := by
          refine list_ext (by rw [List.length_set, h2]; simp) fun j hj => ?_
          rw [List.length_set, h2] at hj
          have hj : j < v.length := by simpa using hj
          rw [getD_set (by rw [h2, List.length_map, List.length_range]; exact hn), hget hj, getD_set (by rw [hsl]; exact hn), h2, hget hj, hget hn]
          split
          · rename_i e; subst e; (first | lia | omega)
          · rfl
        unfold lrStep
        rw [b1, b2, b3, b4, b5]
        split
        · exact ⟨rfl, h2⟩
        · split
          · exact ⟨h1, hset⟩
          · split
            · exact ⟨h1, hset⟩
            · exact ⟨h1, h2⟩
    obtain ⟨k1, k2⟩ := key v.length (Nat.le_refl _)
    unfold lrTie lrF
    rw [if_pos (hlt.mpr q), if_pos q, if_pos (hlt.mpr q), if_pos q, L.len]
    exact ⟨k1, k2⟩
  · unfold lrTie lrF
    rw [if_neg (fun z => q (hlt.mp z)), if_neg q, if_neg (fun z => q (hlt.mp z)), if_neg q]
    exact ⟨rfl, eq⟩
end Mine
end

section
set_option linter.unusedVariables false
namespace Mine

theorem getD_rev {l : List Int} {j : Nat} (h : j < l.length) : l.reverse.getD j 0 = l.getD (l.length - 1 - j) 0 := by
  rw [List.getD, List.getElem?_reverse h]; rfl
theorem cge_perm {c : Int} {a b : List Int} (h : a.Perm b) : cge c a = cge c b := cntP_perm h
theorem cge_cons {c x : Int} {l : List Int} : cge c (x :: l) = (if x ≥ c then 1 else 0) + cge c l := by
  show cntP _ _ = _
  rw [cntP_cons]; simp
theorem first_ge {c : Int} : ∀ {l : List Int}, 0 < cge c l → ∃ j, j < l.length ∧ l.getD j 0 ≥ c ∧ cge c (l.take j) = 0
  | [], h => absurd h (Nat.lt_irrefl 0)
  | x :: r, h => by
    by_cases q : x ≥ c
    · exact ⟨0, by simp, by simpa [List.getD] using q, rfl⟩
    · rw [cge_cons, if_neg q, Nat.zero_add] at h
      obtain ⟨j, h1, h2, h3⟩ := first_ge h
      refine ⟨j + 1, by simpa using h1, by simpa [List.getD] using h2, ?_⟩
      rw [List.take_succ_cons, cge_cons, if_neg q, h3]
theorem lr_c_uniq {l : List Int} {k : Nat} {c d : Int} (h1 : cntP (fun w => decide (w > c)) l < k) (h2 : k < cge c l) (h3 : cntP (fun w => decide (w > d)) l < k) (h4 : k < cge d l) : c = d := by
  rcases Int.lt_trichotomy c d with q | q | q
  · have : cge d l ≤ cntP (fun w => decide (w > c)) l := cntP_mono fun x _ hx => decide_eq_true (Int.lt_of_lt_of_le q (of_decide_eq_true hx))
    (first | lia | omega)
  · exact q
  · have : cge c l ≤ cntP (fun w => decide (w > d)) l := cntP_mono fun x _ hx => decide_eq_true (Int.lt_of_lt_of_le q (of_decide_eq_true hx))
    (first | lia | omega)
theorem sum_rev (l : List Int) : l.reverse.sum = l.sum := by
  induction l with
  | nil => rfl
  | cons x r ih => rw [List.reverse_cons, List.sum_append, ih, List.sum_cons]; simp; (first | lia | omega)
theorem lrQ_rev {v : List Int} {S : Nat} : lrQ v.reverse S = (lrQ v S).reverse := by unfold lrQ; rw [sum_rev, List.map_reverse]
theorem lrR_rev {v : List Int} {S : Nat} : lrR v.reverse S = (lrR v S).reverse := by unfold lrR; rw [sum_rev, List.map_reverse]

theorem lr_rev {v : List Int} {S : Nat} (hT : 0 < v.sum) : (lrF v.reverse S = (lrF v S).reverse) ↔ lrTie v S = false := by
  obtain ⟨k, c, H⟩ := lr_ok (S := S) hT
  obtain ⟨k', c', H'⟩ := lr_ok (v := v.reverse) (S := S) (by rw [sum_rev]; exact hT)
  have hk : k' = k := by
    have h1 := H.hk
    have h2 := H'.hk
    rw [lrQ_rev, sum_rev] at h2
    (first | lia | omega)
  subst hk
  have hlr : (lrR v S).length = v.length := lrR_len
  have hlq : (lrQ v S).length = v.length := lrQ_len
  have hla := H.len
  have hp : (lrR v.reverse S).Perm (lrR v S) := by rw [lrR_rev]; exact List.reverse_perm _
  cases e : lrTie v S
  · refine ⟨fun _ => rfl, fun _ => ?_⟩
    rw [e] at H
    obtain ⟨θ, hθ⟩ := (lr_nt H).mp rfl
    have hθ' : cge θ (lrR v.reverse S) = k' := (cge_perm hp).trans hθ
    refine list_ext (by rw [H'.len, List.length_reverse, List.length_reverse, hla]) fun j hj => ?_
    rw [H'.len, List.length_reverse] at hj
    rw [lr_at_nt H' hθ' j (by rw [List.length_reverse]; exact hj), getD_rev (by rw [hla]; exact hj), hla, lrQ_rev, lrR_rev, getD_rev (by rw [hlq]; exact hj), getD_rev (by rw [hlr]; exact hj), hlq, hlr]
    exact (lr_at_nt H hθ _ (by (first | lia | omega))).symm
  · refine ⟨fun h => ?_, fun h => nomatch h⟩
    rw [e] at H
    have t1 := H.tied.mp rfl
    have n1 := H.nt rfl
    have e' : lrTie v.reverse S = true := by
      cases q : lrTie v.reverse S
      · rw [q] at H'
        obtain ⟨θ, hθ⟩ := (lr_nt H').mp rfl
        have := (lr_nt H).mpr ⟨θ, (cge_perm hp).symm.trans hθ⟩
        cases this
      · rfl
    have t2 := H'.tied.mp e'
    have n2 := H'.nt e'
    rw [cntP_perm hp] at n2
    rw [cge_perm hp] at t2
    have hc := lr_c_uniq n1 t1 n2 t2
    subst hc
    obtain ⟨j, hj, h1, h2⟩ := first_ge (c := c) (l := lrR v S) (by (first | lia | omega))
    have hjv : j < v.length := by rw [← hlr]; exact hj
    have a1 := H.at_ j hjv
    rw [if_pos ⟨h1, by (first | lia | omega)⟩] at a1
    have hj1 : v.length - 1 - j < v.reverse.length := by rw [List.length_reverse]; (first | lia | omega)
    have hj2 : v.length - 1 - (v.length - 1 - j) = j := by (first | lia | omega)
    have a2 := H'.at_ (v.length - 1 - j) hj1
    rw [h, getD_rev (by rw [hla]; (first | lia | omega)), hla, hj2, lrQ_rev, lrR_rev, getD_rev (by rw [hlq]; (first | lia | omega)), hlq, hj2, getD_rev (by rw [hlr]; (first | lia | omega)), hlr, hj2] at a2
    have hrank : cge c ((lrR v S).reverse.take (v.length - 1 - j)) = cge c (lrR v S) - 1 := by
      have e1 : cge c ((lrR v S).reverse.take (v.length - 1 - j)) = cge c ((lrR v S).drop (j + 1)) := by
        rw [List.take_reverse, cge_perm (List.reverse_perm _), hlr]
        congr 2; (first | lia | omega)
      have e2 : cge c (lrR v S) = cge c ((lrR v S).take (j + 1)) + cge c ((lrR v S).drop (j + 1)) := by
        have := cntP_append (fun w => decide (w ≥ c)) ((lrR v S).take (j + 1)) ((lrR v S).drop (j + 1))
        rw [List.take_append_drop] at this; exact this
      have e3 := cge_take (c := c) hj
      rw [h2, if_pos h1] at e3
      (first | lia | omega)
    rw [if_neg (fun q => by have := q.2; (first | lia | omega))] at a2
    (first | lia | omega)

theorem sum_gap2 (M : Int) : ∀ (a b : List Int), a.length = b.length → ((List.range a.length).map fun j => M - a.getD j 0 - (if b.getD j 0 > 0 then 1 else 0)).sum = M * (a.length : Int) - a.sum - (cge 1 b : Nat)
  | [], [], _ => by simp [cge, cntP]
  | [], _ :: _, h => by cases h
  | _ :: _, [], h => by cases h
  | x :: r, y :: s, h => by
    have ih := sum_gap2 M r s (by simpa using h)
    rw [List.length_cons, List.range_succ_eq_map, List.map_cons, List.sum_cons, List.map_map, List.sum_cons, cge_cons]
    have e : ((fun j => M - (x :: r).getD j 0 - (if (y :: s).getD j 0 > 0 then 1 else 0)) ∘ Nat.succ) = fun j => M - r.getD j 0 - (if s.getD j 0 > 0 then 1 else 0) := by funext j; simp [List.getD]
    rw [e, ih]
    have e2 : M * ((r.length + 1 : Nat) : Int) = M * (r.length : Int) + M := by rw [Int.natCast_add, Int.mul_add]; simp
    rw [e2]
    have e3 : (y ≥ 1) ↔ (y > 0) := by (first | lia | omega)
    simp only [List.getD, List.getElem?_cons_zero, Option.getD_some, e3]
    split <;> (first | lia | omega)
theorem sum_mirror (v : List Int) (c s : Int) : (v.map fun p => c - s * p).sum = c * (v.length : Int) - s * v.sum := by
  induction v with
  | nil => simp
  | cons p r ih =>
    rw [List.map_cons, List.sum_cons, ih, List.sum_cons, List.length_cons, Int.natCast_add, Int.mul_add, Int.mul_add]; simp; (first | lia | omega)

theorem lr_mirror {v : List Int} {S H : Nat} {M : Int} (hT : 0 < v.sum) (hH : 1 ≤ H) (eH : (H : Int) = M * (v.length : Int) - S) :
    (v.map fun p => M * v.sum - (S : Int) * p).sum = v.sum * (H : Int) ∧ lrTie (v.map fun p => M * v.sum - (S : Int) * p) H = lrTie v S ∧ (lrTie v S = false → lrF (v.map fun p => M * v.sum - (S : Int) * p) H = (lrF v S).map fun x => M - x) := by
  have hH0 : (0 : Int) < H := by (first | lia | omega)
  have esum : (v.map fun p => M * v.sum - (S : Int) * p).sum = v.sum * (H : Int) := by
    rw [sum_mirror, eH, Int.mul_sub, Int.mul_comm v.sum (S : Int), Int.mul_comm M v.sum, Int.mul_assoc]
  refine ⟨esum, ?_⟩
  generalize hw : (v.map fun p => M * v.sum - (S : Int) * p) = w at *
  have hwl : w.length = v.length := by rw [← hw, List.length_map]
  have hTw : 0 < w.sum := by rw [esum]; exact Int.mul_pos hT hH0
  have hlr : (lrR v S).length = v.length := lrR_len
  have hlq : (lrQ v S).length = v.length := lrQ_len
  have hget : ∀ {f : Nat → Int} {j : Nat}, j < v.length → ((List.range v.length).map f).getD j 0 = f j := fun {f j} hj => by
    rw [List.getD, List.getElem?_map, List.getElem?_range hj]; rfl
  have L : LrLike v S w H ((List.range v.length).map fun j => M - (lrQ v S).getD j 0 - (if (lrR v S).getD j 0 > 0 then 1 else 0)) ((lrR v S).map fun x => (H : Int) * (if x > 0 then v.sum - x else 0)) := by
    refine ⟨hwl, by rw [List.length_map, List.length_range], by rw [List.length_map, hlr], hTw, fun j hj => ?_⟩
    rw [hget hj, getD_map (by rw [hlr]; exact hj), esum, ← hw, getD_map hj]
    have hr := lrR_get (S := S) hj
    have hb := lr_rng (S := S) hT hj
    generalize (lrR v S).getD j 0 = r at *
    generalize (lrQ v S).getD j 0 = q at *
    generalize v.getD j 0 = p at *
    generalize v.sum = T at *
    generalize (H : Int) = h at *
    have hp : (S : Int) * p = q * T + r := by rw [Int.mul_comm]; (first | lia | omega)
    by_cases q0 : r > 0
    · rw [if_pos q0, if_pos q0, hp]
      refine ⟨by grind, Int.mul_nonneg (Int.le_of_lt hH0) (by (first | lia | omega)), ?_⟩
      rw [Int.mul_comm T h]
      exact Int.mul_lt_mul_of_pos_left (by (first | lia | omega)) hH0
    · rw [if_neg q0, if_neg q0, hp]
      have : r = 0 := by (first | lia | omega)
      subst this
      refine ⟨by grind, by rw [Int.mul_zero]; exact Int.le_refl 0, ?_⟩
      rw [Int.mul_zero]; exact Int.mul_pos hT hH0
  obtain ⟨eq, er⟩ := L.quots
  obtain ⟨k, c, K⟩ := lr_ok (S := S) hT
  obtain ⟨k', c', K'⟩ := lr_ok (S := H) hTw
  have hkk : (k' : Int) = (cge 1 (lrR v S) : Nat) - (k : Int) := by
    have h1 := K'.hk
    have h2 := K.hk
    rw [eq, ← hlq, sum_gap2 M _ _ (by rw [hlq, hlr]), hlq] at h1
    (first | lia | omega)
  have hcount : ∀ {p : Int → Bool}, cntP p (lrR w H) = cntP (fun x => p ((H : Int) * (if x > 0 then v.sum - x else 0))) (lrR v S) := fun {p} => by rw [er, cntP_map]
  have hmem : ∀ x ∈ lrR v S, 0 ≤ x ∧ x < v.sum := lrR_mem hT
  have hscale : ∀ {a b : Int}, (H : Int) * a ≤ (H : Int) * b ↔ a ≤ b := fun {a b} => ⟨fun z => Int.le_of_mul_le_mul_left z hH0, fun z => Int.mul_le_mul_of_nonneg_left z (Int.le_of_lt hH0)⟩
  -- from a threshold of the one to one of the other
  have fwd : ∀ {θ : Int}, cge θ (lrR v S) = k → ∃ θ', cge θ' (lrR w H) = k' ∧ ∀ x ∈ lrR v S, ((H : Int) * (if x > 0 then v.sum - x else 0) ≥ θ' ↔ x > 0 ∧ ¬ x ≥ θ) := fun {θ} hθ => by
    rcases Nat.eq_zero_or_pos k with hz | hpos
    · -- all shares are whole
      have hsum := lrR_sum v S
      have h0 : (lrR v S).sum = 0 := by
        have := K.hk
        rw [hsum, show (S : Int) - (lrQ v S).sum = 0 by (first | lia | omega), Int.mul_zero]
      have hall : ∀ x ∈ lrR v S, x = 0 := by
        have : ∀ (l : List Int), (∀ x ∈ l, 0 ≤ x) → l.sum = 0 → ∀ x ∈ l, x = 0 := by
          intro l
          induction l with
          | nil => intro _ _ x hx; cases hx
          | cons y r ih =>
            intro h1 h2 x hx
            have h3 := sum_nonneg fun z hz => h1 z (List.mem_cons_of_mem _ hz)
            have h4 := h1 y List.mem_cons_self
            rw [List.sum_cons] at h2
            rcases List.mem_cons.mp hx with rfl | hx
            · (first | lia | omega)
            · exact ih (fun z hz => h1 z (List.mem_cons_of_mem _ hz)) (by (first | lia | omega)) x hx
        exact this _ (fun x hx => (hmem x hx).1) h0
      have hP : cge 1 (lrR v S) = 0 := cge_zero fun x hx => by rw [hall x hx]; decide
      refine ⟨1, ?_, fun x hx => ?_⟩
      · show cntP _ _ = _
        rw [hcount, cntP_zero fun x hx => by rw [hall x hx]; simp]
        (first | lia | omega)
      · rw [hall x hx]; simp
    · have hP : k ≤ cge 1 (lrR v S) := by (first | lia | omega)
      have hθ0 : θ > 0 := by
        refine Int.not_le.mp fun q => ?_
        have : cge θ (lrR v S) = (lrR v S).length := cntP_all fun x hx => decide_eq_true (Int.le_trans q (hmem x hx).1)
        have := K.kn
        (first | lia | omega)
      have key : ∀ x ∈ lrR v S, ((H : Int) * (if x > 0 then v.sum - x else 0) ≥ (H : Int) * (v.sum - θ) + 1 ↔ x > 0 ∧ ¬ x ≥ θ) := fun x hx => by
        by_cases q : x > 0
        · rw [if_pos q]
          have h1 := hscale (a := v.sum - x) (b := v.sum - θ)
          constructor
          · intro h; exact ⟨q, fun z => by have := h1.mpr (by (first | lia | omega)); (first | lia | omega)⟩
          · rintro ⟨_, h⟩
            refine Int.not_lt.mp fun z => h ?_
            have := h1.mp (by (first | lia | omega))
            (first | lia | omega)
        · rw [if_neg q, Int.mul_zero]
          refine ⟨fun h => ?_, fun h => absurd h.1 q⟩
          by_cases hT' : θ ≤ v.sum
          · have := hscale (a := 0) (b := v.sum - θ)
            have := this.mpr (by (first | lia | omega))
            (first | lia | omega)
          · have : cge θ (lrR v S) = 0 := cge_zero fun y hy => by have := (hmem y hy).2; (first | lia | omega)
            (first | lia | omega)
      refine ⟨(H : Int) * (v.sum - θ) + 1, ?_, key⟩
      show cntP _ _ = _
      rw [hcount, cntP_congr (q := fun x => decide (x ≥ 1) && !decide (x ≥ θ)) (fun x hx => by
        rw [Bool.eq_iff_iff]
        simp only [Bool.and_eq_true, Bool.not_eq_true', decide_eq_true_eq, decide_eq_false_iff_not]
        rw [key x hx]
        (first | lia | omega))]
      have hsplit := cntP_split (fun x => decide (x ≥ 1)) (fun x => decide (x ≥ θ)) (lrR v S)
      have e1 : cntP (fun x => decide (x ≥ 1) && decide (x ≥ θ)) (lrR v S) = k := by
        rw [← hθ]
        exact cntP_congr fun x _ => by
          rw [Bool.eq_iff_iff]; simp only [Bool.and_eq_true, decide_eq_true_eq]; (first | lia | omega)
      have : cge 1 (lrR v S) = cntP (fun x => decide (x ≥ 1)) (lrR v S) := rfl
      (first | lia | omega)
  have bwd : (∃ θ', cge θ' (lrR w H) = k') → ∃ θ, cge θ (lrR v S) = k := by
    rintro ⟨θ', h⟩
    rcases Nat.eq_zero_or_pos k with hz | hpos
    · subst hz
      exact ⟨v.sum, cge_zero fun x hx => (hmem x hx).2⟩
    · have hθ0 : θ' > 0 := by
        refine Int.not_le.mp fun q => ?_
        have h1 : cge θ' (lrR w H) = (lrR w H).length := cntP_all fun x hx => decide_eq_true (Int.le_trans q (lrR_mem hTw x hx).1)
        have h2 : (lrR w H).length = v.length := lrR_len.trans hwl
        have h3 : cge 1 (lrR v S) ≤ (lrR v S).length := cntP_le
        (first | lia | omega)
      refine ⟨max 1 (((H : Int) * v.sum - θ').fdiv (H : Int) + 1), ?_⟩
      have hd := rem_range (a := (H : Int) * v.sum - θ') hH0
      generalize ((H : Int) * v.sum - θ').fdiv (H : Int) = d at *
      have key : ∀ x ∈ lrR v S, (x > 0 → ((H : Int) * (v.sum - x) ≥ θ' ↔ ¬ x ≥ d + 1)) := fun x hx q => by
        have e1 : (H : Int) * (v.sum - x) = (H : Int) * v.sum - (H : Int) * x := Int.mul_sub ..
        have e2 : d * (H : Int) = (H : Int) * d := Int.mul_comm ..
        have h1 := hscale (a := x) (b := d)
        have h2 := hscale (a := d + 1) (b := x)
        rw [Int.mul_add, Int.mul_one] at h2
        (first | lia | omega)
      have e0 : cge θ' (lrR w H) = cntP (fun x => decide (x ≥ 1) && !decide (x ≥ d + 1)) (lrR v S) := by
        show cntP _ _ = _
        rw [hcount]
        refine cntP_congr fun x hx => ?_
        rw [Bool.eq_iff_iff]
        simp only [Bool.and_eq_true, Bool.not_eq_true', decide_eq_true_eq, decide_eq_false_iff_not]
        by_cases q : x > 0
        · rw [if_pos q, key x hx q]; (first | lia | omega)
        · rw [if_neg q, Int.mul_zero]; (first | lia | omega)
      have hsplit := cntP_split (fun x => decide (x ≥ 1)) (fun x => decide (x ≥ d + 1)) (lrR v S)
      have e1 : cntP (fun x => decide (x ≥ 1) && decide (x ≥ d + 1)) (lrR v S) = cge (max 1 (d + 1)) (lrR v S) := cntP_congr fun x _ => by
        rw [Bool.eq_iff_iff]; simp only [Bool.and_eq_true, decide_eq_true_eq]; (first | lia | omega)
      have : cge 1 (lrR v S) = cntP (fun x => decide (x ≥ 1)) (lrR v S) := rfl
      (first | lia | omega)
  have ht : lrTie w H = lrTie v S := by
    have h1 := lr_nt K
    have h2 := lr_nt K'
    cases e : lrTie v S
    · obtain ⟨θ, hθ⟩ := h1.mp e
      obtain ⟨θ', hθ', _⟩ := fwd hθ
      exact h2.mpr ⟨θ', hθ'⟩
    · cases e' : lrTie w H
      · have := h1.mpr (bwd (h2.mp e'))
        rw [e] at this; cases this
      · rfl
  refine ⟨ht, fun e => ?_⟩
  obtain ⟨θ, hθ⟩ := (lr_nt K).mp e
  obtain ⟨θ', hθ', key⟩ := fwd hθ
  refine list_ext (by rw [K'.len, hwl, List.length_map, K.len]) fun j hj => ?_
  rw [K'.len, hwl] at hj
  have hjr : j < (lrR v S).length := by rw [hlr]; exact hj
  rw [lr_at_nt K' hθ' j (by rw [hwl]; exact hj), getD_map (by rw [K.len]; exact hj), lr_at_nt K hθ j hj, eq, er, hget hj, getD_map hjr]
  have hk := key ((lrR v S).getD j 0) (by rw [getD_lt hjr]; exact List.getElem_mem _)
  have hm := lr_rng (S := S) hT hj
  by_cases q : (lrR v S).getD j 0 ≥ θ
  · have h0 : (lrR v S).getD j 0 > 0 := by
      refine Int.not_le.mp fun z => ?_
      -- then all would be served
      have : cge θ (lrR v S) = (lrR v S).length := cntP_all fun x hx => decide_eq_true (by have := (hmem x hx).1; (first | lia | omega))
      have := K.kn
      (first | lia | omega)
    rw [if_pos q, if_neg (fun z => (hk.mp z).2 q), if_pos h0]; (first | lia | omega)
  · by_cases h0 : (lrR v S).getD j 0 > 0
    · rw [if_neg q, if_pos (hk.mpr ⟨h0, q⟩), if_pos h0]; (first | lia | omega)
    · rw [if_neg q, if_neg (fun z => h0 (hk.mp z).1), if_neg h0]; (first | lia | omega)
end Mine
end

section
open PySem PySem.W PyProof.Rows PySem.Calls PySem.SeqAt
set_option linter.unusedVariables false
set_option maxRecDepth 100000
namespace Mine

section
variable {W : Wk} {A : Around} {hid : PMap} {env : Env} {vars : Vars} {mu : Mu} {K : Out → Prop}

end
end Mine
end

section
open PySem PySem.W PyProof.Rows PySem.Calls PySem.SeqAt
set_option linter.unusedVariables false
set_option maxRecDepth 100000
namespace Mine

abbrev excBm : List Value := [.type "Exception", .type "BaseException", .type "object"]
structure OwnX (W : Wk) (x : Str) (C : Addr) : Prop where
  own : OwnClsQ x C excBm "Exception.__new__" W.mg W.base

section
variable {W : Wk} {A : Around} {hid : PMap} {env : Env} {vars : Vars} {mu : Mu} {K K' : Out → Prop}

theorem ex_raise {x : Str} {C : Addr} {np cpos pos : Pos} {e : Expr} {d : PV} {outer} (O : W.Ok) (X : OwnX W x C) (F : FrX A hid env outer) (hh : A.handled = none) (N : GName W env x (.ref C)) (he : Ev W A hid env vars mu e d) (hs : starEach [e] env = [(false, eval e env)]) :
    Ex1 W A hid env vars mu (.Raise (some (.Call (.Name x np) [e] [] cpos)) none pos) (fun o => o = .exc (.ref C) vars mu) := fun g h t R => by
  obtain ⟨bm, Nn, nm, q, bs, hdct, sn, sub, ab, col, dd, k0, k1, k2, k3, k5, mN, hC, hN, hni, T⟩ := X.own.own.obj
  refine wpAny_Raise_call_subT (C := C) (nm := nm) (q := q) (N := Nn) (bs := bs) (bm := bm) (hdct := hdct) (sn := sn) (sub := sub) (ab := ab) (col := col) (dd := dd) (k0 := k0) (k1 := k1) (k2 := k2) (k3 := k3) (k5 := k5)
    PySem.F.excBase_Exception (mN := mN) (T.hasType PySem.F.excBase_Exception.hasBase) hh (by rw [hs]; rfl) hni (name_global O N R ⟨rfl, ?_⟩)
  have ha := args1 he hs
  have := ha cpos g h t (fun vs s₂ => vs.length ≤ sizeLine ∧ (∀ b o, W.base.get? b = some o → s₂.heap.get? b = some o) ∧ ∀ h' e, Heap.MadeExcOf s₂.heap h' e (.ref C) vs → ExcOk W A hid env (fun o => o = .exc (.ref C) vars mu) g (.ref e) { s₂ with heap := h' }) (ExcOk W A hid env (fun o => o = .exc (.ref C) vars mu) g) R fun us g1 h1 t1 l1 R1 i1 => by
    refine ⟨by rw [i1.length, sizeLine_eq]; exact Nat.le_trans (by decide : 1 ≤ 2) (by decide), R1.base, fun h' ea hx => ⟨.ref C, vars, mu, g1, h1, ea, _, h', t1, rfl, rfl, rfl, l1, R1, F.frames, .made us hx⟩⟩
  rw [hs] at this ⊢
  exact Calls.evalArgs_plain (wpAny_mono this (fun vs s₂ h₂ => ⟨rfl, h₂.1, h₂.2.1 _ _ hC, hN.keeps h₂.2.1, T.keeps h₂.2.1, h₂.2.2⟩) fun _ _ y => y)

theorem Rep.after {g h h' : _} {B : Heap} (R : Rep W hid g env vars mu h) (hB : ∀ b o, B.get? b = some o → h'.get? b = some o) (q2 : ∀ b o, g b = some o → B.get? b = some o) (q3 : ∀ b o, h.get? b = some o → (∀ es ep, o.data ≠ .dict es ep) → B.get? b = some o) (q4 : h.UpToSlots h') : Rep W hid g env vars mu h' := by
  have keep : ∀ {b o}, h.get? b = some o → (∀ es ep, o.data ≠ .dict es ep) → h'.get? b = some o := fun e n => hB _ _ (q3 _ _ e n)
  have kcell : ∀ {c v}, h.IsCell c v → h'.IsCell c v := fun hc => by
    obtain ⟨o, e1, e2⟩ := id hc
    exact ⟨o, keep e1 (fun es ep z => by rw [e2] at z; cases z), e2⟩
  refine ⟨R.bs, fun a o e => hB _ _ (q2 a o e), fun a o e => ?_, R.gh, ?_, fun x d e => ?_, R.gL, R.hL, fun x c e => ?_, R.cnd, fun a l e => ?_, R.mnd⟩
  · obtain ⟨sl, e1, e2⟩ := R.hs a o e
    by_cases hd : ∃ es ep, o.data = .dict es ep
    · obtain ⟨es, ep, hd⟩ := hd
      obtain ⟨sl', e3⟩ := q4 a _ e1 (fun vs z => by rw [show ({ o with slots := sl } : Obj).data = o.data from rfl, hd] at z; cases z)
      exact ⟨sl', e3, fun n => absurd hd (n es ep)⟩
    · exact ⟨sl, keep e1 (fun es ep z => hd ⟨es, ep, z⟩), e2⟩
  · obtain ⟨m, hn⟩ := R.ns; exact ⟨m, q4.ns hn⟩
  · obtain ⟨u, i, hd, ⟨hl, m, hn, hm⟩ | ⟨c, hk, hc, hv⟩⟩ := R.vs x d e
    · exact ⟨u, i, hd, .inl ⟨hl, m, q4.ns hn, hm⟩⟩
    · exact ⟨u, i, hd, .inr ⟨c, hk, hc, kcell hv⟩⟩
  · obtain ⟨⟨v, hv⟩, r⟩ := R.cell x c e; exact ⟨⟨v, kcell hv⟩, r⟩
  · obtain ⟨vs, n, e1, r⟩ := R.mus a l e
    exact ⟨vs, n, keep e1 (fun es ep z => nomatch (show Data.seq vs n = Data.dict es ep from z)), r⟩

theorem ex_tryX {x : Str} {C : Addr} {np hpos pos : Pos} {body suite : List Stmt} {b0 : Stmt} {K' K2 : Out → Prop} {outer} (O : W.Ok) (X : OwnX W x C) (F : FrX A hid env outer) (N : GName W env x (.ref C))
    (hb : Exs W A hid env vars mu body K') (h1 : ∀ o, K' o → (∀ y v m, o ≠ .exc y v m) → K o) (h2 : ∀ y v m, K' (.exc y v m) → y = .ref C ∧ ∀ a, Exs W (A.mark (some (.ref a))) hid env v m (b0 :: suite) K2)
    (h3 : ∀ o, K2 o → K o) (h4 : ∀ y v m, ¬ K2 (.exc y v m)) :
    Ex1 W A hid env vars mu (.Try body [.ExceptHandler (some (.Name x np)) none (b0 :: suite) hpos] [] [] pos) K := fun g h t R => by
  refine wpAny_Try_except (wpAny_mono (hb g h t R) (fun f s y => ?_) fun e s y => ?_)
  · cases f with
    | next => obtain ⟨v, m, g', h', t', rfl, q, l, R'⟩ := y; exact wpAny_execs_nil ⟨v, m, g', h', t', rfl, h1 _ q (fun _ _ _ z => nomatch z), l, R'⟩
    | brk => obtain ⟨v, m, g', h', t', rfl, q, l, R'⟩ := y; exact ⟨v, m, g', h', t', rfl, h1 _ q (fun _ _ _ z => nomatch z), l, R'⟩
    | cont => obtain ⟨v, m, g', h', t', rfl, q, l, R'⟩ := y; exact ⟨v, m, g', h', t', rfl, h1 _ q (fun _ _ _ z => nomatch z), l, R'⟩
    | ret u => obtain ⟨d, g', h', t', rfl, q, l, R'⟩ := y; exact ⟨d, g', h', t', rfl, h1 _ q (fun _ _ _ z => nomatch z), l, R'⟩
  · obtain ⟨y, v, m, g₁, h₁, a, l, h', t', rfl, rfl, q, lg, R1, efr, XF⟩ := y
    rw [F.frames] at efr
    cases efr
    obtain ⟨rfl, hsuite⟩ := h2 y v m q
    have FO := R1.frOk F
    refine note_x F.frames FO F.loc XF fun h2' B a0 p1 p2 p3 p4 => ?_
    refine wpAny_landsW (s := W.S h2' t') p1 fun h3' f1 s1 => ?_
    have R3 := R1.after (h' := h3') f1.1 p2 p3 (p4.trans s1)
    refine handleBy_own (C := C) (x := x) (bmB := excBm) (newId := "Exception.__new__") (mg := W.mg) (by decide) ?_
    refine name_global (A := A.mark (some (.ref a))) O N R3 ⟨rfl, X.own.keeps R3.base, f1.there, ?_⟩
    obtain ⟨k1, k2, k3, k4⟩ := f1
    refine wpAny_setFlight_noneW (s := W.S h3' t') k1 k3 k4.at fun h4' j1 j2 j3 j4 => ?_
    have R4 := R1.after (h' := h4') j1 p2 p3 ((p4.trans s1).trans fun b o hb hn => ⟨o.slots, j4 b o hb hn⟩)
    refine wpAny_mono (hsuite a g₁ h4' t' R4) (fun f s z => ?_) fun e s z => ?_
    · cases f with
      | next => obtain ⟨v, m, g', h', t', rfl, q, l, R'⟩ := z; exact ⟨v, m, g', h', t', rfl, h3 _ q, lg.trans l, R'⟩
      | brk => obtain ⟨v, m, g', h', t', rfl, q, l, R'⟩ := z; exact ⟨v, m, g', h', t', rfl, h3 _ q, lg.trans l, R'⟩
      | cont => obtain ⟨v, m, g', h', t', rfl, q, l, R'⟩ := z; exact ⟨v, m, g', h', t', rfl, h3 _ q, lg.trans l, R'⟩
      | ret u => obtain ⟨d, g', h', t', rfl, q, l, R'⟩ := z; exact ⟨d, g', h', t', rfl, h3 _ q, lg.trans l, R'⟩
    · obtain ⟨y, v, m, _, _, _, _, _, _, _, _, q, _⟩ := z
      exact absurd q (h4 y v m)
end
end Mine
end

section
open PySem PySem.W PyProof.Rows PySem.Calls PySem.SeqAt
set_option linter.unusedVariables false
set_option maxRecDepth 100000
namespace Mine

section
variable {W : Wk} {A : Around} {hid : PMap} {env : Env} {vars : Vars} {mu : Mu} {K : Out → Prop}

end
end Mine
end

section
open PySem PySem.W PyProof.Rows PySem.Calls PySem.SeqAt
set_option linter.unusedVariables false
set_option maxRecDepth 100000
namespace Mine

section
variable {W : Wk} {A : Around} {hid : PMap} {env : Env} {vars : Vars} {mu : Mu} {K : Out → Prop}

end
end Mine
end

section
open PySem PySem.W PyProof.Rows PySem.Calls PySem.SeqAt
set_option linter.unusedVariables false
set_option maxRecDepth 100000
namespace Mine

theorem evargs_str {W : Wk} {A : Around} {hid : PMap} {env : Env} {vars : Vars} {mu : Mu} {x : Str} {k : Nat} {p : Pos} {es ds} (h : EvArgs W A hid env vars mu es ds) : EvArgs W A hid env vars mu (.Constant (.str x) k p :: es) (.str x :: ds) := evargs_cons ev_str h rfl
def lrNames : List Str := ["lrm", "hamilton", "largest_remainder"]
section
variable {W : Wk} {A : Around} {hid : PMap} {env : Env} {vars : Vars} {mu : Mu} {K : Out → Prop}

theorem ev_call_def {x : Str} {np pos : Pos} {a : Addr} {dV : Value} {n : Nat} {e : Expr} {es : List Expr} {ds : List PV} {d : PV} (N : Names W) (E : EnvOk env) (ao : AOk W A n) (DA : DefAt W p1 x a dV) (hx : env.kindOf x = some .globalImplicit) (hdb : (x == ("__debug__" : Str)) = false)
    (ha : EvArgs W A hid env vars mu (e :: es) ds) (hf : Fn W (.ref a) n ds d) (hs : starEach (e :: es) env = (false, eval e env) :: starEach es env) : Ev W A hid env vars mu (.Call (.Name x np) (e :: es) [] pos) d := by
  obtain ⟨hm, kV, doc, pm, an, cdv, ct, F⟩ := DA
  obtain ⟨o, ho, hd⟩ := F.obj
  exact ev_call_fn N.ok ao (gname_g E hm hx hdb) ho hd ha hf hs

set_option genInjectivity false in
set_option genSizeOfSpec false in
structure Defs (W : Wk) where
  nm : Names W
  at_ : Addr
  hat : DefAt W p1 "apply_threshold" at_ .none
  dv : Addr
  dvT : Addr
  dvo : Obj
  dvv : Value
  dvn : Nat
  hdv : DefAt W p1 "divisor" dv (.ref dvT)
  hdvT : W.base.get? dvT = some dvo
  hdvd : dvo.data = .seq #[dvv] dvn
  cp : Addr
  cpT : Addr
  cpo : Obj
  cpn : Nat
  hcp : DefAt W p1 "compute" cp (.ref cpT)
  hcpT : W.base.get? cpT = some cpo
  hcpd : cpo.data = .seq #[.none, .bool true] cpn

theorem at_spec (D : Defs W) (l : List PV) : Fn W (.ref D.at_) 1 [.list l, .none] (.list l) := by
  obtain ⟨hm, kV, doc, pm, an, cdv, ct, F⟩ := D.hat
  refine fn_intro D.nm.ok F [("votes", .list l), ("threshold", .none)] ["votes", "threshold"] rfl (by show paramsOk (scopeOf p1 "apply_threshold") _ = true; decide +kernel) (by decide +kernel) ?_ ?_
  · intro g h t us kb kg is
    cases is with
    | cons i1 is => cases is with
      | cons i2 is =>
        cases is
        exact ⟨_, BindsTo.of_eq rfl, .cons i1 (.cons i2 .nil)⟩
  · intro A hid L ao hs
    refine exs_cons (K' := (· = .ret (.list l))) (ex_if (x := false) (tr_cmp (ev_name rfl rfl) ev_none rfl (c_isnn (by intro v e; cases e))) (fun e => by cases e) (fun _ => ?_)) (fun v m e => by cases e) (fun o e _ => .inl e)
    refine exs_cons (ex_ret (ev_name rfl rfl)) (fun v m e => by cases e) (fun o e _ => e)

theorem ev_call_defG {x : Str} {np pos : Pos} {a : Addr} {dV : Value} {n : Nat} {e : Expr} {es : List Expr} {ds : List PV} {P : Prop} {Kd : PV → Prop} {Xx : Value → Prop} {outer} (N : Names W) (E : EnvOk env) (ao : AOk W A n) (F : P → FrX A hid env outer) (hXP : ∀ x, Xx x → P) (DA : DefAt W p1 x a dV) (hx : env.kindOf x = some .globalImplicit) (hdb : (x == ("__debug__" : Str)) = false)
    (ha : EvArgs W A hid env vars mu (e :: es) ds) (hf : FnP W P (.ref a) n ds Kd Xx) (hs : starEach (e :: es) env = (false, eval e env) :: starEach es env) : EvG W A hid env vars mu (.Call (.Name x np) (e :: es) [] pos) Kd Xx := by
  obtain ⟨hm, kV, doc, pm, an, cdv, ct, Fa⟩ := DA
  obtain ⟨o, ho, hd⟩ := Fa.obj
  exact ev_call_core N.ok ao F hXP (gname_g E hm hx hdb) ho hd ha hf hs

abbrev cpVars (nm : Str) (votes : List Int) (S : Nat) (ta : Bool) : Vars := [("method", .str nm), ("votes", listI votes), ("seats", .int S), ("threshold", .none), ("tiesallowed", .bool ta)]
inductive CpArgs (nm : Str) (votes : List Int) (S : Nat) : Bool → List PV → Prop where
  | three : CpArgs nm votes S true [.str nm, listI votes, .int S]
  | five {ta} : CpArgs nm votes S ta [.str nm, listI votes, .int S, .none, .bool ta]
theorem cp_binds (D : Defs W) {nm : Str} {votes : List Int} {S : Nat} {ta : Bool} {args : List PV} (c : CpArgs nm votes S ta args) {kV doc pm an cdv ct} {g : PMap} {h : Heap} {t : Nat} {us : List Value} (kb : ∀ a o, W.base.get? a = some o → h.get? a = some o) (is : Iss g args us) :
    ∃ binds, BindsTo (W.S h t) (fnOf "compute" "compute" (argsOf p1 "compute") (bodyOf p1 "compute") (scopeOf p1 "compute") (.ref D.cpT) kV doc pm an cdv ct) ⟨us, []⟩ binds ∧ Binds g (cpVars nm votes S ta) binds := by
  cases c with
  | three =>
    cases is with
    | cons i1 is => cases is with
      | cons i2 is => cases is with
        | cons i3 is =>
          cases is
          exact ⟨_, BindsTo.of_defaults rfl (kb _ _ D.hcpT) D.hcpd rfl rfl, .cons i1 (.cons i2 (.cons i3 (.cons .none (.cons .bool .nil))))⟩
  | five =>
    cases is with
    | cons i1 is => cases is with
      | cons i2 is => cases is with
        | cons i3 is => cases is with
          | cons i4 is => cases is with
            | cons i5 is =>
              cases is
              exact ⟨_, BindsTo.of_defaults rfl (kb _ _ D.hcpT) D.hcpd rfl rfl, .cons i1 (.cons i2 (.cons i3 (.cons i4 (.cons i5 .nil))))⟩
theorem not_next {K : PV → Prop} {X : Value → Prop} {o : Out} {v m} (h : (∃ d, K d ∧ o = .ret d) ∨ ∃ x v m, X x ∧ o = .exc x v m) : o ≠ .next v m := by
  rcases h with ⟨_, _, e⟩ | ⟨_, _, _, _, e⟩ <;> subst e <;> intro z <;> cases z

end
end Mine
end

section
open PySem PySem.W PyProof.Rows PySem.Calls PySem.SeqAt
set_option linter.unusedVariables false
set_option maxRecDepth 100000
namespace Mine
section
variable {W : Wk} {A : Around} {hid : PMap} {env : Env} {vars : Vars} {mu : Mu} {K K' : Out → Prop}

theorem c_neb {a b : Bool} : Op W A hid env vars mu [.bool a, .bool b] (fun us => compareOp .NotEq (us.getD 0 .none) (us.getD 1 .none)) (.bool (a != b)) :=
  op2 fun g h t u v Q E R i j k => by cases i; cases j; exact PyProof.Rows.ne_bool (k _ g h t (Le.refl g) R .bool)
theorem ex_for_xs {α : Type} {x : Str} {p pos : Pos} {e : Expr} {body : List Stmt} {d : PV} (mk : α → PV) (xs : List α) (J : Nat → Vars → Mu → Prop) (hh : A.handled = none) (he : Ev W A hid env vars mu e d) (hsrc : ∀ i v m, J i v m → Src m d (xs.map mk)) (h0 : J 0 vars mu)
    (hs : Sto hid env x) (hk : env.scope.kind = .function) (hd : (x == ("__debug__" : Str)) = false) (hf : ∀ x, foldedSetIterable e env x = pure x)
    (turn : ∀ hid' i v m a, (∀ y, Sto hid env y → Sto hid' env y) → xs[i]? = some a → J i v m → Exs W A hid' env ((x, mk a) :: v) m body (TurnK (J (i + 1)) K))
    (done : ∀ v m, J xs.length v m → K (.next v m)) : Ex1 W A hid env vars mu (.For (.Name x p) e body [] pos) K := by
  refine ex_for J hh he hsrc h0 hs hk hd hf (fun hid' i v m a hsto ha hJ => ?_) (fun v m hJ => done v m (by rw [List.length_map] at hJ; exact hJ))
  rw [List.getElem?_map] at ha
  obtain ⟨b, hb, rfl⟩ := Option.map_eq_some_iff.mp ha
  exact turn hid' i v m b hsto hb hJ
theorem ex_for_rng {x : Str} {p pos : Pos} {e : Expr} {body : List Stmt} {n : Nat} (J : Nat → Vars → Mu → Prop) (hh : A.handled = none) (he : Ev W A hid env vars mu e (.rng 0 (n : Int))) (hn : n < 2 ^ 61) (h0 : J 0 vars mu)
    (hs : Sto hid env x) (hk : env.scope.kind = .function) (hd : (x == ("__debug__" : Str)) = false) (hf : ∀ x, foldedSetIterable e env x = pure x)
    (turn : ∀ hid' i v m, (∀ y, Sto hid env y → Sto hid' env y) → i < n → J i v m → Exs W A hid' env ((x, .int (i : Int)) :: v) m body (TurnK (J (i + 1)) K))
    (done : ∀ v m, J n v m → K (.next v m)) : Ex1 W A hid env vars mu (.For (.Name x p) e body [] pos) K := by
  refine ex_for_xs (fun (i : Nat) => PV.int (i : Int)) (List.range n) J hh he (fun _ _ _ _ => src_rng hn) h0 hs hk hd hf (fun hid' i v m a hsto ha hJ => ?_) (fun v m hJ => done v m (by rw [List.length_range] at hJ; exact hJ))
  have hlt := lt_of_get ha
  rw [List.length_range] at hlt
  rw [List.getElem?_range hlt] at ha
  cases ha
  exact turn hid' i v m hsto hlt hJ
theorem tr_and3 {a b c : Expr} {pos x y z} (ha : Tr W A hid env vars mu a x) (hb : x = true → Tr W A hid env vars mu b y) (hc : x = true → y = true → Tr W A hid env vars mu c z) : Tr W A hid env vars mu (.BoolOp .And [a, b, c] pos) (x && y && z) := by
  cases x
  · exact tr_bool (.stop ha rfl)
  · have hb := hb rfl
    cases y
    · exact tr_bool (.more ha rfl (.stop hb rfl))
    · have hc := hc rfl rfl
      cases z
      · exact tr_bool (.more ha rfl (.more hb rfl (.stop hc rfl)))
      · exact tr_bool (.more ha rfl (.more hb rfl (.more hc rfl .nil)))
end

theorem fmod_lt (a : Int) {b : Nat} (h : 0 < b) : ∃ u : Nat, u < b ∧ a.fmod (b : Int) = (u : Int) := by
  have h1 := Int.fmod_nonneg_of_pos a (show (0 : Int) < b by omega)
  have h2 := Int.fmod_lt_of_pos a (show (0 : Int) < b by omega)
  exact ⟨(a.fmod b).toNat, by omega, by omega⟩
end Mine
end

section
open PySem PySem.W PyProof.Rows PySem.Calls PySem.SeqAt
set_option linter.unusedVariables false
set_option maxRecDepth 100000
namespace Mine

inductive Dat (mu : Mu) : PV → PyData → Prop where
  | none : Dat mu .none .none
  | bool {b} : Dat mu (.bool b) (.bool b)
  | int {i} : Dat mu (.int i) (.int i)
  | str {x} : PyData.strOk x = true → Dat mu (.str x) (.str x)
  | nums {d : PV} {ns : List Int} : AsList mu d (ns.map .int) → Dat mu d (.list (ns.map .int))
theorem Dat.shaped {mu d x} (h : Dat mu d x) : shaped x = true := by
  cases h with
  | none => decide
  | bool => rfl
  | int => rfl
  | @str x h =>
    show ((PyData.canLay0 (.str x)) && _) = true
    have : PyData.canLay0 (.str x) = PyData.strOk x := by simp only [PyData.canLay0]
    rw [this, h]; rfl
  | nums h => exact shaped_ints _

section
variable {W : Wk} {A : Around} {hid : PMap} {env : Env} {vars : Vars} {mu : Mu} {K K' : Out → Prop}

theorem Dat.reads {g h d x u} (D : Dat mu d x) (R : Rep W hid g env vars mu h) (i : Is g d u) : ∃ as, Reads h u x as := by
  cases D with
  | none => cases i; exact ⟨_, .none⟩
  | bool => cases i; exact ⟨_, .bool _⟩
  | int => cases i; exact ⟨_, .int _ _⟩
  | str _ => cases i; exact ⟨_, .str _ _⟩
  | nums hl =>
    obtain ⟨a, vs, rfl, q1, q2⟩ := hl.get R i
    exact ⟨_, reads_of_ints (vs := vs.toList) (by simpa using q1) q2.toInts⟩
theorem eqv_ints (ns ms : List Int) : PyData.eqv (.list (ns.map .int)) (.list (ms.map .int)) = decide (ns = ms) := by
  rw [← same_eq_eqv _ _ (by simp only [noMix]; exact noMix_ints ns ms)]
  simp only [PySem.Spec.same]; rw [same_ints]

theorem c_eqd {n a b da db} (ao : AOk W A n) (ha : Dat mu a da) (hb : Dat mu b db) : Op W A hid env vars mu [a, b] (fun us => compareOp .Eq (us.getD 0 .none) (us.getD 1 .none)) (.bool (PyData.eqv da db)) :=
  op2 fun g h t u v Q E R i j k => by
    obtain ⟨as, ra⟩ := ha.reads R i
    obtain ⟨bs, rb⟩ := hb.reads R j
    exact eq_dataH (s := W.S h t) ra rb ha.shaped hb.shaped (by have := ao.units; show A.units + 64 < 9900; (first | lia | omega)) (k _ g h t (Le.refl g) R .bool)
theorem c_ned {n a b da db} (ao : AOk W A n) (ha : Dat mu a da) (hb : Dat mu b db) : Op W A hid env vars mu [a, b] (fun us => compareOp .NotEq (us.getD 0 .none) (us.getD 1 .none)) (.bool (!PyData.eqv da db)) :=
  op2 fun g h t u v Q E R i j k => by
    obtain ⟨as, ra⟩ := ha.reads R i
    obtain ⟨bs, rb⟩ := hb.reads R j
    exact ne_dataH (s := W.S h t) ra rb ha.shaped hb.shaped (by have := ao.units; show A.units + 64 < 9900; (first | lia | omega)) (k _ g h t (Le.refl g) R .bool)
theorem c_nel {n d e} {ns ms : List Int} (ao : AOk W A n) (hl : AsList mu d (ns.map .int)) (hm : AsList mu e (ms.map .int)) : Op W A hid env vars mu [d, e] (fun us => compareOp .NotEq (us.getD 0 .none) (us.getD 1 .none)) (.bool (!decide (ns = ms))) := by
  have := c_ned (A := A) (W := W) (hid := hid) (env := env) (vars := vars) ao (.nums hl) (.nums hm)
  rw [eqv_ints] at this
  exact this
theorem c_eql' {n d e} {ns ms : List Int} (ao : AOk W A n) (hl : AsList mu d (ns.map .int)) (hm : AsList mu e (ms.map .int)) : Op W A hid env vars mu [d, e] (fun us => compareOp .Eq (us.getD 0 .none) (us.getD 1 .none)) (.bool (decide (ns = ms))) := by
  have := c_eqd (A := A) (W := W) (hid := hid) (env := env) (vars := vars) ao (.nums hl) (.nums hm)
  rw [eqv_ints] at this
  exact this

end
end Mine
end

section
open PySem PySem.W PyProof.Rows PySem.Calls PySem.SeqAt
set_option linter.unusedVariables false
set_option maxRecDepth 100000
namespace Mine
section
variable {W : Wk} {A : Around} {hid : PMap} {env : Env} {vars : Vars} {mu : Mu} {K K' : Out → Prop}

theorem exs_set {x : Str} {p pos : Pos} {e : Expr} {d : PV} {rest : List Stmt} (he : Ev W A hid env vars mu e d) (hs : Sto hid env x) (hsw : swapsWith e (some (.Name x p)) pos.line env = pure false) (hk : env.scope.kind = .function) (hd : (x == ("__debug__" : Str)) = false)
    (k : Exs W A hid env ((x, d) :: vars) mu rest K) : Exs W A hid env vars mu (.Assign [.Name x p] e pos :: rest) K := exs_next (ex_assign he hs hsw hk hd) k
theorem exs_ret {e : Expr} {pos : Pos} {d : PV} {rest : List Stmt} (he : Ev W A hid env vars mu e d) (k : K (.ret d)) : Exs W A hid env vars mu (.Return (some e) pos :: rest) K :=
  exs_cons (ex_ret he) (fun v m e => nomatch e) (fun o e _ => by subst e; exact k)
theorem exs_go {c : Bool} {cond e : Expr} {p q : Pos} {d : PV} {rest : List Stmt} (hc : Tr W A hid env vars mu cond c) (ht : c = true → Ev W A hid env vars mu e d ∧ K (.ret d)) (hf : c = false → Exs W A hid env vars mu rest K) :
    Exs W A hid env vars mu (.If cond [.Return (some e) p] [] q :: rest) K := by
  cases c with
  | true => exact exs_cons (K' := (· = .ret d)) (ex_if hc (fun _ => exs_ret (ht rfl).1 rfl) (fun e => nomatch e)) (fun v m e => nomatch e) (fun o e _ => by subst e; exact (ht rfl).2)
  | false => exact exs_next (ex_if hc (fun e => nomatch e) (fun _ => exs_nil rfl)) (hf rfl)
theorem exs_skip {cond : Expr} {b : List Stmt} {q : Pos} {rest : List Stmt} (hc : Tr W A hid env vars mu cond false) (k : Exs W A hid env vars mu rest K) : Exs W A hid env vars mu (.If cond b [] q :: rest) K :=
  exs_next (ex_if hc (fun e => nomatch e) (fun _ => exs_nil rfl)) k

theorem isEmpty_ints {l : List Int} : ((l.map PV.int).isEmpty) = decide (l = []) := by cases l <;> simp

theorem ev_sc0 {x : Str} {ns : List Int} {z c : Int} {q1 q2 q3 q4 q5 q6 : Pos} {k1 k2 : Nat} (E : EnvOk env) (hx : vars.lookup x = some (listI ns)) (hn : ns.length ≤ 63) (hz : z = 0)
    (hf : ∀ v : Sem Value, isTrue (.Name x q1) env v = (do let y ← v; standAt (Expr.Name x q1).pos; holding [y] (truthy y))) :
    Ev W A hid env vars mu (.IfExp (.Name x q1) (.Subscript (.Name x q2) (.Constant (.int z) k1 q3) q4) (.Constant (.int c) k2 q5) q6) (.int (ns.getD 0 c)) := by
  subst hz
  refine ev_if (x := !decide (ns = [])) ?_ (fun e => ?_) (fun e => ?_)
  · refine tr_of (d := listI ns) (ev_name hx E.kind) ?_ hf
    show (_ = !(ns.map PV.int).isEmpty) ∧ _
    rw [isEmpty_ints, List.length_map]
    exact ⟨rfl, by omega⟩
  · have h0 : 0 < ns.length := List.length_pos_iff.mpr (by simpa using e)
    refine ev_idx (l := ns.map .int) (ev_name hx E.kind) ev_int AsList.list (by omega) (by rw [List.length_map]; omega) (by rw [List.length_map]; omega) ?_
    rw [show idx 0 (ns.map PV.int).length = 0 from idx_nat 0 _]
    rw [List.getElem?_map, List.getD, List.getElem?_eq_getElem h0]; rfl
  · have h0 : ns = [] := by simpa using e
    subst h0
    exact ev_int
abbrev strsV (l : List Str) : PV := .list (l.map .str)
theorem AOk.less {n m : Nat} (a : AOk W A n) (h : m ≤ n) : AOk W A m := ⟨a.handled, by have := a.depth; omega, by have := a.units; omega, a.frames⟩
end

theorem sliceP_map {α β : Type} (f : α → β) (l : List α) (lo hi) : sliceP (l.map f) lo hi = (sliceP l lo hi).map f := by
  unfold sliceP; rw [List.length_map, List.map_take, List.map_drop]
theorem sliceP_mem {α : Type} {l : List α} {lo hi} {x : α} (h : x ∈ sliceP l lo hi) : x ∈ l := List.mem_of_mem_drop (List.mem_of_mem_take h)
theorem clip_cast (n a : Nat) : clipAt n (a : Int) = min a n := by
  unfold clipAt
  rw [if_neg (Int.not_lt.mpr (Int.natCast_nonneg a))]
  rcases Nat.le_total a n with h | h
  · rw [Int.min_eq_left (Int.ofNat_le.mpr h), Int.max_eq_right (Int.natCast_nonneg _), Int.toNat_natCast, Nat.min_eq_left h]
  · rw [Int.min_eq_right (Int.ofNat_le.mpr h), Int.max_eq_right (Int.natCast_nonneg _), Int.toNat_natCast, Nat.min_eq_right h]
theorem min_sub (a b n : Nat) : min b n - min a n ≤ b - a := by
  rcases Nat.le_total a n with h | h
  · rw [Nat.min_eq_left h]; exact Nat.sub_le_sub_right (Nat.min_le_left _ _) _
  · rw [Nat.min_eq_right h, Nat.sub_eq_zero_of_le (Nat.min_le_right _ _)]; exact Nat.zero_le _
theorem sliceP_len {α : Type} (l : List α) (a b : Nat) : (sliceP l (some (a : Int)) (some (b : Int))).length ≤ b - a := by
  unfold sliceP
  rw [List.length_take]
  show min (clipAt l.length (b : Int) - clipAt l.length (a : Int)) _ ≤ b - a
  rw [clip_cast, clip_cast]
  exact Nat.le_trans (Nat.min_le_left _ _) (min_sub _ _ _)
theorem sliceP_all {α : Type} (l : List α) : sliceP l none none = l := by
  unfold sliceP
  show (l.drop 0).take (l.length - 0) = _
  rw [List.drop_zero, Nat.sub_zero, List.take_length]
section
variable {W : Wk} {A : Around} {hid : PMap} {env : Env} {vars : Vars} {mu : Mu} {K K' : Out → Prop}
theorem ev_copy {v : Expr} {p pos : Pos} {d l} (hv : Ev W A hid env vars mu v d) (hl : AsList mu d l) (hn : l.length ≤ 100000) : Ev W A hid env vars mu (.Subscript v (.Slice none none none p) pos) (.list l) := by
  have := EvNew.ev (evnew_slice (p := p) (pos := pos) hv hl hn .none .none)
  rw [sliceP_all] at this
  exact this
end
theorem well_list {P : Params} {h : Heap} {l : Addr} {d : WData} {arr : Array Value} (w : Well P h (.ref l) d) (hl : h.IsList l arr) : ∃ n, h.get? l = some (lobj arr n) := by
  obtain ⟨o, e, hc, n, hd⟩ := hl
  cases w with
  | list q _ =>
    rw [e] at q
    cases q
    cases hd
    exact ⟨_, e⟩
  | bytearray q => rw [e] at q; cases q; cases hd
  | tuple q _ => rw [e] at q; cases q; exact absurd hc (fun z => by injection z with z; exact absurd z (by decide))
  | dict q _ => rw [e] at q; cases q; cases hd
  | set q _ _ _ => rw [e] at q; cases q; cases hd
  | frozenset q _ _ _ => rw [e] at q; cases q; cases hd
  | obj q _ _ _ => rw [e] at q; cases q; cases hd
theorem bits_lt {a : Int} {k : Nat} (h : Builtin.Int.intBits a ≤ k) : a.natAbs < 2 ^ k := by
  unfold Builtin.Int.intBits at h
  split at h
  · rename_i h0
    have : a = 0 := by simpa using h0
    subst this
    exact Nat.two_pow_pos k
  · rename_i h0
    have hn : a.natAbs ≠ 0 := by
      intro z; apply h0; simp; omega
    exact (Nat.log2_lt hn).mp h

theorem defAt_mk {W : Wk} {n : Str} {a : Addr} {dV : Value} {K : Frag} (X : K.In W.base) (hm : W.mg n = some (.ref a)) {o : Obj} (ho : K.lookup a = some o) {kV doc pm an cdv ct} (hd : o.data = .func (fnOf n n (argsOf p1 n) (bodyOf p1 n) (scopeOf p1 n) dV kV doc pm an cdv ct))
    (hc : codeIn K cdv n = true) (hs : (scopeOf p1 n).isCoroutine = false ∧ (scopeOf p1 n).isGenerator = false ∧ (scopeOf p1 n).kind = .function) : DefAt W p1 n a dV :=
  ⟨hm, kV, doc, pm, an, cdv, ct, ⟨⟨o, X _ _ ho, hd⟩, codeRec_of X hc, rfl, rfl, rfl, rfl, hs.1, hs.2.1, hs.2.2⟩⟩
theorem mapLe {α β : Type} {l : List α} {f : α → β} (h : l.length ≤ 63) : (l.map f).length ≤ 100000 := by rw [List.length_map]; exact Nat.le_trans h (by decide)
theorem mapLt {α β : Type} {l : List α} {f : α → β} (h : l.length ≤ 63) : (l.map f).length < 2 ^ 62 := by rw [List.length_map]; exact Nat.lt_of_le_of_lt h (by decide)
theorem le5 {n : Nat} (h : n ≤ 63) : n ≤ 100000 := Nat.le_trans h (by decide)
theorem lt61 {n : Nat} (h : n ≤ 63) : n < 2 ^ 61 := Nat.lt_of_le_of_lt h (by decide)
theorem lt62 {n : Nat} (h : n ≤ 63) : n < 2 ^ 62 := Nat.lt_of_le_of_lt h (by decide)

section
variable {W : Wk} {A : Around} {hid : PMap} {env : Env} {vars : Vars} {mu : Mu} {K : Out → Prop}
theorem ev_lenI {x : Str} {np q1 q2 : Pos} {ns : List Int} (N : Names W) (E : EnvOk env) (hx : vars.lookup x = some (listI ns)) (hn : ns.length ≤ 63) (hl : env.kindOf "len" = some .globalImplicit) (hs : starEach [.Name x q1] env = [(false, eval (.Name x q1) env)]) :
    Ev W A hid env vars mu (.Call (.Name "len" np) [.Name x q1] [] q2) (.int (ns.length : Nat)) := by
  have := ev_len (np := np) (pos := q2) N E (ev_name (A := A) (hid := hid) (mu := mu) (pos := q1) hx E.kind) AsList.list (mapLt hn) hl hs
  rw [List.length_map] at this
  exact this

end
end Mine
end

section
open PySem PySem.W PyProof.Rows PySem.Calls PySem.SeqAt
set_option linter.unusedVariables false
set_option maxRecDepth 100000
namespace Mine

section
variable {W : Wk} {A : Around} {hid : PMap} {env : Env} {vars : Vars} {mu : Mu} {K : Out → Prop}
abbrev rEnv (p : Program) (a L : Addr) (dV kV doc pm : Value) (an : Option Addr) (cdv ct : Value) : Env := fEnv (fnOf "largest_remainder" "largest_remainder" (argsOf p "largest_remainder") (bodyOf p "largest_remainder") (scopeOf p "largest_remainder") dV kV doc pm an cdv ct) a L
abbrev vR (v : List Int) (S : Nat) (ta b : Bool) (D : Addr) : Vars := [("ties", .bool b), ("representatives", .loc D), ("votes", listI v), ("seats", .int S), ("tiesallowed", .bool ta)]
abbrev vR2 (v : List Int) (S : Nat) (ta b : Bool) (D : Addr) (rem : List Int) (c : Int) : Vars := [("ties", .bool b), ("cutoff", .int c), ("remainders", listI rem), ("representatives", .loc D), ("votes", listI v), ("seats", .int S), ("tiesallowed", .bool ta)]

theorem lr_loop {a L : Addr} {dV kV doc pm an cdv ct} {v rem : List Int} {S : Nat} {ta : Bool} {c : Int} {D : Addr} {r : List Int} (N : Names W) (ao : AOk W A 0) (hn : v.length ≤ 63) (hr : r.length = v.length) (hrem : rem.length = v.length)
    (hs : ∀ x, (scopeOf p1 "largest_remainder").names.lookup x = some .local ∨ (scopeOf p1 "largest_remainder").names.lookup x = some .cell → Sto hid (rEnv p1 a L dV kV doc pm an cdv ct) x) :
    Ex1 W A hid (rEnv p1 a L dV kV doc pm an cdv ct) (vR2 v S ta false D rem c) [(D, r.map .int)] (match (bodyOf p1 "largest_remainder").getD 4 (.Pass default) with | .If _ b _ _ => b.getD 2 (.Pass default) | _ => .Pass default)
      (· = .next (vR2 v S ta (lrFold S rem c r v.length).2 D rem c) [(D, ((lrFold S rem c r v.length).1).map .int)]) := by
  have E : EnvOk (rEnv p1 a L dV kV doc pm an cdv ct) := ⟨rfl, rfl, rfl⟩
  have st : ∀ x, ((scopeOf p1 "largest_remainder").names.lookup x == some .local || (scopeOf p1 "largest_remainder").names.lookup x == some .cell) = true → Sto hid (rEnv p1 a L dV kV doc pm an cdv ct) x := fun x h => hs x (by
    rw [Bool.or_eq_true, beq_iff_eq, beq_iff_eq] at h; exact h)
  have loc : ∀ {D : Addr} {r : List PV} {mm : Mu}, AsList ((D, r) :: mm) (.loc D) r := fun {D r mm} => .inr ⟨D, rfl, .head _⟩
  refine ex_for_rng (n := v.length) (fun i vv mm => vv = vR2 v S ta (lrFold S rem c r i).2 D rem c ∧ mm = [(D, ((lrFold S rem c r i).1).map .int)]) ao.handled (ev_range1 N E (ev_lenI N E rfl hn rfl rfl) rfl rfl) (lt61 hn) ⟨rfl, rfl⟩ (st _ rfl) rfl rfl (fun _ => rfl) ?_ ?_
  · rintro hid' i vv mm hsto hi ⟨rfl, rfl⟩
    have hlen : (lrFold S rem c r i).1.length = v.length := lrFold_len.trans hr
    have hsucc := lrFold_succ (S := S) (rem := rem) (c := c) (r := r) (n := i)
    rw [hsucc]
    unfold lrStep
    generalize lrFold S rem c r i = s at *
    have st' : ∀ x, ((scopeOf p1 "largest_remainder").names.lookup x == some .local || (scopeOf p1 "largest_remainder").names.lookup x == some .cell) = true → Sto hid' (rEnv p1 a L dV kV doc pm an cdv ct) x := fun x h => hsto x (st x h)
    refine exs_set (ev_sum N E ao.handled (ev_name rfl rfl) loc rfl rfl) (st' _ rfl) rfl rfl rfl ?_
    have hri : ∀ {b : Bool} {p1' p2 p3 : Pos}, Ev W A hid' (rEnv p1 a L dV kV doc pm an cdv ct) (("reps_sum", .int s.1.sum) :: ("i", .int (i : Int)) :: vR2 v S ta b D rem c) [(D, s.1.map .int)] (.Subscript (.Name "remainders" p1') (.Name "i" p2) p3) (.int (rem.getD i 0)) :=
      ev_iidx (xs := rem) (ev_name rfl rfl) (ev_name rfl rfl) AsList.list (by rw [hrem]; exact hi) (by rw [hrem]; exact le5 hn)
    have hinc : ∀ {b : Bool} {p1' p2 p3 p4 p5 : Pos}, Ex1 W A hid' (rEnv p1 a L dV kV doc pm an cdv ct) (("reps_sum", .int s.1.sum) :: ("i", .int (i : Int)) :: vR2 v S ta b D rem c) [(D, s.1.map .int)] (.AugAssign (.Subscript (.Name "representatives" p1') (.Name "i" p2) p3) .Add (.Constant (.int 1) 0 p4) p5)
        (· = .next (("reps_sum", .int s.1.sum) :: ("i", .int (i : Int)) :: vR2 v S ta b D rem c) [(D, (s.1.set i (s.1.getD i 0 + 1)).map .int)]) := by
      intro b p1' p2 p3 p4 p5
      have := ex_augitem (W := W) (A := A) (hid := hid') (env := rEnv p1 a L dV kV doc pm an cdv ct) (vars := ("reps_sum", .int s.1.sum) :: ("i", .int (i : Int)) :: vR2 v S ta b D rem c) (m1 := []) (m2 := []) (a := D) (l := s.1.map .int) (k := (i : Int)) (o := .Name "representatives" p1') (i := .Name "i" p2) (p := p3) (e := .Constant (.int 1) 0 p4) (pos := p5) (op := .Add) (ev_name rfl rfl) (ev_name rfl rfl) ev_int (Int.natCast_nonneg i) (by rw [List.length_map, hlen]; exact Int.ofNat_lt.mpr hi) (by rw [List.length_map, hlen]; exact le5 hn) (by rw [Int.toNat_natCast]; exact getD_map_int _ _ (by rw [hlen]; exact hi)) a_add (fun _ _ _ => rfl)
      rw [Int.toNat_natCast] at this
      rw [List.map_set]; exact this
    have fin : ∀ {b : Bool} {rr : List Int} {X : List Int × Bool}, X = (rr, b) → TurnK (fun vv mm => vv = vR2 v S ta X.2 D rem c ∧ mm = [(D, X.1.map .int)]) (· = .next (vR2 v S ta (lrFold S rem c r v.length).2 D rem c) [(D, ((lrFold S rem c r v.length).1).map .int)]) (.next (("reps_sum", .int s.1.sum) :: ("i", .int (i : Int)) :: vR2 v S ta b D rem c) [(D, rr.map .int)]) := by
      intro b rr X e
      subst e
      exact ⟨_, _, by walk_at "sub", List.Sublist.refl _, rfl, rfl⟩
    refine exs_cons (ex_if (x := (s.1.sum == (S : Int)) && decide (rem.getD i 0 ≥ c)) (tr_and2 (tr_cmp (ev_name rfl rfl) (ev_name rfl rfl) rfl c_eq) fun _ => tr_cmp hri (ev_name rfl rfl) rfl c_ge) (fun e => ?_) (fun e => ?_)) (fun v m e => exs_nil e) (fun o e _ => e)
    · rw [if_pos e]
      refine exs_cons (K' := fun o => ∃ vv, o = .next vv [(D, s.1.map .int)] ∧ Sub (vR2 v S ta true D rem c) vv) (ex_if (x := !s.2) (tr_not (tr_name_bool rfl rfl fun _ => rfl)) (fun e2 => exs_set ev_bool (st' _ rfl) rfl rfl rfl (exs_nil ⟨_, rfl, by walk_at "sub"⟩)) (fun e2 => exs_nil ⟨_, rfl, ?_⟩)) (fun v m ⟨vv, e, h⟩ => by cases e; exact exs_nil ⟨_, _, h, List.Sublist.refl _, rfl, rfl⟩) (fun o ⟨vv, e, _⟩ hn => absurd e (hn _ _))
      have : s.2 = true := by simpa using e2
      rw [this]; walk_at "sub"
    · rw [if_neg (by rw [e]; decide)]
      refine exs_cons (ex_if (x := decide (s.1.sum < (S : Int)) && decide (rem.getD i 0 > c)) (tr_and2 (tr_cmp (ev_name rfl rfl) (ev_name rfl rfl) rfl c_lt) fun _ => tr_cmp hri (ev_name rfl rfl) rfl c_gt) (fun e => ?_) (fun e => ?_)) (fun v m e => exs_nil e) (fun o e _ => e)
      · rw [if_pos e]
        exact exs_next hinc (exs_nil (fin rfl))
      · rw [if_neg (by rw [e]; decide)]
        refine exs_cons (ex_if (x := decide (s.1.sum < (S : Int)) && (rem.getD i 0 == c)) (tr_and2 (tr_cmp (ev_name rfl rfl) (ev_name rfl rfl) rfl c_lt) fun _ => tr_cmp hri (ev_name rfl rfl) rfl c_eq) (fun e => ?_) (fun e => ?_)) (fun v m e => exs_nil e) (fun o e _ => e)
        · rw [if_pos e]
          exact exs_next hinc (exs_nil (fin rfl))
        · rw [if_neg (by rw [e]; decide)]
          exact exs_nil (fin rfl)
  · rintro vv mm ⟨rfl, rfl⟩; rfl

theorem lr_spec {a : Addr} {T C : Addr} {oT : Obj} {dv : Value} {nT : Nat} {v : List Int} {S B : Nat} {ta : Bool} (N : Names W) (X : ta = false → OwnX W "TiesException" C) (DA : DefAt W p1 "largest_remainder" a (.ref T)) (hT : W.base.get? T = some oT) (hTd : oT.data = .seq #[dv] nT) (P : LrPre v S B) :
    FnP W (ta = false) (.ref a) 1 [listI v, .int S, .bool ta] (fun d => (ta = false → lrTie v S = false) ∧ d = listI (lrF v S)) (fun x => ta = false ∧ lrTie v S = true ∧ x = .ref C) := by
  obtain ⟨hm, kV, doc, pm, an, cdv, ct, F⟩ := DA
  refine fn_introP (fun _ h => h.1) N.ok F [("votes", listI v), ("seats", .int S), ("tiesallowed", .bool ta)] ["votes", "seats", "tiesallowed"] rfl (by show paramsOk (scopeOf p1 "largest_remainder") _ = true; decide +kernel) (by decide +kernel) ?_ ?_
  · intro g h t us kb kg is
    cases is with
    | cons i1 is => cases is with
      | cons i2 is => cases is with
        | cons i3 is =>
          cases is
          exact ⟨_, BindsTo.of_defaults rfl (kb _ _ hT) hTd rfl rfl, .cons i1 (.cons i2 (.cons i3 .nil))⟩
  · intro A hid L outer ao FX hs
    have E : EnvOk (rEnv p1 a L (.ref T) kV doc pm an cdv ct) := ⟨rfl, rfl, rfl⟩
    have st : ∀ x, ((scopeOf p1 "largest_remainder").names.lookup x == some .local || (scopeOf p1 "largest_remainder").names.lookup x == some .cell) = true → Sto hid (rEnv p1 a L (.ref T) kV doc pm an cdv ct) x := fun x h => hs x (by
      rw [Bool.or_eq_true, beq_iff_eq, beq_iff_eq] at h; exact h)
    have loc : ∀ {D : Addr} {r : List PV} {mm : Mu}, AsList ((D, r) :: mm) (.loc D) r := fun {D r mm} => .inr ⟨D, rfl, .head _⟩
    have hn := P.n63
    have hS0 : (S : Int) ≠ 0 := by have := P.s1; (first | lia | omega)
    have hT0 : v.sum ≠ 0 := Int.ne_of_gt P.sum
    have hSs : ((S : Nat) : Int).natAbs < 2 ^ 100 := by rw [Int.natAbs_natCast]; exact P.sS
    have inj : ∀ a b : Int, PV.tup [.int (a * (S : Int)), .int v.sum] = PV.tup [.int (b * (S : Int)), .int v.sum] → a = b := fun a b h => by
      injection h with h; injection h with h1 _; injection h1 with h1
      exact Int.eq_of_mul_eq_mul_right hS0 h1
    have hB := P.hB
    show Exs _ _ _ _ _ _ ((bodyOf p1 "largest_remainder").getD 0 (.Pass default) :: (bodyOf p1 "largest_remainder").drop 1) _
    refine exs_skip (by
      rw [show false = ((S : Int) == 0) from (beq_eq_false_iff_ne.mpr hS0).symm]
      exact tr_cmp (ev_name rfl rfl) ev_int rfl c_eq) ?_
    show Exs _ _ _ _ _ _ ((bodyOf p1 "largest_remainder").getD 1 (.Pass default) :: (bodyOf p1 "largest_remainder").getD 2 (.Pass default) :: (bodyOf p1 "largest_remainder").getD 3 (.Pass default) :: (bodyOf p1 "largest_remainder").getD 4 (.Pass default) :: (bodyOf p1 "largest_remainder").drop 5) _
    refine exs_set (d := .list (v.map fun p => .tup [.int (p * (S : Int)), .int v.sum])) ?_ (st _ rfl) rfl rfl rfl ?_
    · exact EvNew.ev (evnew_compA (α := Int) (mk := .int) (xs := v) (f := fun p => .tup [.int (p * (S : Int)), .int v.sum]) (d := listI v) (vars' := [("votes", listI v), ("seats", .int S)]) (tv := fun p => [("p", .int p), ("votes", listI v), ("seats", .int S)])
        ⟨inj_int, ao.handled, rfl, ev_name rfl rfl, .list AsList.list, ⟨rfl, rfl, by decide⟩, by walk_at "over", fun _ => rfl, .any fun _ _ => rfl, le5 hn, fun hid' C x _ o => tgt_name (store_own hid' rfl) rfl rfl, fun hid' C x hx => ev_tup2 (ev_mul (ev_toint N ⟨rfl, rfl, rfl⟩ (ev_name rfl rfl) rfl rfl) (ev_name rfl rfl) (mulOk (P.small x hx) hSs (by (first | lia | omega)))) (ev_toint N ⟨rfl, rfl, rfl⟩ (ev_sum N ⟨rfl, rfl, rfl⟩ ao.handled (ev_name rfl rfl) AsList.list rfl rfl) rfl rfl) rfl rfl, fun x _ => by walk_at "sub"⟩)
    refine exs_own (ds := (lrQ v S).map .int) (ex_own ?_ (st _ rfl) rfl rfl rfl) (fun D => ?_)
    · have e : (lrQ v S).map PV.int = v.map fun p => .int ((p * (S : Int)).fdiv v.sum) := by unfold lrQ; rw [List.map_map]; rfl
      rw [e]
      exact evnew_compA (α := Int) (mk := fun p => .tup [.int (p * (S : Int)), .int v.sum]) (xs := v) (f := fun p => .int ((p * (S : Int)).fdiv v.sum)) (d := .list (v.map fun p => .tup [.int (p * (S : Int)), .int v.sum])) (vars' := []) (tv := fun p => [("qu", .tup [.int (p * (S : Int)), .int v.sum])])
        ⟨inj, ao.handled, rfl, ev_name rfl rfl, .list AsList.list, ⟨rfl, rfl, by decide⟩, .nil, fun _ => rfl, .any fun _ _ => rfl, le5 hn, fun hid' C x _ o => tgt_name (store_own hid' rfl) rfl rfl, fun hid' C x hx => ev_fdiv N.ok ao (ev_pair0 (ev_name rfl rfl) ev_int) (ev_pair1 (ev_name rfl rfl) ev_int) hT0, fun x _ => .nil⟩
    refine exs_set ev_bool (st _ rfl) rfl rfl rfl ?_
    refine exs_cons (K' := fun o => ∃ v', o = .next v' [(D, (lrF v S).map .int)] ∧ Sub (vR v S ta (lrTie v S) D) v') (ex_if (x := decide ((lrQ v S).sum < (S : Int))) (tr_cmp (ev_sum N E ao.handled (ev_name rfl rfl) loc rfl rfl) (ev_name rfl rfl) rfl c_lt) (fun e => ?_) (fun e => ?_)) ?_ (fun o ⟨v', e, _⟩ hn => absurd e (hn _ _))
    · have hlt := of_decide_eq_true e
      have eF : lrF v S = (lrFold S (lrR v S) (lrC v S) (lrQ v S) v.length).1 := if_pos hlt
      have eT : lrTie v S = (lrFold S (lrR v S) (lrC v S) (lrQ v S) v.length).2 := if_pos hlt
      rw [eF, eT]
      have hfl := P.fl
      have hqu : ∀ {hid' : PMap} {env : Env} {vars : Vars} {mu : Mu} {i : Nat} {p1' p2 p3 : Pos}, env.scope.kind = .function → vars.lookup ("quotas" : Str) = some (.list (v.map fun p => .tup [.int (p * (S : Int)), .int v.sum])) → vars.lookup ("i" : Str) = some (.int (i : Int)) → i < v.length →
          Ev W A hid' env vars mu (.Subscript (.Name "quotas" p1') (.Name "i" p2) p3) (.tup [.int (v.getD i 0 * (S : Int)), .int v.sum]) := fun hk h1 h2 hi =>
        ev_nidx (ev_name h1 hk) (ev_name h2 hk) AsList.list (mapLe hn) (by rw [List.getElem?_map, List.getElem?_eq_getElem hi, getD_lt hi]; rfl)
      have eR : (List.range v.length).map (fun i => PV.int (v.getD i 0 * (S : Int) - (lrQ v S).getD i 0 * v.sum)) = (lrR v S).map .int := by
        have : lrR v S = (List.range v.length).map fun i => v.getD i 0 * (S : Int) - (lrQ v S).getD i 0 * v.sum := by
          refine List.ext_getElem (by rw [lrR_len, List.length_map, List.length_range]) fun i h1 h2 => ?_
          rw [lrR_len] at h1
          rw [List.getElem_map, List.getElem_range, ← getD_lt (l := lrR v S)]
          unfold lrR lrQ
          rw [List.getD, List.getElem?_map, List.getD, List.getD, List.getElem?_map, List.getElem?_eq_getElem h1]; rfl
        rw [this, List.map_map]; rfl
      refine exs_next (ex_compA (α := Nat) (mk := fun i => .int (i : Int)) (xs := List.range v.length) (f := fun i => .int (v.getD i 0 * (S : Int) - (lrQ v S).getD i 0 * v.sum)) (vars' := [("quotas", .list (v.map fun p => .tup [.int (p * (S : Int)), .int v.sum])), ("representatives", .loc D)]) (tv := fun i => [("i", .int (i : Int)), ("quotas", .list (v.map fun p => .tup [.int (p * (S : Int)), .int v.sum])), ("representatives", .loc D)])
          ⟨inj_nat, ao.handled, rfl, ev_range1 N E (ev_lenI N E rfl hn rfl rfl) rfl rfl, src_rng (lt61 hn), ⟨rfl, rfl, by decide⟩, by walk_at "over", fun _ => rfl, .any fun _ _ => rfl, by rw [List.length_range]; exact le5 hn, fun hid' C i hi o => tgt_name (store_own hid' rfl) rfl rfl, fun hid' C i hi => ?_, fun i _ => by walk_at "sub"⟩ rfl rfl rfl) ?_
      · have hi := List.mem_range.mp hi
        refine ev_sub (ev_pair0 (hqu rfl rfl rfl hi) ev_int) (ev_mul (ev_iidx (xs := lrQ v S) (ev_name rfl rfl) (ev_name rfl rfl) loc (by rw [lrQ_len]; exact hi) (by rw [lrQ_len]; exact le5 hn)) (ev_pair1 (hqu rfl rfl rfl hi) ev_int) (mulOk (j := 110) (k := B) ?_ P.sums (by (first | lia | omega))))
        have : (lrQ v S).getD i 0 = (v.getD i 0 * (S : Int)).fdiv v.sum := by
          unfold lrQ; rw [List.getD, List.getElem?_map, List.getD, List.getElem?_eq_getElem hi]; rfl
        rw [this, getD_lt hi]
        exact P.hq _ (List.getElem_mem hi)
      rw [eR]
      refine exs_set (d := .int (lrC v S)) ?_ (st _ rfl) rfl rfl rfl ?_
      · have hsl : (sortI (lrR v S)).length = v.length := (sortI_len _).trans lrR_len
        have h1 : -(v.length : Int) ≤ (lrQ v S).sum - (S : Int) := by (first | lia | omega)
        have h2 : (lrQ v S).sum - (S : Int) < v.length := by (first | lia | omega)
        have hi : idx ((lrQ v S).sum - (S : Int)) v.length < v.length := by unfold idx; split <;> (first | lia | omega)
        refine ev_idx (l := (sortI (lrR v S)).map .int) (ev_sorted N E (ev_name rfl rfl) AsList.list (by rw [lrR_len]; exact Nat.lt_succ_of_le hn) rfl rfl) (ev_sub (ev_sum N E ao.handled (ev_name rfl rfl) loc rfl rfl) (ev_name rfl rfl)) AsList.list (by rw [List.length_map, hsl]; exact h1) (by rw [List.length_map, hsl]; exact h2) (by rw [List.length_map, hsl]; exact lt62 hn) ?_
        rw [List.length_map, hsl, getD_map_int _ _ (by rw [hsl]; exact hi)]; rfl
      refine run_forget (v' := vR2 v S ta false D (lrR v S) (lrC v S)) (by walk_at "sub") (List.Sublist.refl _) ?_
      exact exs_next (lr_loop N ao hn lrQ_len lrR_len hs) (exs_nil ⟨_, rfl, by walk_at "sub"⟩)
    · have h1 : lrF v S = lrQ v S := if_neg (of_decide_eq_false e)
      have h2 : lrTie v S = false := if_neg (of_decide_eq_false e)
      rw [h1, h2]
      exact exs_nil ⟨_, rfl, by walk_at "sub"⟩
    · rintro vv mm ⟨v', e, hsub⟩
      cases e
      refine run_forget hsub (List.Sublist.refl _) ?_
      have h5 : (bodyOf p1 "largest_remainder").drop 5 = (bodyOf p1 "largest_remainder").getD 5 (.Pass default) :: (bodyOf p1 "largest_remainder").getD 6 (.Pass default) :: [] := rfl
      rw [h5]
      refine exs_cons (K' := fun o => ((ta = false → lrTie v S = false) ∧ o = .next (vR v S ta (lrTie v S) D) [(D, (lrF v S).map .int)]) ∨ (ta = false ∧ lrTie v S = true ∧ ∃ v m, o = .exc (.ref C) v m)) (ex_if (x := lrTie v S && !ta) (tr_and2 (tr_name_bool rfl rfl fun _ => rfl) fun _ => tr_not (tr_name_bool rfl rfl fun _ => rfl)) (fun e => ?_) (fun e => exs_nil (.inl ⟨fun h => ?_, rfl⟩))) ?_ ?_
      · rw [Bool.and_eq_true, Bool.not_eq_true'] at e
        exact exs_cons (ex_raise N.ok (X e.2) (FX e.2) ao.handled (gname_g E (X e.2).own.bound rfl (by decide +kernel)) ev_str rfl) (fun v m e => nomatch e) (fun o q _ => .inr ⟨e.2, e.1, _, _, q⟩)
      · rw [h] at e; simpa using e
      · rintro v2 m2 (⟨h, e⟩ | ⟨_, _, _, _, e⟩)
        · cases e
          exact exs_cons (ex_retloc (ev_name rfl rfl) (.head _)) (fun v m e => nomatch e) (fun o q _ => .inl ⟨_, ⟨h, rfl⟩, q⟩)
        · cases e
      · rintro o (⟨_, e⟩ | ⟨h1, h2, v2, m2, e⟩) hn
        · exact absurd e (hn _ _)
        · exact .inr ⟨_, v2, m2, ⟨h1, h2, rfl⟩, e⟩
end
end Mine
end

section
open PySem PySem.W PyProof.Rows PySem.Calls PySem.SeqAt
set_option linter.unusedVariables false
set_option maxRecDepth 100000
namespace Mine
section
variable {W : Wk} {A : Around} {hid : PMap} {env : Env} {vars : Vars} {mu : Mu} {K K' : Out → Prop}

theorem tr_eq {e : Expr} {b c : Bool} (h : c = b) (x : Tr W A hid env vars mu e c) : Tr W A hid env vars mu e b := by rw [← h]; exact x
theorem ev_eq {e : Expr} {b c : PV} (h : c = b) (x : Ev W A hid env vars mu e c) : Ev W A hid env vars mu e b := by rw [← h]; exact x
theorem evnew_or {a b : Expr} {pos : Pos} {da db : List PV} (hl : da.length < 2 ^ 62) (ha : EvNew W A hid env vars mu a da) (hb : da = [] → EvNew W A hid env vars mu b db) (he : da ≠ [] → db = da) : EvNew W A hid env vars mu (.BoolOp .Or [a, b] pos) db := fun g h t Q E R k => by
  show wpAny _ _ (boolOp pos .Or [eval a env, eval b env]) _ _ _
  unfold boolOp
  refine wpAny_bind (ha g h t _ E R fun D g1 h1 t1 l1 R1 N => ?_)
  obtain ⟨L, vs, n, e, i⟩ := N
  have hs : vs.size < 2 ^ 62 := by have := i.length; simp at this; (first | lia | omega)
  refine wpAny_bind (wpAny_standAt (wpAny_bind (wpAny_holding (truthy_list (vs := vs) ⟨_, e, rfl, n, rfl⟩ i hs fun t' => ?_))))
  cases da with
  | nil =>
    show wpAny _ _ (boolOp pos .Or [eval b env]) _ _ _
    exact hb rfl g1 h1 t' Q E R1 fun D2 g2 h2 t2 l2 R2 N2 => k D2 g2 h2 t2 (l1.trans l2) R2 N2
  | cons d r =>
    have := he (by simp)
    subst this
    exact wpAny_pure (k D g1 h1 t' l1 R1 ⟨L, vs, n, e, i⟩)

theorem run_seal {t : Sem Flow} {x : Str} {a : Addr} {l : List PV} {v' : Vars} {m' : Mu} (hm : (a, l) ∈ mu) (hx : vars.lookup x = some (.loc a)) (hs : Sub v' vars) (hmu : m'.Sublist (mu.filter (·.1 != a))) (h : Run W A hid env ((x, .list l) :: v') m' t K) : Run W A hid env vars mu t K := fun g hp tk R => by
  obtain ⟨o, R2, l2, i2⟩ := R.freezeLoc hm
  obtain ⟨u, iu, hd, hv⟩ := R.vs x _ hx
  cases iu
  have R3 : Rep W hid (ins g a o) env ((x, .list l) :: v') m' hp := by
    have R4 := R2.forget hs hmu
    refine ⟨R4.bs, R4.gs, R4.hs, R4.gh, R4.ns, fun y e q => ?_, R4.gL, R4.hL, R4.cell, R4.cnd, R4.mus, R4.mnd⟩
    by_cases hy : y = x
    · subst hy
      rw [lookup_cons_eq] at q
      cases q
      exact ⟨_, i2, hd, hv⟩
    · rw [lookup_cons_ne hy] at q
      exact R4.vs y e q
  exact wpAny_mono (h _ hp tk R3) (fun f s y => y.le l2) fun e s y => y.le l2

theorem EvG.ev {e : Expr} {d : PV} {Kd : PV → Prop} {X : Value → Prop} (h : EvG W A hid env vars mu e Kd X) (hK : ∀ d', Kd d' → d' = d) (hX : ∀ x, ¬ X x) : Ev W A hid env vars mu e d := fun g hp t Q E R k =>
  h g hp t Q E R (fun d' u g' h' t' hd => by have := hK d' hd; subst this; exact k u g' h' t') fun e s y => by
    obtain ⟨_, _, _, _, _, _, _, _, _, _, _, ⟨x, hx, _⟩, _⟩ := y; exact absurd hx (hX x)

theorem op_isinst {d : PV} {l : List PV} (hl : AsList mu d l) : Op W A hid env vars mu [d, .val (.type "list")] (fun us => call (.builtin "isinstance") us) (.bool true) := fun g h t us Q E R i k => by
  cases i with
  | cons i r => cases r with
    | cons j r =>
      cases r; cases j
      obtain ⟨a, vs, rfl, h1, h2⟩ := hl.get R i
      refine call_isinstance_yes (s := W.S h t) (Tx := "list") (T := "list") ?_ F.isi_meta_list AutoSeq1.sub_list_list (k _ g h t (Le.refl g) R .bool)
      obtain ⟨o, e, hc, _⟩ := h1
      exact ⟨o, e, hc⟩

theorem ev_call0 {x : Str} {np pos : Pos} {a : Addr} {fd : FuncData} {o : Obj} {n : Nat} {d : PV} (O : W.Ok) (ao : AOk W A n) (N : GName W env x (.ref a)) (ho : W.base.get? a = some o) (hd : o.data = .func fd) (hf : Fn W (.ref a) n [] d) :
    Ev W A hid env vars mu (.Call (.Name x np) [] [] pos) d := fun g h t Q E R k =>
  Call_Name0 (name_global O N R (callWith_function (o := o) (fd := fd) (evalArgs_nil3 ⟨⟨R.base _ _ ho, hd⟩, by
    refine hf A (rest g [] h) g h t [] _ E (env :: []) ao.zero (fun h => h.elim) ⟨R.bs, R.gs, fun b o e => .of (rest_some e).1, fun b o e => ?_⟩ .nil (fun d' u g2 h2 t2 hK l2 RE2 i2 => ?_) (fun _ _ _ _ _ _ h => h.elim)
    · cases q : rest g [] h b with
      | none => rfl
      | some o' => rw [(rest_some q).2.1] at e; cases e
    · subst hK
      exact k u g2 h2 t2 l2 (R.back l2 RE2 (fun a h => by cases h) (fun a l _ h => by cases h)) i2⟩)))
end
end Mine
end

section
open PySem PySem.W PyProof.Rows PySem.Calls PySem.SeqAt
set_option linter.unusedVariables false
set_option maxRecDepth 100000
namespace Mine

structure LrAt (W : Wk) (lr lrT : Addr) : Prop where
  hlr : DefAt W p1 "largest_remainder" lr (.ref lrT)
  hT : ∃ o v n, W.base.get? lrT = some o ∧ o.data = .seq #[v] n
theorem lr_specD {W : Wk} {lr lrT C : Addr} {v : List Int} {S B : Nat} {ta : Bool} (N : Names W) (X : ta = false → OwnX W "TiesException" C) (H : LrAt W lr lrT) (P : LrPre v S B) :
    FnP W (ta = false) (.ref lr) 1 [listI v, .int S, .bool ta] (fun d => (ta = false → lrTie v S = false) ∧ d = listI (lrF v S)) (fun x => ta = false ∧ lrTie v S = true ∧ x = .ref C) := by
  obtain ⟨o, dv, n, h1, h2⟩ := H.hT
  exact lr_spec N X H.hlr h1 h2 P

section
variable {W : Wk} {A : Around} {hid : PMap} {env : Env} {vars : Vars} {mu : Mu} {K : Out → Prop}

theorem lr_names : ∀ nm : Str, nm ∈ lrNames → (nm == ("quota" : Str)) = false ∧ lrNames.any (· == nm) = true := by decide +kernel

set_option maxHeartbeats 400000 in
theorem cp_lr (D : Defs W) {C lr lrT : Addr} {v : List Int} {S B : Nat} {nm : Str} {ta : Bool} {args : List PV} (X : ta = false → OwnX W "TiesException" C) (H : LrAt W lr lrT) (hr : nm ∈ lrNames) (P : LrPre v S B) (ca : CpArgs nm v S ta args) :
    FnP W (ta = false) (.ref D.cp) 2 args (fun d => (ta = false → lrTie v S = false) ∧ d = listI (lrF v S)) (fun x => ta = false ∧ lrTie v S = true ∧ x = .ref C) := by
  have N := D.nm
  obtain ⟨n1, n2⟩ := lr_names nm hr
  have DC := D.hcp
  obtain ⟨hm, kV, doc, pm, an, cdv, ct, F⟩ := DC
  refine fn_introP (fun _ h => h.1) N.ok F (cpVars nm v S ta) ["method", "votes", "seats", "threshold", "tiesallowed"] rfl (by show paramsOk (scopeOf p1 "compute") _ = true; decide +kernel) (by decide +kernel) (fun g h t us kb kg is => cp_binds D ca kb is) ?_
  intro A hid L outer ao FX hs
  refine exs_next (ex_assign (ev_call_def N ⟨rfl, rfl, rfl⟩ ao D.hat rfl (by decide +kernel) (by walk_at "args") (at_spec D _) rfl) (hs _ (.inl rfl)) rfl rfl rfl) ?_
  refine exs_cons (ex_if (x := (nm == ("quota" : Str))) (tr_cmp (ev_name rfl rfl) ev_str rfl c_eqs) (fun e => by rw [n1] at e; cases e) (fun _ => ?_)) (fun v m e => absurd rfl (not_next e)) (fun o e _ => e)
  refine exs_cons (ex_if (x := lrNames.any (· == nm)) ?_ (fun e => ?_) (fun e => by rw [n2] at e; cases e)) (fun v m e => absurd rfl (not_next e)) (fun o e _ => e)
  · refine ev_in (ns := lrNames) (d := .list (lrNames.map PV.str)) (ev_name rfl rfl) ?_ ?_ rfl
    · refine ev_list ?_ ?_
      · iterate 3 refine evargs_str ?_
        exact evargs_nil
      · exact Nat.le_of_ble_eq_true rfl
    · exact AsList.list
  refine exs_cons (ex_retG (ev_call_defG N ⟨rfl, rfl, rfl⟩ ao FX (fun _ h => h.1) H.hlr rfl (by decide +kernel) (by walk_at "args") (lr_specD N X H P) rfl)) ?_ ?_
  · rintro v m (⟨_, _, e⟩ | ⟨_, _, e⟩) <;> cases e
  · rintro o (e | ⟨x, hx, e⟩) _
    · exact .inl e
    · exact .inr ⟨x, _, _, hx, e⟩
end
end Mine
end

section
open PySem PySem.W PyProof.Rows PySem.Calls PySem.SeqAt
set_option linter.unusedVariables false
set_option maxRecDepth 100000
namespace Mine

def tieV (b : Bool) (a : List Int) : PV := if b then .str "tie" else listI a
def tieD (b : Bool) (a : List Int) : PyData := if b then .str "tie" else .list (a.map .int)
theorem tie_dat {mu : Mu} {b : Bool} {a : List Int} : Dat mu (tieV b a) (tieD b a) := by
  cases b
  · exact .nums AsList.list
  · exact .str (by decide +kernel)
def names4 : List Str := ["largest_remainder", "hamilton", "lrm"]

section
variable {W : Wk} {A : Around} {hid : PMap} {env : Env} {vars : Vars} {mu : Mu} {K : Out → Prop}

theorem names_spec {a : Addr} (N : Names W) (DA : DefAt W p1 "_law_names" a .none) : Fn W (.ref a) 1 [] (strsV names4) := by
  obtain ⟨hm, kV, doc, pm, an, cdv, ct, F⟩ := DA
  refine fn_intro N.ok F [] [] rfl rfl (by decide) ?_ ?_
  · intro g h t us kb kg is
    cases is
    exact ⟨_, BindsTo.of_eq rfl, .nil⟩
  · intro A hid L ao hs
    refine exs_ret (d := strsV names4) (ev_list ?_ ?_) (.inl rfl)
    · iterate 3 refine evargs_str ?_
      exact evargs_nil
    · exact Nat.le_of_ble_eq_true rfl

abbrev vTold (v : List Int) (S way : Nat) (ta : Bool) : Vars := [("given", listI v), ("way", .int (way : Int)), ("votes", listI v), ("seats", .int (S : Int)), ("ties", .bool ta)]
set_option maxHeartbeats 400000 in
theorem told_spec {a na lr lrT C : Addr} {v : List Int} {S B way : Nat} {ta : Bool} (D : Defs W) (X : OwnX W "TiesException" C) (DN : DefAt W p1 "_law_names" na .none) (H : LrAt W lr lrT) (DA : DefAt W p1 "_law_told" a .none) (hw : way < 4) (P : LrPre v S B) :
    FnG W (.ref a) 3 [.int (way : Int), listI v, .int (S : Int), .bool ta] (· = tieV (!ta && lrTie v S) (lrF v S)) (fun _ => False) := by
  have N := D.nm
  obtain ⟨hm, kV, doc, pm, an, cdv, ct, F⟩ := DA
  refine fn_introX N.ok F [("way", .int (way : Int)), ("votes", listI v), ("seats", .int (S : Int)), ("ties", .bool ta)] ["way", "votes", "seats", "ties"] rfl (by show paramsOk (scopeOf p1 "_law_told") _ = true; decide +kernel) (by decide +kernel) ?_ ?_
  · intro g h t us kb kg is
    cases is with
    | cons i1 is => cases is with
      | cons i2 is => cases is with
        | cons i3 is => cases is with
          | cons i4 is =>
            cases is
            exact ⟨_, BindsTo.of_eq rfl, .cons i1 (.cons i2 (.cons i3 (.cons i4 .nil)))⟩
  · intro A hid L outer ao FX hs
    have E : EnvOk (fEnv (fnOf "_law_told" "_law_told" (argsOf p1 "_law_told") (bodyOf p1 "_law_told") (scopeOf p1 "_law_told") .none kV doc pm an cdv ct) a L) := ⟨rfl, rfl, rfl⟩
    have hn := P.n63
    have ao1 : AOk W A 1 := ao.less (by decide)
    refine exs_set (d := listI v) (ev_copy (ev_name rfl rfl) AsList.list (mapLe hn)) (hs _ (.inl rfl)) rfl rfl rfl ?_
    have fin : ∀ {o : Out}, ((∃ d, ((ta = false → lrTie v S = false) ∧ d = listI (lrF v S)) ∧ o = .next (("told", d) :: vTold v S way ta) []) ∨ (∃ x, (ta = false ∧ lrTie v S = true ∧ x = .ref C) ∧ o = .exc x (vTold v S way ta) [])) →
        ((ta = false → lrTie v S = false) ∧ o = .next (("told", listI (lrF v S)) :: vTold v S way ta) []) ∨ (ta = false ∧ lrTie v S = true ∧ o = .exc (.ref C) (vTold v S way ta) []) := by
      rintro o (⟨d, ⟨h1, rfl⟩, e⟩ | ⟨x, ⟨h1, h2, rfl⟩, e⟩)
      · exact .inl ⟨h1, e⟩
      · exact .inr ⟨h1, h2, e⟩
    refine exs_cons (K' := (· = .next (("told", tieV (!ta && lrTie v S) (lrF v S)) :: vTold v S way ta) []))
      (ex_tryX (K' := fun o => ((ta = false → lrTie v S = false) ∧ o = .next (("told", listI (lrF v S)) :: vTold v S way ta) []) ∨ (ta = false ∧ lrTie v S = true ∧ o = .exc (.ref C) (vTold v S way ta) [])) (K2 := fun o => (ta = false ∧ lrTie v S = true) ∧ o = .next (("told", .str "tie") :: vTold v S way ta) [])
        N.ok X FX (gname_g E X.own.bound rfl (by decide +kernel)) ?_ ?_ ?_ ?_ ?_) ?_ ?_
    · refine exs_cons (ex_if (x := ((way : Int) == 3)) (tr_cmp (ev_name rfl rfl) ev_int rfl c_eq) (fun e => ?_) (fun e => ?_)) (fun v' m' e => exs_nil e) (fun o e _ => e)
      · exact exs_cons (ex_assignG (ev_call_defG N E ao1 (fun _ => FX) (fun _ _ => trivial) H.hlr rfl (by decide +kernel) (by walk_at "args") ((lr_specD N (fun _ => X) H P).imp (fun _ => trivial) (fun _ h => h) (fun _ h => h)) rfl) (hs _ (.inl rfl)) rfl rfl rfl) (fun v' m' e => exs_nil (fin e)) (fun o e _ => fin e)
      · have hw3 : way < 3 := by
          rw [beq_eq_false_iff_ne] at e; (first | lia | omega)
        have hnm : names4[way]? = some (names4.getD way "") := by rw [List.getD, List.getElem?_eq_getElem (show way < names4.length from hw3)]; rfl
        have hmem : names4.getD way "" ∈ lrNames := by
          rcases (show way = 0 ∨ way = 1 ∨ way = 2 by (first | lia | omega)) with rfl | rfl | rfl <;> decide
        refine exs_cons (ex_assignG (ev_call_defG N E ao (fun _ => FX) (fun _ _ => trivial) D.hcp rfl (by decide +kernel) (ds := [.str (names4.getD way ""), listI v, .int (S : Int), .none, .bool ta]) ?_ ((cp_lr D (fun _ => X) H hmem P .five).imp (fun _ => trivial) (fun _ h => h) (fun _ h => h)) rfl) (hs _ (.inl rfl)) rfl rfl rfl) (fun v' m' e => exs_nil (fin e)) (fun o e _ => fin e)
        refine evargs_cons ?_ (by walk_at "args") rfl
        obtain ⟨hmn, kV', doc', pm', an', cdv', ct', Fn'⟩ := DN
        obtain ⟨o, ho, hd⟩ := Fn'.obj
        refine ev_nidx (l := names4.map .str) (ev_call0 N.ok ao1 (gname_g E hmn rfl (by decide +kernel)) ho hd (names_spec N ⟨hmn, kV', doc', pm', an', cdv', ct', Fn'⟩)) (ev_name rfl rfl) AsList.list (by decide) ?_
        rw [List.getElem?_map, hnm]; rfl
    · rintro o (⟨h1, e⟩ | ⟨_, _, e⟩) hn
      · have : (!ta && lrTie v S) = false := by
          cases ta
          · rw [h1 rfl]; rfl
          · rfl
        rw [this]; exact e
      · exact absurd e (hn _ _ _)
    · rintro y v' m' (⟨_, e⟩ | ⟨h1, h2, e⟩)
      · cases e
      · cases e
        exact ⟨rfl, fun _ => exs_set ev_str (hs _ (.inl rfl)) rfl rfl rfl (exs_nil ⟨⟨h1, h2⟩, rfl⟩)⟩
    · rintro o ⟨⟨h1, h2⟩, e⟩
      subst h1
      rw [h2]; exact e
    · rintro y v' m' ⟨_, e⟩; cases e
    · rintro v' m' e
      cases e
      refine exs_ret (d := tieV (!ta && lrTie v S) (lrF v S)) (ev_if (x := true) ?_ (fun _ => ev_name rfl rfl) (fun e => nomatch e)) (.inl ⟨_, rfl, rfl⟩)
      have := c_eql' (W := W) (A := A) (hid := hid) (env := fEnv (fnOf "_law_told" "_law_told" (argsOf p1 "_law_told") (bodyOf p1 "_law_told") (scopeOf p1 "_law_told") .none kV doc pm an cdv ct) a L) (vars := ("told", tieV (!ta && lrTie v S) (lrF v S)) :: vTold v S way ta) (mu := []) (d := listI v) (e := listI v) (ns := v) (ms := v) ao AsList.list AsList.list
      rw [decide_eq_true rfl] at this
      exact tr_cmp (ev_name rfl rfl) (ev_name rfl rfl) rfl this
    · rintro o e hn; exact absurd e (hn _ _)
end
end Mine
end

section
open PySem PySem.W PyProof.Rows PySem.Calls PySem.SeqAt
set_option linter.unusedVariables false
set_option maxRecDepth 100000
namespace Mine

theorem le_sum {l : List Int} (h : ∀ x ∈ l, 0 ≤ x) : ∀ x ∈ l, x ≤ l.sum := by
  induction l with
  | nil => intro x hx; cases hx
  | cons y r ih =>
    intro x hx
    have h1 := sum_nonneg fun z hz => h z (List.mem_cons_of_mem _ hz)
    have h2 := h y List.mem_cons_self
    rw [List.sum_cons]
    rcases List.mem_cons.mp hx with rfl | hx
    · (first | lia | omega)
    · have := ih (fun z hz => h z (List.mem_cons_of_mem _ hz)) x hx; (first | lia | omega)
theorem lr_preN {v : List Int} {S B : Nat} (s1 : 1 ≤ S) (sS : S < 2 ^ 100) (n1 : 1 ≤ v.length) (n63 : v.length ≤ 63) (nn : ∀ p ∈ v, 0 ≤ p) (pos : 0 < v.sum) (sm : v.sum < 2 ^ B) (hB : B ≤ 10 ^ 7) : LrPre v S B := by
  have hle := le_sum nn
  have ex : ((2 ^ B : Nat) : Int) = 2 ^ B := by rw [Int.natCast_pow]; rfl
  refine ⟨s1, sS, n1, n63, pos, fun p hp => ?_, ?_, ?_, fun p hp => ?_, hB⟩
  · have := hle p hp; have := nn p hp; (first | lia | omega)
  · (first | lia | omega)
  · obtain ⟨k, h1, h2, _⟩ := lr_k (S := S) pos; (first | lia | omega)
  · have h1 := hle p hp
    have h2 := nn p hp
    have h3 : p * (S : Int) ≤ v.sum * (S : Int) := Int.mul_le_mul_of_nonneg_right h1 (by (first | lia | omega))
    have h4 : 0 ≤ (p * (S : Int)).fdiv v.sum := Int.fdiv_nonneg (Int.mul_nonneg h2 (by (first | lia | omega))) (by (first | lia | omega))
    have h5 := rem_range (a := p * (S : Int)) pos
    have h6 : (p * (S : Int)).fdiv v.sum ≤ (S : Int) := by
      refine Int.not_lt.mp fun q => ?_
      have : ((S : Int) + 1) * v.sum ≤ (p * (S : Int)).fdiv v.sum * v.sum := Int.mul_le_mul_of_nonneg_right (by (first | lia | omega)) (by (first | lia | omega))
      rw [Int.add_mul, Int.one_mul, Int.mul_comm (S : Int)] at this
      (first | lia | omega)
    have : (2 : Nat) ^ 100 < 2 ^ 110 := by decide
    (first | lia | omega)

def p4 (ns : List Int) : Int := max 1 (min 5 ((((ns.length : Nat) : Int) - 1).fdiv 2))
def w4 (ns : List Int) : List Int := (sliceP ns (some 1) (some (1 + p4 ns))).map fun x => (x.natAbs : Int)
def u4 (ns : List Int) : List Int := if w4 ns = [] then [1] else w4 ns
def v4 (ns : List Int) : List Int := if (u4 ns).sum = 0 then (u4 ns).set 0 1 else u4 ns
theorem p4_rng (ns : List Int) : ∃ k : Nat, p4 ns = (k : Int) ∧ 1 ≤ k ∧ k ≤ 5 := ⟨(p4 ns).toNat, by unfold p4; (first | lia | omega), by unfold p4; (first | lia | omega), by unfold p4; (first | lia | omega)⟩
theorem w4_len (ns : List Int) : (w4 ns).length ≤ 5 := by
  obtain ⟨k, e, h1, h2⟩ := p4_rng ns
  unfold w4
  rw [List.length_map, e]
  have := sliceP_len ns 1 (1 + k)
  have e2 : (((1 + k : Nat)) : Int) = 1 + (k : Int) := by (first | lia | omega)
  rw [e2] at this
  have e3 : ((1 : Nat) : Int) = 1 := rfl
  rw [e3] at this
  (first | lia | omega)

structure Set4 (v : List Int) (S way B : Nat) : Prop where
  n1 : 1 ≤ v.length
  n5 : v.length ≤ 5
  nn : ∀ p ∈ v, 0 ≤ p
  pos : 0 < v.sum
  sm : v.sum < 2 ^ B
  hB : B ≤ 2 ^ 20 + 4
  s1 : 1 ≤ S
  s7 : S ≤ 7
  hw : way < 4
theorem sum_small : ∀ {l : List Int} {c : Int}, (∀ x ∈ l, x ≤ c) → l.sum ≤ c * (l.length : Int)
  | [], c, _ => by simp
  | x :: r, c, h => by
    have := sum_small (c := c) fun z hz => h z (List.mem_cons_of_mem x hz)
    have := h x List.mem_cons_self
    rw [List.sum_cons, List.length_cons, Int.natCast_add, Int.mul_add]; simp; (first | lia | omega)
theorem u4_ok {ns : List Int} {B : Nat} (h : ∀ x ∈ ns, x.natAbs < 2 ^ B) : 1 ≤ (u4 ns).length ∧ (u4 ns).length ≤ 5 ∧ ∀ p ∈ u4 ns, 0 ≤ p ∧ p ≤ 2 ^ B := by
  have ex : ((2 ^ B : Nat) : Int) = 2 ^ B := by rw [Int.natCast_pow]; rfl
  have h1 : 1 ≤ 2 ^ B := Nat.one_le_two_pow
  unfold u4
  split
  · exact ⟨by decide, by decide, fun p hp => by rw [List.mem_singleton] at hp; subst hp; (first | lia | omega)⟩
  · rename_i q
    refine ⟨List.length_pos_iff.mpr q, w4_len ns, fun p hp => ?_⟩
    unfold w4 at hp
    obtain ⟨x, hx, rfl⟩ := List.mem_map.mp hp
    have := h x (sliceP_mem hx)
    (first | lia | omega)
theorem sum_zero : ∀ {l : List Int}, (∀ x ∈ l, 0 ≤ x) → l.sum = 0 → ∀ x ∈ l, x = 0
  | [], _, _ => fun x hx => by cases hx
  | y :: r, h1, h2 => fun x hx => by
    have h3 := sum_nonneg fun z hz => h1 z (List.mem_cons_of_mem _ hz)
    have h4 := h1 y List.mem_cons_self
    rw [List.sum_cons] at h2
    rcases List.mem_cons.mp hx with rfl | hx
    · (first | lia | omega)
    · exact sum_zero (fun z hz => h1 z (List.mem_cons_of_mem _ hz)) (by (first | lia | omega)) x hx
theorem v4_ok {ns : List Int} {B : Nat} (h : ∀ x ∈ ns, x.natAbs < 2 ^ B) : 1 ≤ (v4 ns).length ∧ (v4 ns).length ≤ 5 ∧ (∀ p ∈ v4 ns, 0 ≤ p) ∧ 0 < (v4 ns).sum ∧ (v4 ns).sum < 2 ^ (B + 3) := by
  obtain ⟨h1, h5, hp⟩ := u4_ok h
  have ex : ((2 ^ B : Nat) : Int) = 2 ^ B := by rw [Int.natCast_pow]; rfl
  have e8 : (2 : Int) ^ (B + 3) = 2 ^ B * 8 := by rw [Int.pow_add]; rfl
  have hb : 1 ≤ 2 ^ B := Nat.one_le_two_pow
  have hb : (1 : Int) ≤ 2 ^ B := by (first | lia | omega)
  have hs := sum_small (c := 2 ^ B) fun x hx => (hp x hx).2
  have h0 := sum_nonneg fun x hx => (hp x hx).1
  unfold v4
  generalize u4 ns = u at *
  rw [e8]
  show 1 ≤ (if u.sum = 0 then u.set 0 1 else u).length ∧ (if u.sum = 0 then u.set 0 1 else u).length ≤ 5 ∧ (∀ p ∈ (if u.sum = 0 then u.set 0 1 else u), 0 ≤ p) ∧ 0 < (if u.sum = 0 then u.set 0 1 else u).sum ∧ (if u.sum = 0 then u.set 0 1 else u).sum < 2 ^ B * 8
  have hm : 2 ^ B * ((u.length : Nat) : Int) ≤ 2 ^ B * 5 := Int.mul_le_mul_of_nonneg_left (by (first | lia | omega)) (by (first | lia | omega))
  by_cases q : u.sum = 0
  · rw [if_pos q]
    cases u with
    | nil => cases h1
    | cons x r =>
      have z := sum_zero (fun x hx => (hp x hx).1) q
      have zr : r.sum = 0 := by rw [List.sum_cons, z x List.mem_cons_self] at q; (first | lia | omega)
      refine ⟨h1, h5, fun p h => ?_, ?_, ?_⟩
      · rcases List.mem_cons.mp h with rfl | h
        · decide
        · exact (hp p (List.mem_cons_of_mem _ h)).1
      · rw [List.set_cons_zero, List.sum_cons, zr]; decide
      · rw [List.set_cons_zero, List.sum_cons, zr]; (first | lia | omega)
  · rw [if_neg q]
    exact ⟨h1, h5, fun p h => (hp p h).1, by (first | lia | omega), by (first | lia | omega)⟩
end Mine
end

section
open PySem PySem.W PyProof.Rows PySem.Calls PySem.SeqAt
set_option linter.unusedVariables false
set_option maxRecDepth 100000
namespace Mine

section
variable {W : Wk} {A : Around} {hid : PMap} {env : Env} {vars : Vars} {mu : Mu} {K : Out → Prop}
abbrev lEnv (p : Program) (a L : Addr) (dV kV doc pm : Value) (an : Option Addr) (cdv ct : Value) : Env := fEnv (fnOf "law" "law" (argsOf p "law") (bodyOf p "law") (scopeOf p "law") dV kV doc pm an cdv ct) a L
abbrev StoAll (hid : PMap) (env : Env) : Prop := ∀ x, ((scopeOf p1 "law").names.lookup x == some .local || (scopeOf p1 "law").names.lookup x == some .cell) = true → Sto hid env x
theorem stoAll {hid : PMap} {env : Env} (hs : ∀ x, (scopeOf p1 "law").names.lookup x = some .local ∨ (scopeOf p1 "law").names.lookup x = some .cell → Sto hid env x) : StoAll hid env := fun x h => hs x (by
  rw [Bool.or_eq_true, beq_iff_eq, beq_iff_eq] at h; exact h)
theorem StoAll.to {hid hid' : PMap} {env : Env} (s : StoAll hid env) (h : ∀ y, Sto hid env y → Sto hid' env y) : StoAll hid' env := fun x q => h x (s x q)

abbrev vA (v : List Int) (S way : Nat) (hd : Int) (ns : List Int) : Vars := [("way", .int (way : Int)), ("seats", .int (S : Int)), ("parties", .int ((v.length : Nat) : Int)), ("total", .int v.sum), ("votes", listI v), ("head", .int hd), ("script", listI ns)]

theorem law_A {a L : Addr} {dV kV doc pm an cdv ct} {ns : List Int} {B : Nat} {rest : List Stmt} (N : Names W) (ao : AOk W A 0) (hn : ns.length ≤ 63) (hB : ∀ x ∈ ns, x.natAbs < 2 ^ B) (hB2 : B ≤ 2 ^ 20)
    (st : StoAll hid (lEnv p1 a L dV kV doc pm an cdv ct))
    (k : ∀ v S way hd, Set4 v S way (B + 3) → Exs W A hid (lEnv p1 a L dV kV doc pm an cdv ct) (vA v S way hd ns) [] rest K) :
    Exs W A hid (lEnv p1 a L dV kV doc pm an cdv ct) [("script", listI ns)] [] ((bodyOf p1 "law").take 7 ++ rest) K := by
  have E : EnvOk (lEnv p1 a L dV kV doc pm an cdv ct) := ⟨rfl, rfl, rfl⟩
  show Exs _ _ _ _ _ _ ((bodyOf p1 "law").getD 0 (.Pass default) :: (bodyOf p1 "law").getD 1 (.Pass default) :: (bodyOf p1 "law").getD 2 (.Pass default) :: (bodyOf p1 "law").getD 3 (.Pass default) :: (bodyOf p1 "law").getD 4 (.Pass default) :: (bodyOf p1 "law").getD 5 (.Pass default) :: (bodyOf p1 "law").getD 6 (.Pass default) :: rest) K
  generalize hhd : ns.getD 0 0 = hd
  refine exs_set (d := .int hd) (by rw [← hhd]; exact ev_sc0 E rfl hn rfl (fun _ => rfl)) (st _ rfl) rfl rfl rfl ?_
  refine exs_set (d := .int (p4 ns)) (ev_max2 N E ao.handled ev_int (ev_min2 N E ao.handled ev_int (ev_fdiv N.ok ao (ev_sub (ev_lenI N E rfl hn rfl rfl) ev_int) ev_int (by decide)) rfl rfl rfl) rfl rfl rfl) (st _ rfl) rfl rfl rfl ?_
  have hw5 := w4_len ns
  have hu5 := (u4_ok hB).2.1
  have hu1 := (u4_ok hB).1
  refine exs_own (ds := (u4 ns).map .int) (ex_own (evnew_or (da := (w4 ns).map .int) (mapLt (Nat.le_trans hw5 (by decide))) ?_ ?_ ?_) (st _ rfl) rfl rfl rfl) (fun D => ?_)
  · have h : (w4 ns).map PV.int = (sliceP ns (some 1) (some (1 + p4 ns))).map fun x => .int (x.natAbs : Int) := by
      unfold w4; rw [List.map_map]; rfl
    rw [h]
    refine evnew_compA (α := Int) (mk := .int) (xs := sliceP ns (some 1) (some (1 + p4 ns))) (f := fun x => .int (x.natAbs : Int)) (d := listI (sliceP ns (some 1) (some (1 + p4 ns)))) (vars' := []) (tv := fun x => [("number", .int x)])
      ⟨inj_int, ao.handled, rfl, ?_, .list AsList.list, ⟨rfl, rfl, by decide⟩, .nil, fun _ => rfl, .any fun _ _ => rfl, ?_, fun hid' C x _ o => tgt_name (store_own hid' rfl) rfl rfl, fun hid' C x hx => ?_, fun x _ => .nil⟩
    · show Ev _ _ _ _ _ _ _ (.list ((sliceP ns (some 1) (some (1 + p4 ns))).map .int))
      rw [← sliceP_map]
      exact EvNew.ev (evnew_slice (l := ns.map .int) (ev_name rfl rfl) AsList.list (mapLe hn) (.some ev_int) (.some (ev_add ev_int (ev_name rfl rfl))))
    · unfold w4 at hw5
      rw [List.length_map] at hw5
      exact Nat.le_trans hw5 (by decide)
    · exact ev_abs N ⟨rfl, rfl, rfl⟩ (ev_name rfl rfl) rfl rfl
  · intro e
    have e : w4 ns = [] := List.map_eq_nil_iff.mp e
    have : u4 ns = [1] := if_pos e
    rw [this]
    exact evnew_list (evargs_cons ev_int evargs_nil rfl) (Nat.le_of_ble_eq_true rfl)
  · intro e
    have e : w4 ns ≠ [] := fun q => e (by rw [q]; rfl)
    have : u4 ns = w4 ns := if_neg e
    rw [this]
  refine exs_next (v := [("votes", .loc D), ("parties", .int (p4 ns)), ("head", .int hd), ("script", listI ns)]) (m := [(D, (v4 ns).map .int)]) (ex_if (x := ((u4 ns).sum == 0)) (tr_cmp (ev_sum (ns := u4 ns) N E ao.handled (ev_name rfl rfl) (.inr ⟨D, rfl, List.mem_singleton.mpr rfl⟩) rfl rfl) ev_int rfl c_eq) (fun e => ?_) (fun e => ?_)) ?_
  · rw [beq_iff_eq] at e
    have : v4 ns = (u4 ns).set 0 1 := if_pos e
    rw [this, List.map_set]
    exact exs_next (ex_setitem (m1 := []) (m2 := []) ev_int (ev_name rfl rfl) ev_int (Int.le_refl 0) (by rw [List.length_map]; (first | lia | omega)) (mapLe (Nat.le_trans hu5 (by decide))) rfl) (exs_nil rfl)
  · rw [beq_eq_false_iff_ne] at e
    have : v4 ns = u4 ns := if_neg e
    rw [this]
    exact exs_nil rfl
  obtain ⟨q1, q2, q3, q4, q5⟩ := v4_ok hB
  refine run_seal (x := "votes") (v' := [("parties", .int (p4 ns)), ("head", .int hd), ("script", listI ns)]) (m' := []) (List.mem_singleton.mpr rfl) rfl (by walk_at "sub") (List.nil_sublist _) ?_
  generalize v4 ns = v at *
  have hv63 : v.length ≤ 63 := Nat.le_trans q2 (by decide)
  refine exs_next (ex_unpack ao.handled rfl (ev_tuple (ds := [.int v.sum, .int ((v.length : Nat) : Int)]) (evargs_cons (ev_sum N E ao.handled (ev_name rfl rfl) AsList.list rfl rfl) (evargs_cons (ev_lenI N E rfl hv63 rfl rfl) evargs_nil rfl) rfl) (Nat.le_of_ble_eq_true rfl)) (.cons (st _ rfl) rfl (.cons (st _ rfl) rfl .nil)) rfl rfl) ?_
  obtain ⟨s, hs7, es⟩ := fmod_lt hd (show 0 < 7 by decide)
  have es : hd.fmod 7 = (s : Int) := es
  refine exs_set (d := .int ((s + 1 : Nat) : Int)) ?_ (st _ rfl) rfl rfl rfl ?_
  · rw [show ((s + 1 : Nat) : Int) = hd.fmod 7 + 1 by rw [es]; rfl]
    exact ev_add (ev_mod (ev_name rfl rfl) ev_int (by decide)) ev_int
  obtain ⟨w, hw4, ew⟩ := fmod_lt (hd.fdiv 7) (show 0 < 4 by decide)
  have ew : (hd.fdiv 7).fmod 4 = (w : Int) := ew
  refine exs_set (d := .int (w : Int)) (by rw [← ew]; exact ev_mod (ev_fdiv N.ok ao (ev_name rfl rfl) ev_int (by decide)) ev_int (by decide)) (st _ rfl) rfl rfl rfl ?_
  refine run_forget ?_ (List.Sublist.refl _) (k v (s + 1) w hd ⟨q1, q2, q3, q4, q5, by (first | lia | omega), by (first | lia | omega), by (first | lia | omega), hw4⟩)
  walk_at "sub"
end
end Mine
end

section
open PySem PySem.W PyProof.Rows PySem.Calls PySem.SeqAt
set_option linter.unusedVariables false
set_option maxRecDepth 100000
namespace Mine

theorem boot_isi : bootBuiltins "isinstance" = some (.builtin "isinstance") := by decide +kernel
theorem boot_list : bootBuiltins "list" = some (.type "list") := by decide +kernel
theorem eqv_tieL (b : Bool) (a l : List Int) : PyData.eqv (tieD b a) (.list (l.map .int)) = (!b && decide (a = l)) := by
  cases b
  · exact eqv_ints a l
  · rfl
theorem eqv_tieS (b : Bool) (a : List Int) : PyData.eqv (tieD b a) (.str "tie") = b := by
  cases b
  · rfl
  · show PyData.eqv (.str "tie") (.str "tie") = true
    decide +kernel

structure Ctx4 (W : Wk) where
  D : Defs W
  C : Addr
  X : OwnX W "TiesException" C
  na : Addr
  DN : DefAt W p1 "_law_names" na .none
  lr : Addr
  lrT : Addr
  H : LrAt W lr lrT
  ta : Addr
  DT : DefAt W p1 "_law_told" ta .none

section
variable {W : Wk} {A : Around} {hid : PMap} {env : Env} {vars : Vars} {mu : Mu} {K : Out → Prop}
theorem ev_told {np pos : Pos} {e : Expr} {es : List Expr} {v : List Int} {S B way : Nat} {ta : Bool} {outer} (c : Ctx4 W) (E : EnvOk env) (ao : AOk W A 3) (FX : FrX A hid env outer) (hw : way < 4) (P : LrPre v S B) (hk : env.kindOf "_law_told" = some .globalImplicit)
    (ha : EvArgs W A hid env vars mu (e :: es) [.int (way : Int), listI v, .int (S : Int), .bool ta]) (hs : starEach (e :: es) env = (false, eval e env) :: starEach es env) :
    Ev W A hid env vars mu (.Call (.Name "_law_told" np) (e :: es) [] pos) (tieV (!ta && lrTie v S) (lrF v S)) :=
  EvG.ev (ev_call_defG c.D.nm E ao (fun _ => FX) (fun _ h => h.elim) c.DT hk (by decide +kernel) ha (told_spec c.D c.X c.DN c.H c.DT hw P) hs) (fun _ h => h) (fun _ h => h)
theorem ev_val {x : Str} {pos : Pos} {v : Value} (N : Names W) (G : GName W env x v) : Ev W A hid env vars mu (.Name x pos) (.val v) := fun g h t Q E R k => name_global N.ok G R (k _ g h t (Le.refl g) R .val)

abbrev vB (tie : Bool) (t v : List Int) (S way : Nat) (hd : Int) (ns : List Int) : Vars := ("strict", tieV tie t) :: ("told", listI t) :: vA v S way hd ns

abbrev vI (i : Nat) (tie : Bool) (t v : List Int) (S way : Nat) (hd : Int) (ns : List Int) : Vars := ("i", .int (i : Int)) :: vB tie t v S way hd ns

set_option maxHeartbeats 1000000 in
theorem law_B {a L : Addr} {dV kV doc pm an cdv ct} {ns v : List Int} {S way B : Nat} {hd : Int} {rest : List Stmt} {outer} (c : Ctx4 W) (ao : AOk W A 3) (FX : FrX A hid (lEnv p1 a L dV kV doc pm an cdv ct) outer) (H : Set4 v S way B)
    (st : StoAll hid (lEnv p1 a L dV kV doc pm an cdv ct))
    (k : Exs W A hid (lEnv p1 a L dV kV doc pm an cdv ct) (vB (lrTie v S) (lrF v S) v S way hd ns) [] rest K) :
    Exs W A hid (lEnv p1 a L dV kV doc pm an cdv ct) (vA v S way hd ns) [] ((bodyOf p1 "law").getD 7 (.Pass default) :: (bodyOf p1 "law").getD 8 (.Pass default) :: (bodyOf p1 "law").getD 9 (.Pass default) :: (bodyOf p1 "law").getD 10 (.Pass default) :: (bodyOf p1 "law").getD 11 (.Pass default) :: (bodyOf p1 "law").getD 12 (.Pass default) :: (bodyOf p1 "law").getD 13 (.Pass default) :: rest) K := by
  have N := c.D.nm
  have E : EnvOk (lEnv p1 a L dV kV doc pm an cdv ct) := ⟨rfl, rfl, rfl⟩
  have v63 : v.length ≤ 63 := Nat.le_trans H.n5 (by decide)
  have hB : B ≤ 10 ^ 7 := Nat.le_trans H.hB (by decide)
  have hS : S < 2 ^ 100 := Nat.lt_of_le_of_lt H.s7 (by decide)
  have P : LrPre v S B := lr_preN H.s1 hS H.n1 v63 H.nn H.pos H.sm hB
  have Pr : LrPre v.reverse S B := lr_preN H.s1 hS (by rw [List.length_reverse]; exact H.n1) (by rw [List.length_reverse]; exact v63) (fun p hp => H.nn p (List.mem_reverse.mp hp)) (by rw [sum_rev]; exact H.pos) (by rw [sum_rev]; exact H.sm) hB
  obtain ⟨kk, cc, OK⟩ := lr_ok (S := S) H.pos
  have REV := lr_rev (S := S) H.pos
  have tl63 : (lrF v S).length ≤ 63 := by rw [OK.len]; exact v63
  have ao0 : AOk W A 0 := ao.less (by decide)
  refine exs_set (d := listI (lrF v S)) (ev_told (ta := true) c E ao FX H.hw P rfl (by walk_at "args") rfl) (st _ rfl) rfl rfl rfl ?_
  refine exs_set (d := tieV (lrTie v S) (lrF v S)) (ev_told (ta := false) c E ao FX H.hw P rfl (by walk_at "args") rfl) (st _ rfl) rfl rfl rfl ?_
  refine exs_skip (tr_bool (.more (b := false) ?_ rfl (.more (b := false) ?_ rfl (.more (b := false) ?_ rfl .nil)))) ?_
  · exact tr_not (b := true) (tr_of (d := .bool true) (ev_call_builtin N.ok (gname_b E N.isinstance (by decide +kernel) boot_isi rfl (by decide +kernel)) (evargs_cons (ev_name rfl rfl) (evargs_cons (ev_val N (gname_b E N.list (by decide +kernel) boot_list rfl (by decide +kernel))) evargs_nil rfl) rfl) (op_isinst AsList.list) rfl rfl) rfl (fun _ => rfl))
  · have e : false = ((((lrF v S).length : Nat) : Int) != ((v.length : Nat) : Int)) := by rw [OK.len]; simp
    rw [e]
    exact tr_cmp (ev_lenI N E rfl tl63 rfl rfl) (ev_name rfl rfl) rfl c_ne
  · have e : false = ((lrF v S).sum != (S : Int)) := by rw [OK.sum]; simp
    rw [e]
    exact tr_cmp (ev_sum N E ao.handled (ev_name rfl rfl) AsList.list rfl rfl) (ev_name rfl rfl) rfl c_ne
  generalize lrF v S = t at *
  generalize lrTie v S = tie at *
  refine exs_skip (tr_eq ?_ (tr_and2 (tr_cmp (ev_name rfl rfl) (ev_name rfl rfl) rfl (c_ned ao (tie_dat (b := tie) (a := t)) (.nums (ns := t) AsList.list))) (fun _ => tr_cmp (ev_name rfl rfl) ev_str rfl (c_ned ao (tie_dat (b := tie) (a := t)) (.str (x := "tie") (by decide +kernel)))))) ?_
  · rw [eqv_tieL, eqv_tieS, decide_eq_true rfl]
    cases tie <;> rfl
  refine exs_set (d := listI (lrF v.reverse S)) ?_ (st _ rfl) rfl rfl rfl ?_
  · refine ev_told (ta := true) c E ao FX H.hw Pr rfl (evargs_cons (ev_name rfl rfl) (evargs_cons ?_ (by walk_at "args") rfl) rfl) rfl
    have e : listI v.reverse = .list (v.map PV.int).reverse := by rw [← List.map_reverse]
    rw [e]
    exact EvNew.ev (evnew_rev (ev_name rfl rfl) AsList.list (mapLe v63) (ev_neg ev_int))
  refine exs_skip (tr_eq ?_ (tr_cmp (ev_cmp (ev_name rfl rfl) (b := listI t.reverse) ?_ rfl (c_nel ao AsList.list AsList.list)) (ev_cmp (ev_name rfl rfl) ev_str rfl (c_eqd ao (tie_dat (b := tie) (a := t)) (.str (x := "tie") (by decide +kernel)))) rfl c_neb)) ?_
  · rw [eqv_tieS]
    cases tie
    · rw [decide_eq_true (REV.mpr rfl)]; rfl
    · rw [decide_eq_false (fun q => nomatch REV.mp q)]; rfl
  · have e : listI t.reverse = .list (t.map PV.int).reverse := by rw [← List.map_reverse]
    rw [e]
    exact EvNew.ev (evnew_rev (ev_name rfl rfl) AsList.list (mapLe tl63) (ev_neg ev_int))
  -- nobody has fewer seats than one with fewer votes
  refine run_forget (v' := vB tie t v S way hd ns) ?_ (List.Sublist.refl _) ?_
  · walk_at "sub"
  refine exs_next (v := vB tie t v S way hd ns) (m := []) (ex_for_rng (n := v.length) (fun _ vv m => vv = vB tie t v S way hd ns ∧ m = []) ao.handled (ev_range1 N E (ev_name rfl rfl) rfl rfl) (lt61 v63) ⟨rfl, rfl⟩ (st _ rfl) rfl rfl (fun _ => rfl) ?_ ?_) k
  · rintro hid1 i vv m hs1 hi ⟨rfl, rfl⟩
    have st1 := st.to hs1
    refine exs_next (v := vI i tie t v S way hd ns) (m := []) (ex_for_rng (n := v.length) (fun _ vv m => vv = vI i tie t v S way hd ns ∧ m = []) ao.handled (ev_range1 N E (ev_name rfl rfl) rfl rfl) (lt61 v63) ⟨rfl, rfl⟩ (st1 _ rfl) rfl rfl (fun _ => rfl) ?_ ?_) (exs_nil ⟨_, _, ?_, List.Sublist.refl _, rfl, rfl⟩)
    · rintro hid2 j vv m hs2 hj ⟨rfl, rfl⟩
      refine exs_skip (tr_eq ?_ (tr_and3 (tr_cmp (ev_name rfl rfl) ev_str rfl (c_ned ao (tie_dat (b := tie) (a := t)) (.str (x := "tie") (by decide +kernel)))) (fun _ => tr_cmp (ev_iidx (xs := v) (ev_name rfl rfl) (ev_name rfl rfl) AsList.list hi (le5 v63)) (ev_iidx (xs := v) (ev_name rfl rfl) (ev_name rfl rfl) AsList.list hj (le5 v63)) rfl c_gt)
        (fun _ _ => tr_cmp (ev_iidx (xs := t) (ev_name rfl rfl) (ev_name rfl rfl) AsList.list (by rw [OK.len]; exact hi) (le5 tl63)) (ev_iidx (xs := t) (ev_name rfl rfl) (ev_name rfl rfl) AsList.list (by rw [OK.len]; exact hj) (le5 tl63)) rfl c_lt))) (exs_nil ⟨_, _, ?_, List.Sublist.refl _, rfl, rfl⟩)
      · rw [eqv_tieS]
        cases tie
        · by_cases q : v.getD i 0 > v.getD j 0
          · rw [decide_eq_false (Int.not_lt.mpr (lr_mono H.pos OK hi hj q)), Bool.and_false]
          · rw [decide_eq_false q]; rfl
        · rfl
      · walk_at "sub"
    · rintro vv m ⟨rfl, rfl⟩; rfl
    · walk_at "sub"
  · rintro vv m ⟨rfl, rfl⟩; rfl
end
end Mine
end

section
open PySem PySem.W PyProof.Rows PySem.Calls PySem.SeqAt
set_option linter.unusedVariables false
set_option maxRecDepth 100000
namespace Mine

theorem get_range {n : Nat} {f : Nat → Int} {j : Nat} (hj : j < n) : ((List.range n).map f).getD j 0 = f j := by
  rw [List.getD, List.getElem?_map, List.getElem?_range hj]; rfl
theorem mem_range_map {n : Nat} {f : Nat → Int} {p : Int} (h : p ∈ (List.range n).map f) : ∃ j, j < n ∧ p = f j := by
  obtain ⟨j, hj, e⟩ := List.mem_map.mp h
  exact ⟨j, List.mem_range.mp hj, e.symm⟩
theorem sum_lin2 (x y : Int) : ∀ (a b : List Int), a.length = b.length → ((List.range a.length).map fun j => x * a.getD j 0 + b.getD j 0 * y).sum = x * a.sum + b.sum * y := by
  intro a
  induction a with
  | nil =>
    intro b hb
    cases b with
    | nil => simp
    | cons q s => cases hb
  | cons p r ih =>
    intro b hb
    cases b with
    | nil => cases hb
    | cons q s =>
      have := ih s (by simpa using hb)
      rw [List.length_cons, List.range_succ_eq_map, List.map_cons, List.sum_cons, List.map_map, List.sum_cons, List.sum_cons, Int.mul_add, Int.add_mul]
      have e : ((fun j => x * (p :: r).getD j 0 + (q :: s).getD j 0 * y) ∘ Nat.succ) = fun j => x * r.getD j 0 + s.getD j 0 * y := by funext j; simp [List.getD]
      rw [e, this]; simp [List.getD]; (first | lia | omega)

def movedOf (v c : List Int) (S : Nat) : List Int := (List.range v.length).map fun j => (S : Int) * v.getD j 0 + c.getD j 0 * v.sum
theorem moved_ok {v c : List Int} {S H : Nat} (hT : 0 < v.sum) (hc : c.length = v.length) (hl : ∀ j, j < v.length → 0 ≤ (lrQ v S).getD j 0 + c.getD j 0) (hH : (H : Int) = S + c.sum) (h1 : 1 ≤ H) :
    (∀ p ∈ movedOf v c S, 0 ≤ p) ∧ (movedOf v c S).sum = (H : Int) * v.sum ∧ lrTie (movedOf v c S) H = lrTie v S ∧ lrF (movedOf v c S) H = (List.range v.length).map fun j => (lrF v S).getD j 0 + c.getD j 0 := by
  have hH0 : (0 : Int) < H := by (first | lia | omega)
  have hs : (movedOf v c S).sum = (H : Int) * v.sum := by
    have := sum_lin2 (S : Int) v.sum v c hc.symm
    unfold movedOf
    rw [this, hH, Int.add_mul]
  have hq : ((List.range v.length).map fun j => (lrQ v S).getD j 0 + c.getD j 0).sum = (lrQ v S).sum + c.sum := by
    have := sum_lin2 1 1 (lrQ v S) c (lrQ_len.trans hc.symm)
    rw [lrQ_len] at this
    simpa using this
  have key : ∀ j, j < v.length → (S : Int) * v.getD j 0 + c.getD j 0 * v.sum = ((lrQ v S).getD j 0 + c.getD j 0) * v.sum + (lrR v S).getD j 0 := fun j hj => by
    rw [lrR_get hj, Int.add_mul, Int.mul_comm (S : Int)]; (first | lia | omega)
  refine ⟨fun p hp => ?_, hs, ?_⟩
  · obtain ⟨j, hj, rfl⟩ := mem_range_map hp
    rw [key j hj]
    have := lr_rng (S := S) hT hj
    exact Int.add_nonneg (Int.mul_nonneg (hl j hj) (Int.le_of_lt hT)) this.1
  · refine lr_shift (c := c) (q := []) hT hH0 hc hH ⟨?_, ?_, ?_, ?_, fun j hj => ?_⟩ hq
    · unfold movedOf; rw [List.length_map, List.length_range]
    · rw [List.length_map, List.length_range]
    · rw [List.length_map, lrR_len]
    · rw [hs]; exact Int.mul_pos hH0 hT
    · rw [hs, get_range hj, getD_map (by rw [lrR_len]; exact hj)]
      have h2 := lr_rng (S := S) hT hj
      refine ⟨?_, Int.mul_nonneg (Int.le_of_lt hH0) h2.1, Int.mul_lt_mul_of_pos_left h2.2 hH0⟩
      unfold movedOf
      rw [get_range hj, key j hj]
      generalize (lrQ v S).getD j 0 + c.getD j 0 = a
      grind

theorem ceil_ok {p T s M : Int} (hT : 0 < T) (h : -((-p * s).fdiv T) ≤ M) : s * p ≤ M * T := by
  have h1 := rem_range (a := -p * s) hT
  have h2 : M * T ≥ -((-p * s).fdiv T) * T := Int.mul_le_mul_of_nonneg_right h (Int.le_of_lt hT)
  rw [Int.neg_mul] at h2
  have h3 : -p * s = -(s * p) := by rw [Int.neg_mul, Int.mul_comm]
  (first | lia | omega)
theorem ceil_le {p T s : Int} (hT : 0 < T) (hp : p ≤ T) (hs : 0 ≤ s) : -((-p * s).fdiv T) ≤ s := by
  have h1 := rem_range (a := -p * s) hT
  refine Int.not_lt.mp fun q => ?_
  have h2 : (-p * s).fdiv T * T ≤ (-s - 1) * T := Int.mul_le_mul_of_nonneg_right (by (first | lia | omega)) (Int.le_of_lt hT)
  have h3 : s * p ≤ s * T := Int.mul_le_mul_of_nonneg_left hp hs
  have h4 : -p * s = -(s * p) := by rw [Int.neg_mul, Int.mul_comm]
  have h5 : (-s - 1) * T = -(s * T) - T := by rw [Int.sub_mul, Int.neg_mul, Int.one_mul]
  (first | lia | omega)
theorem max_mem : ∀ {l : List Int}, l ≠ [] → ∃ m ∈ l, ∀ a ∈ l, a ≤ m
  | [], h => absurd rfl h
  | [x], _ => ⟨x, List.mem_singleton.mpr rfl, fun a h => by rw [List.mem_singleton.mp h]; exact Int.le_refl x⟩
  | x :: y :: r, _ => by
    obtain ⟨m, hm, h⟩ := max_mem (l := y :: r) (by simp)
    by_cases q : x ≤ m
    · exact ⟨m, List.mem_cons_of_mem _ hm, fun a ha => (List.mem_cons.mp ha).elim (fun e => e ▸ q) (h a)⟩
    · exact ⟨x, List.mem_cons_self, fun a ha => (List.mem_cons.mp ha).elim (fun e => e ▸ Int.le_refl _) (fun ha => Int.le_trans (h a ha) (by (first | lia | omega)))⟩
end Mine
end

section
open PySem PySem.W PyProof.Rows PySem.Calls PySem.SeqAt
set_option linter.unusedVariables false
set_option maxRecDepth 100000
namespace Mine

def l0Of (ns : List Int) (n : Nat) : List Int := (sliceP ns (some (1 + (n : Int))) (some (1 + 2 * (n : Int)))).map fun x => x.fmod 7
def l4 (ns : List Int) (n : Nat) : List Int := l0Of ns n ++ List.replicate ((n : Int) - ((l0Of ns n).length : Nat)).toNat 0
theorem l0_len (ns : List Int) (n : Nat) : (l0Of ns n).length ≤ n := by
  unfold l0Of
  rw [List.length_map]
  have := sliceP_len ns (1 + n) (1 + 2 * n)
  rw [show ((1 + n : Nat) : Int) = 1 + (n : Int) by (first | lia | omega), show ((1 + 2 * n : Nat) : Int) = 1 + 2 * (n : Int) by (first | lia | omega)] at this
  (first | lia | omega)
theorem l4_ok (ns : List Int) (n : Nat) : (l4 ns n).length = n ∧ ∀ x ∈ l4 ns n, 0 ≤ x ∧ x ≤ 6 := by
  have h := l0_len ns n
  refine ⟨?_, fun x hx => ?_⟩
  · unfold l4; rw [List.length_append, List.length_replicate]; (first | lia | omega)
  · rcases List.mem_append.mp hx with hx | hx
    · obtain ⟨y, _, rfl⟩ := List.mem_map.mp hx
      obtain ⟨u, hu, e⟩ := fmod_lt y (show 0 < 7 by decide)
      have e : y.fmod 7 = (u : Int) := e
      rw [e]; (first | lia | omega)
    · rw [(List.mem_replicate.mp hx).2]; decide
theorem getD_of {l : List Int} {P : Int → Prop} (h : ∀ x ∈ l, P x) {j : Nat} (hj : j < l.length) : P (l.getD j 0) := by
  rw [getD_lt hj]; exact h _ (List.getElem_mem _)

theorem quot_le {p T s : Int} (hT : 0 < T) (hp : p ≤ T) (h0 : 0 ≤ p) (hs : 0 ≤ s) : 0 ≤ (p * s).fdiv T ∧ (p * s).fdiv T ≤ s := by
  have h5 := rem_range (a := p * s) hT
  refine ⟨Int.fdiv_nonneg (Int.mul_nonneg h0 hs) (Int.le_of_lt hT), Int.not_lt.mp fun q => ?_⟩
  have h1 : (s + 1) * T ≤ (p * s).fdiv T * T := Int.mul_le_mul_of_nonneg_right (by (first | lia | omega)) (Int.le_of_lt hT)
  have h2 : p * s ≤ T * s := Int.mul_le_mul_of_nonneg_right hp hs
  rw [Int.add_mul, Int.one_mul, Int.mul_comm s] at h1
  (first | lia | omega)
theorem lrQ_rng {v : List Int} {S j : Nat} (hT : 0 < v.sum) (nn : ∀ p ∈ v, 0 ≤ p) (hj : j < v.length) : 0 ≤ (lrQ v S).getD j 0 ∧ (lrQ v S).getD j 0 ≤ (S : Int) := by
  unfold lrQ
  rw [getD_map hj]
  exact quot_le hT (getD_of (le_sum nn) hj) (getD_of nn hj) (Int.natCast_nonneg _)

def c0Of (v l : List Int) (S : Nat) : List Int := (List.range v.length).map fun j => l.getD j 0 - (v.getD j 0 * (S : Int)).fdiv v.sum
def c4 (v l : List Int) (S : Nat) : List Int := if (c0Of v l S).sum + (S : Int) = 0 then (c0Of v l S).set 0 ((c0Of v l S).getD 0 0 + 1) else c0Of v l S
theorem c0_len (v l : List Int) (S : Nat) : (c0Of v l S).length = v.length := by unfold c0Of; rw [List.length_map, List.length_range]
theorem c4_len (v l : List Int) (S : Nat) : (c4 v l S).length = v.length := by
  unfold c4; split
  · rw [List.length_set, c0_len]
  · exact c0_len v l S
theorem c4_ok {v l : List Int} {S way B : Nat} (H : Set4 v S way B) (hl : l.length = v.length) (hb : ∀ x ∈ l, 0 ≤ x ∧ x ≤ 6) :
    (∀ j, j < v.length → 0 ≤ (lrQ v S).getD j 0 + (c4 v l S).getD j 0) ∧ (∀ j, j < v.length → -7 ≤ (c4 v l S).getD j 0 ∧ (c4 v l S).getD j 0 ≤ 7) ∧ ∃ h : Nat, (h : Int) = S + (c4 v l S).sum ∧ 1 ≤ h ∧ h ≤ 60 := by
  have n5 := H.n5
  have s7 := H.s7
  have h0 : ∀ j, j < v.length → (c0Of v l S).getD j 0 = l.getD j 0 - (lrQ v S).getD j 0 := fun j hj => by
    unfold c0Of lrQ; rw [get_range hj, getD_map hj]
  have hg : ∀ j, j < v.length → ((c4 v l S).getD j 0 = (c0Of v l S).getD j 0 ∨ (c4 v l S).getD j 0 = (c0Of v l S).getD j 0 + 1) := fun j hj => by
    unfold c4
    split
    · rw [getD_set (by rw [c0_len]; exact H.n1)]
      split
      · rename_i e; subst e; exact .inr rfl
      · exact .inl rfl
    · exact .inl rfl
  have hr : ∀ j, j < v.length → (0 ≤ l.getD j 0 ∧ l.getD j 0 ≤ 6) ∧ 0 ≤ (lrQ v S).getD j 0 ∧ (lrQ v S).getD j 0 ≤ (S : Int) := fun j hj => ⟨getD_of hb (hl ▸ hj), lrQ_rng H.pos H.nn hj⟩
  have hsum : (c0Of v l S).sum = l.sum - (lrQ v S).sum := by
    have h := sum_lin2 1 (-1) l (lrQ v S) (hl.trans lrQ_len.symm)
    rw [hl] at h
    have : c0Of v l S = (List.range v.length).map fun j => 1 * l.getD j 0 + (lrQ v S).getD j 0 * -1 := by
      refine list_ext (by rw [c0_len, List.length_map, List.length_range]) fun j hj => ?_
      rw [c0_len] at hj
      rw [h0 j hj, get_range hj]; (first | lia | omega)
    rw [this, h]; (first | lia | omega)
  have hls := sum_nonneg fun x hx => (hb x hx).1
  have hls2 := sum_small fun x hx => (hb x hx).2
  have hq0 : 0 ≤ (lrQ v S).sum := sum_nonneg fun x hx => by
    obtain ⟨p, hp, rfl⟩ := List.mem_map.mp hx
    exact (quot_le H.pos (le_sum H.nn p hp) (H.nn p hp) (Int.natCast_nonneg _)).1
  obtain ⟨k, hk, _, _⟩ := lr_k (S := S) H.pos
  rw [hl] at hls2
  have hc : (c4 v l S).sum = (if (c0Of v l S).sum + (S : Int) = 0 then (c0Of v l S).sum + 1 else (c0Of v l S).sum) := by
    unfold c4
    split
    · exact sum_set _ 0 (by rw [c0_len]; exact H.n1)
    · rfl
  refine ⟨fun j hj => ?_, fun j hj => ?_, ((S : Int) + (c4 v l S).sum).toNat, ?_⟩
  · have := hg j hj; have := hr j hj; have := h0 j hj; (first | lia | omega)
  · have := hg j hj; have := hr j hj; have := h0 j hj; (first | lia | omega)
  · rw [hc]
    split <;> (first | lia | omega)
end Mine
end

section
open PySem PySem.W PyProof.Rows PySem.Calls PySem.SeqAt
set_option linter.unusedVariables false
set_option maxRecDepth 100000
namespace Mine

section
variable {W : Wk} {A : Around} {hid : PMap} {env : Env} {vars : Vars} {mu : Mu} {K : Out → Prop}
abbrev vC (w due : List Int) (h : Nat) (c : List Int) (tie : Bool) (t v : List Int) (S way : Nat) (hd : Int) (ns : List Int) : Vars := ("due", listI due) :: ("house", .int (h : Int)) :: ("moved", listI w) :: ("moves", listI c) :: vB tie t v S way hd ns

theorem small7 {x : Int} (h : -7 ≤ x ∧ x ≤ 7) : x.natAbs < 2 ^ 3 := by (first | lia | omega)
theorem listI_range {n : Nat} {f : Nat → Int} : listI ((List.range n).map f) = .list ((List.range n).map fun j => PV.int (f j)) := by unfold listI; rw [List.map_map]; rfl
theorem tieD_self (b : Bool) (a : List Int) : PyData.eqv (tieD b a) (tieD b a) = true := by
  cases b
  · exact (eqv_ints a a).trans (decide_eq_true rfl)
  · exact eqv_tieS true a

set_option maxHeartbeats 1000000 in
theorem law_C {a L : Addr} {dV kV doc pm an cdv ct} {ns v : List Int} {S way B : Nat} {hd : Int} {rest : List Stmt} {outer} (x : Ctx4 W) (ao : AOk W A 3) (FX : FrX A hid (lEnv p1 a L dV kV doc pm an cdv ct) outer) (H : Set4 v S way B) (hn : ns.length ≤ 63)
    (st : StoAll hid (lEnv p1 a L dV kV doc pm an cdv ct))
    (k : Exs W A hid (lEnv p1 a L dV kV doc pm an cdv ct) (vB (lrTie v S) (lrF v S) v S way hd ns) [] rest K) :
    Exs W A hid (lEnv p1 a L dV kV doc pm an cdv ct) (vB (lrTie v S) (lrF v S) v S way hd ns) [] ((bodyOf p1 "law").getD 14 (.Pass default) :: (bodyOf p1 "law").getD 15 (.Pass default) :: (bodyOf p1 "law").getD 16 (.Pass default) :: (bodyOf p1 "law").getD 17 (.Pass default) :: (bodyOf p1 "law").getD 18 (.Pass default) :: (bodyOf p1 "law").getD 19 (.Pass default) :: (bodyOf p1 "law").getD 20 (.Pass default) :: (bodyOf p1 "law").getD 21 (.Pass default) :: (bodyOf p1 "law").getD 22 (.Pass default) :: rest) K := by
  have N := x.D.nm
  have E : EnvOk (lEnv p1 a L dV kV doc pm an cdv ct) := ⟨rfl, rfl, rfl⟩
  have v63 : v.length ≤ 63 := Nat.le_trans H.n5 (by decide)
  have hB : B + 6 ≤ 10 ^ 7 := Nat.le_trans (Nat.add_le_add_right H.hB 6) (by decide)
  have ao0 : AOk W A 0 := ao.less (by decide)
  have sm := le_sum H.nn
  have vsm : ∀ {j}, j < v.length → (v.getD j 0).natAbs < 2 ^ B := fun {j} hj => by
    have h1 := getD_of sm hj
    have h2 := getD_of H.nn hj
    have h3 := H.sm
    have ex : ((2 ^ B : Nat) : Int) = 2 ^ B := by rw [Int.natCast_pow]; rfl
    (first | lia | omega)
  have tsm : v.sum.natAbs < 2 ^ B := by
    have h3 := H.sm
    have h4 := H.pos
    have ex : ((2 ^ B : Nat) : Int) = 2 ^ B := by rw [Int.natCast_pow]; rfl
    (first | lia | omega)
  have ssm : ((S : Nat) : Int).natAbs < 2 ^ 3 := by have := H.s7; (first | lia | omega)
  obtain ⟨kk, cc, OK⟩ := lr_ok (S := S) H.pos
  have tl63 : (lrF v S).length ≤ 63 := by rw [OK.len]; exact v63
  have h0l := l0_len ns v.length
  have hl0 : (l0Of ns v.length).length ≤ 63 := Nat.le_trans h0l v63
  obtain ⟨hl, hlb⟩ := l4_ok ns v.length
  -- lows
  refine exs_set (d := listI (l0Of ns v.length)) ?_ (st _ rfl) rfl rfl rfl ?_
  · have h : listI (l0Of ns v.length) = .list ((sliceP ns (some (1 + ((v.length : Nat) : Int))) (some (1 + 2 * ((v.length : Nat) : Int)))).map fun x => .int (x.fmod 7)) := by
      unfold l0Of listI; rw [List.map_map]; rfl
    rw [h]
    refine EvNew.ev (evnew_compA (α := Int) (mk := .int) (xs := sliceP ns (some (1 + ((v.length : Nat) : Int))) (some (1 + 2 * ((v.length : Nat) : Int)))) (f := fun x => .int (x.fmod 7)) (d := listI (sliceP ns (some (1 + ((v.length : Nat) : Int))) (some (1 + 2 * ((v.length : Nat) : Int))))) (vars' := []) (tv := fun x => [("number", .int x)])
      ⟨inj_int, ao.handled, rfl, ?_, .list AsList.list, ⟨rfl, rfl, by decide⟩, .nil, fun _ => rfl, .any fun _ _ => rfl, ?_, fun hid' C x _ o => tgt_name (store_own hid' rfl) rfl rfl, fun hid' C x hx => ev_mod (ev_name rfl rfl) ev_int (by decide), fun x _ => .nil⟩)
    · show Ev _ _ _ _ _ _ _ (.list ((sliceP ns _ _).map .int))
      rw [← sliceP_map]
      exact EvNew.ev (evnew_slice (l := ns.map .int) (ev_name rfl rfl) AsList.list (mapLe hn) (.some (ev_add ev_int (ev_name rfl rfl))) (.some (ev_add ev_int (ev_mul ev_int (ev_name rfl rfl) (mulOk20 (by decide) (by (first | lia | omega)))))))
    · have h0 := hl0
      unfold l0Of at h0
      rw [List.length_map] at h0
      exact le5 h0
  refine exs_set (d := listI (l4 ns v.length)) ?_ (st _ rfl) rfl rfl rfl ?_
  · have e : listI (l4 ns v.length) = .list ((l0Of ns v.length).map .int ++ List.replicate (((v.length : Nat) : Int) - ((l0Of ns v.length).length : Nat)).toNat (.int 0)) := by
      unfold l4 listI; rw [List.map_append, List.map_replicate]
    rw [e]
    refine EvNew.ev (evnew_add (ev_name rfl rfl) (EvNew.ev (evnew_rep (args1 ev_int rfl) (ev_sub (ev_name rfl rfl) (ev_lenI N E rfl hl0 rfl rfl)) (by (first | lia | omega)) (by (first | lia | omega)))) AsList.list AsList.list ?_)
    rw [List.length_map, List.length_replicate]; (first | lia | omega)
  generalize l4 ns v.length = l at *
  have hl63 : l.length ≤ 63 := by rw [hl]; exact v63
  -- moves
  refine exs_own (ds := (c0Of v l S).map .int) (ex_own ?_ (st _ rfl) rfl rfl rfl) (fun D => ?_)
  · have e : (c0Of v l S).map PV.int = (List.range v.length).map fun j => .int (l.getD j 0 - (v.getD j 0 * (S : Int)).fdiv v.sum) := by
      unfold c0Of; rw [List.map_map]; rfl
    rw [e]
    refine evnew_compA (α := Nat) (mk := fun i => .int (i : Int)) (xs := List.range v.length) (d := .rng 0 ((v.length : Nat) : Int)) (vars' := [("lows", listI l), ("votes", listI v), ("seats", .int (S : Int)), ("total", .int v.sum)]) (tv := fun i => [("i", .int (i : Int)), ("lows", listI l), ("votes", listI v), ("seats", .int (S : Int)), ("total", .int v.sum)])
      ⟨inj_nat, ao.handled, rfl, ev_range1 N E (ev_name rfl rfl) rfl rfl, src_rng (lt61 v63), ⟨rfl, rfl, by decide⟩, by walk_at "over", fun _ => rfl, .any fun _ _ => rfl, by rw [List.length_range]; exact le5 v63, fun hid' C i hi o => tgt_name (store_own hid' rfl) rfl rfl, fun hid' C i hi => ?_, fun i _ => by walk_at "sub"⟩
    have hi := List.mem_range.mp hi
    exact ev_sub (ev_iidx (xs := l) (ev_name rfl rfl) (ev_name rfl rfl) AsList.list (by rw [hl]; exact hi) (le5 hl63)) (ev_fdiv N.ok ao (ev_mul (ev_iidx (xs := v) (ev_name rfl rfl) (ev_name rfl rfl) AsList.list hi (le5 v63)) (ev_name rfl rfl) (mulOk (vsm hi) ssm (by (first | lia | omega)))) (ev_name rfl rfl) (Int.ne_of_gt H.pos))
  refine exs_next (v := ("moves", .loc D) :: vB (lrTie v S) (lrF v S) v S way hd ns) (m := [(D, (c4 v l S).map .int)]) (run_forget (v' := ("moves", .loc D) :: vB (lrTie v S) (lrF v S) v S way hd ns) (by walk_at "sub") (List.Sublist.refl _) (ex_if (x := ((c0Of v l S).sum + (S : Int) == 0)) (tr_cmp (ev_add (ev_sum (ns := c0Of v l S) N E ao.handled (ev_name rfl rfl) (.inr ⟨D, rfl, List.mem_singleton.mpr rfl⟩) rfl rfl) (ev_name rfl rfl)) ev_int rfl c_eq) (fun e => ?_) (fun e => ?_))) ?_
  · rw [beq_iff_eq] at e
    have : c4 v l S = (c0Of v l S).set 0 ((c0Of v l S).getD 0 0 + 1) := if_pos e
    rw [this, List.map_set]
    exact exs_next (ex_augitem (m1 := []) (m2 := []) (a := D) (k := 0) (ev_name rfl rfl) ev_int ev_int (Int.le_refl 0) (by rw [List.length_map, c0_len]; exact Int.ofNat_lt.mpr H.n1) (by rw [List.length_map, c0_len]; exact le5 v63) (getD_map_int _ _ (by rw [c0_len]; exact H.n1)) a_add (fun _ _ _ => rfl)) (exs_nil rfl)
  · rw [beq_eq_false_iff_ne] at e
    have : c4 v l S = c0Of v l S := if_neg e
    rw [this]
    exact exs_nil rfl
  refine run_seal (x := "moves") (v' := vB (lrTie v S) (lrF v S) v S way hd ns) (m' := []) (List.mem_singleton.mpr rfl) rfl (by walk_at "sub") (List.nil_sublist _) ?_
  have hcl := c4_len v l S
  obtain ⟨c1, c2, h, c3, c5, c6⟩ := c4_ok H hl hlb
  generalize c4 v l S = c at *
  have cl63 : c.length ≤ 63 := by rw [hcl]; exact v63
  obtain ⟨m1, m2, m3, m4⟩ := moved_ok H.pos hcl c1 c3 c5
  have mlen : (movedOf v c S).length = v.length := by unfold movedOf; rw [List.length_map, List.length_range]
  -- moved
  refine exs_next (v := ("moved", listI (movedOf v c S)) :: ("moves", listI c) :: vB (lrTie v S) (lrF v S) v S way hd ns) (m := []) ?_ ?_
  · have e : listI (movedOf v c S) = .list ((List.range v.length).map fun j => .int ((S : Int) * v.getD j 0 + c.getD j 0 * v.sum)) := listI_range
    rw [e]
    refine ex_compA (α := Nat) (mk := fun i => .int (i : Int)) (xs := List.range v.length) (d := .rng 0 ((v.length : Nat) : Int)) (vars' := [("moves", listI c), ("votes", listI v), ("seats", .int (S : Int)), ("total", .int v.sum)]) (tv := fun i => [("i", .int (i : Int)), ("moves", listI c), ("votes", listI v), ("seats", .int (S : Int)), ("total", .int v.sum)])
      ⟨inj_nat, ao.handled, rfl, ev_range1 N E (ev_name rfl rfl) rfl rfl, src_rng (lt61 v63), ⟨rfl, rfl, by decide⟩, by walk_at "over", fun _ => rfl, .any fun _ _ => rfl, by rw [List.length_range]; exact le5 v63, fun hid' C i hi o => tgt_name (store_own hid' rfl) rfl rfl, fun hid' C i hi => ?_, fun i _ => by walk_at "sub"⟩ rfl rfl rfl
    have hi := List.mem_range.mp hi
    exact ev_add (ev_mul (ev_name rfl rfl) (ev_iidx (xs := v) (ev_name rfl rfl) (ev_name rfl rfl) AsList.list hi (le5 v63)) (mulOk ssm (vsm hi) (by (first | lia | omega)))) (ev_mul (ev_iidx (xs := c) (ev_name rfl rfl) (ev_name rfl rfl) AsList.list (by rw [hcl]; exact hi) (le5 cl63)) (ev_name rfl rfl) (mulOk (small7 (c2 i hi)) tsm (by (first | lia | omega))))
  refine exs_set (d := .int (h : Int)) (by rw [c3]; exact ev_add (ev_name rfl rfl) (ev_sum N E ao.handled (ev_name rfl rfl) AsList.list rfl rfl)) (st _ rfl) rfl rfl rfl ?_
  -- due
  refine exs_next (v := vC (movedOf v c S) ((List.range v.length).map fun j => (lrF v S).getD j 0 + c.getD j 0) h c (lrTie v S) (lrF v S) v S way hd ns) (m := []) ?_ ?_
  · show Ex1 _ _ _ _ _ _ _ (· = Out.next (("due", listI ((List.range v.length).map fun j => (lrF v S).getD j 0 + c.getD j 0)) :: _) _)
    rw [listI_range]
    refine ex_compA (α := Nat) (mk := fun i => .int (i : Int)) (xs := List.range v.length) (d := .rng 0 ((v.length : Nat) : Int)) (vars' := [("moves", listI c), ("told", listI (lrF v S))]) (tv := fun i => [("i", .int (i : Int)), ("moves", listI c), ("told", listI (lrF v S))])
      ⟨inj_nat, ao.handled, rfl, ev_range1 N E (ev_name rfl rfl) rfl rfl, src_rng (lt61 v63), ⟨rfl, rfl, by decide⟩, by walk_at "over", fun _ => rfl, .any fun _ _ => rfl, by rw [List.length_range]; exact le5 v63, fun hid' C i hi o => tgt_name (store_own hid' rfl) rfl rfl, fun hid' C i hi => ?_, fun i _ => by walk_at "sub"⟩ rfl rfl rfl
    have hi := List.mem_range.mp hi
    exact ev_add (ev_iidx (xs := lrF v S) (ev_name rfl rfl) (ev_name rfl rfl) AsList.list (by rw [OK.len]; exact hi) (le5 tl63)) (ev_iidx (xs := c) (ev_name rfl rfl) (ev_name rfl rfl) AsList.list (by rw [hcl]; exact hi) (le5 cl63))
  have PM : LrPre (movedOf v c S) h (B + 6) := by
    refine lr_preN c5 (Nat.lt_of_le_of_lt c6 (by decide)) (by rw [mlen]; exact H.n1) (by rw [mlen]; exact v63) m1 (by rw [m2]; exact Int.mul_pos (by (first | lia | omega)) H.pos) ?_ hB
    rw [m2, Int.pow_add, Int.mul_comm]
    have h1 : v.sum * (h : Int) ≤ v.sum * 60 := Int.mul_le_mul_of_nonneg_left (by (first | lia | omega)) (Int.le_of_lt H.pos)
    have h2 := H.sm
    have h3 := H.pos
    have : (2 : Int) ^ 6 = 64 := by decide
    rw [this]; (first | lia | omega)
  rw [← m4]
  refine exs_skip (tr_eq ?_ (tr_cmp (ev_told (ta := true) x E ao FX H.hw PM rfl (by walk_at "args") rfl) (ev_name rfl rfl) rfl (c_nel ao AsList.list (ms := lrF (movedOf v c S) h) AsList.list))) ?_
  · rw [decide_eq_true rfl]; rfl
  refine exs_skip (tr_eq ?_ (tr_cmp (b := tieV (lrTie v S) (lrF (movedOf v c S) h)) (ev_told (ta := false) x E ao FX H.hw PM rfl (by walk_at "args") rfl) (ev_if (x := lrTie v S) (tr_eq (eqv_tieS (lrTie v S) (lrF v S)) (tr_cmp (ev_name rfl rfl) ev_str rfl (c_eqd ao (tie_dat (b := lrTie v S) (a := lrF v S)) (.str (x := "tie") (by decide +kernel))))) (fun e => by rw [e]; exact ev_str) (fun e => by rw [e]; exact ev_name rfl rfl)) rfl (c_ned ao tie_dat tie_dat))) ?_
  · rw [m3]
    show (!PyData.eqv (tieD (lrTie v S) _) _) = false
    rw [tieD_self]; rfl
  refine run_forget ?_ (List.Sublist.refl _) k
  walk_at "sub"
end
end Mine
end

section
open PySem PySem.W PyProof.Rows PySem.Calls PySem.SeqAt
set_option linter.unusedVariables false
set_option maxRecDepth 100000
namespace Mine

abbrev mirOf (v : List Int) (S : Nat) (M : Int) : List Int := v.map fun p => M * v.sum - (S : Int) * p
theorem most_ok {v : List Int} {S way B : Nat} {m y : Int} (H : Set4 v S way B) (hm : m ∈ v.map fun p => -((-p * (S : Int)).fdiv v.sum)) (hx : ∀ a ∈ v.map fun p => -((-p * (S : Int)).fdiv v.sum), a ≤ m) (y0 : 0 ≤ y) (y2 : y ≤ 2) :
    ∃ M : Int, ∃ h : Nat, M = (if (m + y) * ((v.length : Nat) : Int) = (S : Int) then m + y + 1 else m + y) ∧ (h : Int) = M * ((v.length : Nat) : Int) - S ∧ 1 ≤ h ∧ h ≤ 60 ∧ (∀ p ∈ v, 0 ≤ M * v.sum - (S : Int) * p) ∧ 0 ≤ M ∧ M ≤ 10 ∧ 0 ≤ m + y ∧ m + y ≤ 9 := by
  have hT := H.pos
  have n1 := H.n1
  have n5 := H.n5
  have s1 := H.s1
  have s7 := H.s7
  have hms : m ≤ (S : Int) := by
    obtain ⟨p, hp, rfl⟩ := List.mem_map.mp hm
    exact ceil_le hT (le_sum H.nn p hp) (Int.natCast_nonneg _)
  have key : ∀ M : Int, m ≤ M → (∀ p ∈ v, 0 ≤ M * v.sum - (S : Int) * p) ∧ (S : Int) ≤ M * ((v.length : Nat) : Int) := fun M hM => by
    have h1 : ∀ p ∈ v, 0 ≤ M * v.sum - (S : Int) * p := fun p hp => by
      have := ceil_ok (p := p) (s := (S : Int)) hT (Int.le_trans (hx _ (List.mem_map.mpr ⟨p, hp, rfl⟩)) hM)
      (first | lia | omega)
    refine ⟨h1, ?_⟩
    have h2 : 0 ≤ (v.map fun p => M * v.sum - (S : Int) * p).sum := sum_nonneg fun x hx => by
      obtain ⟨p, hp, rfl⟩ := List.mem_map.mp hx
      exact h1 p hp
    rw [sum_mirror] at h2
    refine Int.le_of_mul_le_mul_right ?_ hT
    rw [Int.mul_right_comm]
    (first | lia | omega)
  have hpos : ∀ {x : Int}, (S : Int) ≤ x * ((v.length : Nat) : Int) → 0 < x := fun {x} h => by
    refine Int.not_le.mp fun q => ?_
    have := Int.mul_le_mul_of_nonneg_right (c := ((v.length : Nat) : Int)) q (Int.natCast_nonneg _)
    (first | lia | omega)
  have hle : ∀ {x : Int}, 0 ≤ x → x ≤ 10 → x * ((v.length : Nat) : Int) ≤ 50 := fun {x} h0 h => by
    have := Int.mul_le_mul h (show ((v.length : Nat) : Int) ≤ 5 by (first | lia | omega)) (Int.natCast_nonneg _) (by decide)
    (first | lia | omega)
  have k0 := key (m + y) (by (first | lia | omega))
  have p0 := hpos k0.2
  by_cases q : (m + y) * ((v.length : Nat) : Int) = (S : Int)
  · rw [if_pos q]
    have k1 := key (m + y + 1) (by (first | lia | omega))
    have e : (m + y + 1) * ((v.length : Nat) : Int) = (m + y) * ((v.length : Nat) : Int) + ((v.length : Nat) : Int) := by rw [Int.add_mul, Int.one_mul]
    have h50 := hle (x := m + y + 1) (by (first | lia | omega)) (by (first | lia | omega))
    exact ⟨_, ((m + y + 1) * ((v.length : Nat) : Int) - S).toNat, rfl, by (first | lia | omega), by (first | lia | omega), by (first | lia | omega), k1.1, by (first | lia | omega), by (first | lia | omega), by (first | lia | omega), by (first | lia | omega)⟩
  · rw [if_neg q]
    have h50 := hle (x := m + y) (by (first | lia | omega)) (by (first | lia | omega))
    have := k0.2
    exact ⟨_, ((m + y) * ((v.length : Nat) : Int) - S).toNat, rfl, by (first | lia | omega), by (first | lia | omega), by (first | lia | omega), k0.1, by (first | lia | omega), by (first | lia | omega), by (first | lia | omega), by (first | lia | omega)⟩

theorem eqv_tie2 {b : Bool} {a a' : List Int} (h : b = false → a = a') : PyData.eqv (tieD b a) (tieD b a') = true := by
  cases b
  · rw [h rfl]; exact tieD_self false a'
  · exact eqv_tieS true a

section
variable {W : Wk} {A : Around} {hid : PMap} {env : Env} {vars : Vars} {mu : Mu} {K : Out → Prop}
abbrev vM (M : Int) (tie : Bool) (t v : List Int) (S way : Nat) (hd : Int) (ns : List Int) : Vars := ("most", .int M) :: vB tie t v S way hd ns

set_option maxHeartbeats 1000000 in
theorem law_D {a L : Addr} {dV kV doc pm an cdv ct} {ns v : List Int} {S way B : Nat} {hd : Int} {outer} (x : Ctx4 W) (ao : AOk W A 3) (FX : FrX A hid (lEnv p1 a L dV kV doc pm an cdv ct) outer) (H : Set4 v S way B)
    (st : StoAll hid (lEnv p1 a L dV kV doc pm an cdv ct)) :
    Exs W A hid (lEnv p1 a L dV kV doc pm an cdv ct) (vB (lrTie v S) (lrF v S) v S way hd ns) [] ((bodyOf p1 "law").drop 23) (· = .ret (.bool true)) := by
  show Exs _ _ _ _ _ _ ((bodyOf p1 "law").getD 23 (.Pass default) :: (bodyOf p1 "law").getD 24 (.Pass default) :: (bodyOf p1 "law").getD 25 (.Pass default) :: (bodyOf p1 "law").getD 26 (.Pass default) :: (bodyOf p1 "law").getD 27 (.Pass default) :: (bodyOf p1 "law").getD 28 (.Pass default) :: (bodyOf p1 "law").drop 29) _
  have N := x.D.nm
  have E : EnvOk (lEnv p1 a L dV kV doc pm an cdv ct) := ⟨rfl, rfl, rfl⟩
  have v63 : v.length ≤ 63 := Nat.le_trans H.n5 (by decide)
  have hB : B + 6 ≤ 10 ^ 7 := Nat.le_trans (Nat.add_le_add_right H.hB 6) (by decide)
  have ao0 : AOk W A 0 := ao.less (by decide)
  have sm := le_sum H.nn
  have ex : ((2 ^ B : Nat) : Int) = 2 ^ B := by rw [Int.natCast_pow]; rfl
  have vsm : ∀ {p}, p ∈ v → p.natAbs < 2 ^ B := fun {p} hp => by
    have h1 := sm p hp
    have h2 := H.nn p hp
    have h3 := H.sm
    (first | lia | omega)
  have tsm : v.sum.natAbs < 2 ^ B := by
    have h3 := H.sm
    have h4 := H.pos
    (first | lia | omega)
  have ssm : ((S : Nat) : Int).natAbs < 2 ^ 3 := by have := H.s7; (first | lia | omega)
  obtain ⟨kk, cc, OK⟩ := lr_ok (S := S) H.pos
  have tl63 : (lrF v S).length ≤ 63 := by rw [OK.len]; exact v63
  -- most
  obtain ⟨m, hm, hmx⟩ := max_mem (l := v.map fun p => -((-p * (S : Int)).fdiv v.sum)) (by
    intro e
    have := List.map_eq_nil_iff.mp e
    have h1 := H.n1
    rw [this] at h1
    exact absurd h1 (by decide))
  obtain ⟨y, hy3, ey⟩ := fmod_lt (hd.fdiv 28) (show 0 < 3 by decide)
  have ey : (hd.fdiv 28).fmod 3 = (y : Int) := ey
  obtain ⟨M, h, eM, eh, h1, h60, nn, M0, M10, m0, m9⟩ := most_ok H hm hmx (Int.natCast_nonneg y) (by (first | lia | omega))
  refine exs_set (d := .int (m + (y : Int))) ?_ (st _ rfl) rfl rfl rfl ?_
  · rw [← ey]
    refine ev_add (ev_maxl (ns := v.map fun p => -((-p * (S : Int)).fdiv v.sum)) N E ao.handled (EvNew.ev (evnew_compA (α := Int) (mk := .int) (xs := v) (f := fun p => .int (-((-p * (S : Int)).fdiv v.sum))) (d := listI v) (vars' := [("seats", .int (S : Int)), ("total", .int v.sum)]) (tv := fun p => [("vote", .int p), ("seats", .int (S : Int)), ("total", .int v.sum)])
      ⟨inj_int, ao.handled, rfl, ev_name rfl rfl, .list AsList.list, ⟨rfl, rfl, by decide⟩, by walk_at "over", fun _ => rfl, .any fun _ _ => rfl, le5 v63, fun hid' C p _ o => tgt_name (store_own hid' rfl) rfl rfl, fun hid' C p hp => ?_, fun p _ => by walk_at "sub"⟩)) ?_ hm hmx rfl rfl) (ev_mod (ev_fdiv N.ok ao (ev_name rfl rfl) ev_int (by decide)) ev_int (by decide))
    · exact ev_neg (ev_fdiv N.ok ao (ev_mul (ev_neg (ev_name rfl rfl)) (ev_name rfl rfl) (mulOk (by rw [Int.natAbs_neg]; exact vsm hp) ssm (by (first | lia | omega)))) (ev_name rfl rfl) (Int.ne_of_gt H.pos))
    · rw [List.map_map]; exact AsList.list
  have nsm : ((v.length : Nat) : Int).natAbs < 2 ^ 20 := by have := H.n5; (first | lia | omega)
  refine exs_cons (K' := fun o => ∃ v', o = .next v' [] ∧ Sub (vM M (lrTie v S) (lrF v S) v S way hd ns) v') (ex_if (x := ((m + (y : Int)) * ((v.length : Nat) : Int) == (S : Int))) (tr_cmp (ev_mul (ev_name rfl rfl) (ev_name rfl rfl) (mulOk20 (by (first | lia | omega)) nsm)) (ev_name rfl rfl) rfl c_eq) (fun e => ?_) (fun e => ?_)) ?_ ?_
  · rw [beq_iff_eq] at e
    rw [if_pos e] at eM
    exact exs_next (ex_aug (d := .int M) rfl ev_int (st _ rfl) rfl rfl (by rw [eM]; exact a_add)) (exs_nil ⟨_, rfl, by walk_at "sub"⟩)
  · rw [beq_eq_false_iff_ne] at e
    rw [if_neg e] at eM
    rw [eM]
    exact exs_nil ⟨_, rfl, by walk_at "sub"⟩
  rotate_left
  · rintro o ⟨v', e, _⟩ hn; exact absurd e (hn _ _)
  rintro v' mu' ⟨_, e, hsub⟩
  cases e
  refine run_forget hsub (List.Sublist.refl _) ?_
  clear hsub
  -- mirrored
  have LM := lr_mirror (H := h) (M := M) H.pos h1 eh
  have PM : LrPre (mirOf v S M) h (B + 6) := by
    refine lr_preN h1 (Nat.lt_of_le_of_lt h60 (by decide)) (by rw [List.length_map]; exact H.n1) (by rw [List.length_map]; exact v63) (fun p hp => by obtain ⟨q, hq, rfl⟩ := List.mem_map.mp hp; exact nn q hq) (by rw [LM.1]; exact Int.mul_pos H.pos (by (first | lia | omega))) ?_ hB
    rw [LM.1, Int.pow_add]
    have q1 : v.sum * (h : Int) ≤ v.sum * 60 := Int.mul_le_mul_of_nonneg_left (by (first | lia | omega)) (Int.le_of_lt H.pos)
    have q2 := H.sm
    have q3 := H.pos
    have : (2 : Int) ^ 6 = 64 := by decide
    rw [this]; (first | lia | omega)
  refine exs_next (v := ("mirrored", listI (mirOf v S M)) :: vM M (lrTie v S) (lrF v S) v S way hd ns) (m := []) ?_ ?_
  · have e : listI (mirOf v S M) = .list (v.map fun p => .int (M * v.sum - (S : Int) * p)) := by unfold listI; rw [List.map_map]; rfl
    rw [e]
    exact ex_compA (α := Int) (mk := .int) (xs := v) (d := listI v) (vars' := [("most", .int M), ("seats", .int (S : Int)), ("total", .int v.sum)]) (tv := fun p => [("vote", .int p), ("most", .int M), ("seats", .int (S : Int)), ("total", .int v.sum)])
      ⟨inj_int, ao.handled, rfl, ev_name rfl rfl, .list AsList.list, ⟨rfl, rfl, by decide⟩, by walk_at "over", fun _ => rfl, .any fun _ _ => rfl, le5 v63, fun hid' C p _ o => tgt_name (store_own hid' rfl) rfl rfl, fun hid' C p hp => ev_sub (ev_mul (ev_name rfl rfl) (ev_name rfl rfl) (mulOk (j := 4) (by (first | lia | omega)) tsm (by (first | lia | omega)))) (ev_mul (ev_name rfl rfl) (ev_name rfl rfl) (mulOk ssm (vsm hp) (by (first | lia | omega)))), fun p _ => by walk_at "sub"⟩ rfl rfl rfl
  refine exs_next (v := ("due", listI ((lrF v S).map fun q => M - q)) :: ("mirrored", listI (mirOf v S M)) :: vM M (lrTie v S) (lrF v S) v S way hd ns) (m := []) ?_ ?_
  · have e : listI ((lrF v S).map fun q => M - q) = .list ((lrF v S).map fun q => .int (M - q)) := by unfold listI; rw [List.map_map]; rfl
    rw [e]
    exact ex_compA (α := Int) (mk := .int) (xs := lrF v S) (d := listI (lrF v S)) (vars' := [("most", .int M)]) (tv := fun p => [("one", .int p), ("most", .int M)])
      ⟨inj_int, ao.handled, rfl, ev_name rfl rfl, .list AsList.list, ⟨rfl, rfl, by decide⟩, by walk_at "over", fun _ => rfl, .any fun _ _ => rfl, le5 tl63, fun hid' C p _ o => tgt_name (store_own hid' rfl) rfl rfl, fun hid' C p hp => ev_sub (ev_name rfl rfl) (ev_name rfl rfl), fun p _ => by walk_at "sub"⟩ rfl rfl rfl
  have mM : IntMulOk M ((v.length : Nat) : Int) := mulOk20 (by (first | lia | omega)) nsm
  refine exs_skip (tr_eq ?_ (tr_and2 (tr_cmp (ev_name rfl rfl) ev_str rfl (c_ned ao (tie_dat (b := lrTie v S) (a := lrF v S)) (.str (x := "tie") (by decide +kernel)))) (fun _ => tr_cmp (ev_told (ta := true) x E ao FX H.hw PM rfl (evargs_cons (ev_name rfl rfl) (evargs_cons (ev_name rfl rfl) (evargs_cons (ev_eq (congrArg PV.int eh.symm) (ev_sub (ev_mul (ev_name rfl rfl) (ev_name rfl rfl) mM) (ev_name rfl rfl))) (evargs_cons ev_bool evargs_nil rfl) rfl) rfl) rfl) rfl) (ev_name rfl rfl) rfl (c_nel ao AsList.list AsList.list)))) ?_
  · rw [eqv_tieS]
    cases q : lrTie v S
    · rw [decide_eq_true (LM.2.2 q)]; rfl
    · rfl
  refine exs_ret (ev_eq ?_ (ev_cmp (b := tieV (lrTie v S) ((lrF v S).map fun q => M - q)) (ev_told (ta := false) x E ao FX H.hw PM rfl (evargs_cons (ev_name rfl rfl) (evargs_cons (ev_name rfl rfl) (evargs_cons (ev_eq (congrArg PV.int eh.symm) (ev_sub (ev_mul (ev_name rfl rfl) (ev_name rfl rfl) mM) (ev_name rfl rfl))) (evargs_cons ev_bool evargs_nil rfl) rfl) rfl) rfl) rfl)
    (ev_if (x := lrTie v S) (tr_eq (eqv_tieS (lrTie v S) (lrF v S)) (tr_cmp (ev_name rfl rfl) ev_str rfl (c_eqd ao (tie_dat (b := lrTie v S) (a := lrF v S)) (.str (x := "tie") (by decide +kernel))))) (fun e => by rw [e]; exact ev_str) (fun e => by rw [e]; exact ev_name rfl rfl)) rfl (c_eqd ao tie_dat tie_dat))) rfl
  show PV.bool (PyData.eqv (tieD (lrTie (mirOf v S M) h) _) _) = _
  rw [LM.2.1, eqv_tie2 (fun e => LM.2.2 e)]
end
end Mine
end

section
open PySem PySem.W PyProof.Rows PySem.Calls PySem.SeqAt
set_option linter.unusedVariables false
set_option maxRecDepth 100000
namespace Mine
section
variable {W : Wk} {A : Around} {hid : PMap} {env : Env} {vars : Vars} {mu : Mu} {K : Out → Prop}

theorem law_spec {fa : Addr} {ns : List Int} (x : Ctx4 W) (DL : DefAt W p1 "law" fa .none) (hn : ns.length ≤ 63) (hB : ∀ x ∈ ns, x.natAbs < 2 ^ (2 ^ 20)) :
    FnG W (.ref fa) 4 [listI ns] (· = .bool true) (fun _ => False) := by
  have N := x.D.nm
  obtain ⟨hm, kV, doc, pm, an, cdv, ct, F⟩ := DL
  refine fn_introX N.ok F [("script", listI ns)] ["script"] rfl (by show paramsOk (scopeOf p1 "law") _ = true; decide +kernel) (by decide +kernel) ?_ ?_
  · intro g h t us kb kg is
    cases is with
    | cons i1 is =>
      cases is
      exact ⟨_, BindsTo.of_eq rfl, .cons i1 .nil⟩
  · intro A hid L outer ao FX hs
    have ao0 : AOk W A 0 := ao.less (by decide)
    have st := stoAll hs
    show Exs _ _ _ _ _ _ ((bodyOf p1 "law").take 7 ++ ((bodyOf p1 "law").getD 7 (.Pass default) :: (bodyOf p1 "law").getD 8 (.Pass default) :: (bodyOf p1 "law").getD 9 (.Pass default) :: (bodyOf p1 "law").getD 10 (.Pass default) :: (bodyOf p1 "law").getD 11 (.Pass default) :: (bodyOf p1 "law").getD 12 (.Pass default) :: (bodyOf p1 "law").getD 13 (.Pass default) ::
      (bodyOf p1 "law").getD 14 (.Pass default) :: (bodyOf p1 "law").getD 15 (.Pass default) :: (bodyOf p1 "law").getD 16 (.Pass default) :: (bodyOf p1 "law").getD 17 (.Pass default) :: (bodyOf p1 "law").getD 18 (.Pass default) :: (bodyOf p1 "law").getD 19 (.Pass default) :: (bodyOf p1 "law").getD 20 (.Pass default) :: (bodyOf p1 "law").getD 21 (.Pass default) :: (bodyOf p1 "law").getD 22 (.Pass default) :: (bodyOf p1 "law").drop 23)) _
    refine law_A N ao0 hn hB (Nat.le_refl _) st fun v S way hd H => ?_
    have H' : Set4 v S way (2 ^ 20 + 3) := H
    refine law_B x ao FX H' st ?_
    refine law_C x ao FX H' hn st ?_
    exact (law_D x ao FX H' st).imp fun o e => .inl ⟨_, rfl, e⟩
end
end Mine
end

open PySem PySem.W PyProof.Rows
set_option maxRecDepth 100000 in
set_option maxHeartbeats 8000000 in
theorem PySem.Challenge.cw_af0002_04_holds : PySem.Challenge.rw_af0002_04.Holds := by
  w_on
  o_law
  k_head
  case hw => w_witness2
  k_fill
  intro w s₀ s₁ mg mb G Y fa o pm cd doc dV kV ho hd hcd hD hmg hg args vals as hpre hlay hrd hwl hlo
  have KX := kIn_of Y
  refine Ground.open G ?_
  intro T B D TE TW
  wrow_args hpre hlay hrd hwl hlo
  rename_i ns _ _ hlay1 _ _ _ _ l vs _ hL _ w1 _ hI _ _ hlen
  clear hd hcd hD ho G Y B D TE TW
  have m2 := mg_of KX T.g (n := "law") (by k_is)
  obtain rfl := Value.ref.inj (Option.some.inj (hmg.symm.trans m2))
  let W : Mine.Wk := ⟨PySem.Challenge.pw_af0002_04, w, s₁.gens, s₁.drawn, s₁.os, s₁.heap, mg, mb⟩
  have O : W.Ok := ⟨T.g, T.b, T.builtins, T.nolimit, T.seer rfl, rfl⟩
  have N : Mine.Names W := ⟨O, mg_none_of KX T.g (by k_is), mg_none_of KX T.g (by k_is), mg_none_of KX T.g (by k_is), mg_none_of KX T.g (by k_is), mg_none_of KX T.g (by k_is), mg_none_of KX T.g (by k_is), mg_none_of KX T.g (by k_is), mg_none_of KX T.g (by k_is), mg_none_of KX T.g (by k_is), mg_none_of KX T.g (by k_is)⟩
  obtain ⟨C, OC, _⟩ := T.ownAt (x := "TiesException") (newId := "Exception.__new__") (bm := Mine.excBm) (by decide +kernel)
  have X : Mine.OwnX W "TiesException" C := ⟨OC⟩
  have DL : Mine.DefAt W Mine.p1 "law" _ .none := Mine.defAt_mk (W := W) KX m2 (by k_is) rfl (by k_is) ⟨rfl, rfl, rfl⟩
  have DT : Mine.DefAt W Mine.p1 "_law_told" _ .none := Mine.defAt_mk (W := W) KX (mg_of KX T.g (n := "_law_told") (by k_is)) (by k_is) rfl (by k_is) ⟨rfl, rfl, rfl⟩
  have DN : Mine.DefAt W Mine.p1 "_law_names" _ .none := Mine.defAt_mk (W := W) KX (mg_of KX T.g (n := "_law_names") (by k_is)) (by k_is) rfl (by k_is) ⟨rfl, rfl, rfl⟩
  have HL : Mine.LrAt W _ _ := ⟨Mine.defAt_mk (W := W) KX (mg_of KX T.g (n := "largest_remainder") (by k_is)) (by k_is) rfl (by k_is) ⟨rfl, rfl, rfl⟩, _, _, _, KX _ _ (by k_is), rfl⟩
  have mT := mg_of KX T.g (n := "apply_threshold") (by k_is)
  have mD := mg_of KX T.g (n := "divisor") (by k_is)
  have mC := mg_of KX T.g (n := "compute") (by k_is)
  let DD : Mine.Defs W := {
    nm := N
    at_ := _
    hat := Mine.defAt_mk (W := W) KX mT (by k_is) rfl (by k_is) ⟨rfl, rfl, rfl⟩
    dv := _
    dvT := _
    dvo := _
    dvv := _
    dvn := _
    hdv := Mine.defAt_mk (W := W) KX mD (by k_is) rfl (by k_is) ⟨rfl, rfl, rfl⟩
    hdvT := KX _ _ (by k_is)
    hdvd := rfl
    cp := _
    cpT := _
    cpo := _
    cpn := _
    hcp := Mine.defAt_mk (W := W) KX mC (by k_is) rfl (by k_is) ⟨rfl, rfl, rfl⟩
    hcpT := KX _ _ (by k_is)
    hcpd := rfl }
  let CX : Mine.Ctx4 W := { D := DD, C := C, X := X, na := _, DN := DN, lr := _, lrT := _, H := HL, ta := _, DT := DT }
  have hB : ∀ x ∈ ns, x.natAbs < 2 ^ (2 ^ 20) := fun x hx => Mine.bits_lt (PyData.bits_item_of_ints hlay1 hx)
  obtain ⟨nl, hl⟩ := Mine.well_list w1 hL
  have hF := Mine.law_spec (ns := ns) CX DL (by omega) hB
  refine hF callerA (fun _ => none) (fun a => s₁.heap.get? a) s₁.heap s₁.toks _ _ _ [] ⟨rfl, by decide, by decide, ⟨[], rfl⟩⟩ (fun _ => ⟨rfl, fun _ h => nomatch h⟩) ⟨fun _ _ e => e, fun _ _ e => e, fun _ _ e => (nomatch e), fun _ _ _ => rfl⟩ (.cons (.list hl (Mine.Iss.of_ints hI)) .nil) (fun d u g' h' t' hd lg RE iu => ?_) (fun _ _ _ _ _ _ hf => hf.elim)
  cases hd
  cases iu
  have hpost : PySem.Challenge.rw_af0002_04.row.claim.post [ofPy (PyData.list (List.map PyData.int ns))] (WData.bool true) [ofPy (PyData.list (List.map PyData.int ns))] = true := by
    exact postW_of (X := (true == true)) rfl (w_eq_bool rfl rfl) rfl
  refine GoodW.toG ⟨.inl ⟨_, .bool true, [], rfl, fun _ => rfl, .bool _, hpost, fun _ => ⟨.nil, fun a h => (nomatch h)⟩⟩, fun b o e => RE.gs b o (lg b o e), rfl, hg⟩
