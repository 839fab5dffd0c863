import PyProof.Rows.All
import Wide.All
import OpenK.AllK
import Wide.FinOn
import PySem.Challenge.RW_af0002_01
set_option Elab.async false

section
open PySem PySem.W PyProof.Rows PySem.Calls
set_option maxRecDepth 100000
namespace Mine

abbrev PMap := Addr → Option Obj

abbrev lobj (vs : Array Value) (n : Nat) : Obj := { cls := .type "list", dict := none, data := .seq vs n, slots := #[] }
abbrev tobj (vs : Array Value) (n : Nat) : Obj := { cls := .type "tuple", dict := none, data := .seq vs n, slots := #[] }

inductive PV where
  | none
  | bool (b : Bool)
  | int (i : Int)
  | str (s : Str)
  | tup (l : List PV)
  | list (l : List PV)
  | rng (a b : Int)
  | loc (a : Addr)
  | val (v : Value)

mutual
inductive Is (g : PMap) : PV → Value → Prop where
  | none : Is g .none .none
  | bool {b} : Is g (.bool b) (.bool b)
  | int {i t} : Is g (.int i) (.int i t)
  | str {s t} : Is g (.str s) (.str s t)
  | tup {l a vs n} : g a = some (tobj vs n) → Iss g l vs.toList → Is g (.tup l) (.ref a)
  | list {l a vs n} : g a = some (lobj vs n) → Iss g l vs.toList → Is g (.list l) (.ref a)
  | rng {a b r t u v} : g r = some { cls := .type "range", dict := Option.none, data := .fields #[.int a t, .int b u, .int 1 v], slots := #[] } → Is g (.rng a b) (.ref r)
  | loc {a} : Is g (.loc a) (.ref a)
  | val {v} : Is g (.val v) v
inductive Iss (g : PMap) : List PV → List Value → Prop where
  | nil : Iss g [] []
  | cons {d v ds vs} : Is g d v → Iss g ds vs → Iss g (d :: ds) (v :: vs)
end

def Le (g g' : PMap) : Prop := ∀ a o, g a = some o → g' a = some o
theorem Le.refl (g : PMap) : Le g g := fun _ _ h => h
theorem Le.trans {g g' g'' : PMap} (h : Le g g') (k : Le g' g'') : Le g g'' := fun a o e => k a o (h a o e)

mutual
theorem Is.mono {g g' : PMap} (k : Le g g') : ∀ {d v}, Is g d v → Is g' d v
  | _, _, .none => .none
  | _, _, .bool => .bool
  | _, _, .int => .int
  | _, _, .str => .str
  | _, _, .tup h r => .tup (k _ _ h) (Iss.mono k r)
  | _, _, .list h r => .list (k _ _ h) (Iss.mono k r)
  | _, _, .rng h => .rng (k _ _ h)
  | _, _, .loc => .loc
  | _, _, .val => .val
theorem Iss.mono {g g' : PMap} (k : Le g g') : ∀ {ds vs}, Iss g ds vs → Iss g' ds vs
  | _, _, .nil => .nil
  | _, _, .cons h r => .cons (Is.mono k h) (Iss.mono k r)
end

theorem Iss.length {g : PMap} : ∀ {ds vs}, Iss g ds vs → vs.length = ds.length
  | _, _, .nil => rfl
  | _, _, .cons _ r => by rw [List.length_cons, List.length_cons, r.length]
theorem Iss.get {g : PMap} : ∀ {ds vs}, Iss g ds vs → ∀ (i : Nat) d, ds[i]? = some d → ∃ v, vs[i]? = some v ∧ Is g d v
  | _, _, .nil, i, d, h => by simp at h
  | _, _, .cons h r, 0, d, e => by simp at e; subst e; exact ⟨_, rfl, h⟩
  | _, _, .cons _ r, i + 1, d, e => by simp at e; simpa using r.get i d e
theorem Iss.append {g : PMap} : ∀ {ds vs es ws}, Iss g ds vs → Iss g es ws → Iss g (ds ++ es) (vs ++ ws)
  | _, _, _, _, .nil, k => k
  | _, _, _, _, .cons h r, k => .cons h (r.append k)
theorem Iss.set {g : PMap} {d v} (k : Is g d v) : ∀ {ds vs} (i : Nat), Iss g ds vs → Iss g (ds.set i d) (vs.set i v)
  | _, _, _, .nil => .nil
  | _, _, 0, .cons _ r => .cons k r
  | _, _, i + 1, .cons h r => .cons h (Iss.set k i r)
theorem Iss.toInts {g : PMap} : ∀ {ns : List Int} {vs}, Iss g (ns.map PV.int) vs → IntsAre vs ns
  | [], _, h => by cases h; exact IntsAre.nil
  | n :: r, _, h => by
    cases h with
    | cons h k => cases h; exact IntsAre.cons _ _ (Iss.toInts k)
theorem Iss.of_ints {g : PMap} : ∀ {ns : List Int} {vs}, IntsAre vs ns → Iss g (ns.map PV.int) vs
  | _, _, .nil => .nil
  | _, _, .cons _ _ k => .cons .int (Iss.of_ints k)

abbrev Vars := List (Str × PV)
abbrev Mu := List (Addr × List PV)

/-- fixed things of a walk -/
structure Wk where
  prog : Program
  w : World
  gens : Array GenState
  drawn : Drawn
  os : OsState
  base : Heap
  mg : Str → Option Value
  mb : Str → Option Value
abbrev Wk.S (W : Wk) (h : Heap) (t : Nat) : Shared := ⟨h, W.gens, W.drawn, t, W.os⟩
abbrev Wk.M (W : Wk) : Model := model W.prog W.w
structure Wk.Ok (W : Wk) : Prop where
  g : W.base.Ns mainGlobals W.mg
  b : W.base.Ns builtinsNs W.mb
  builtins : ∀ x : Str, x ≠ "__name__" → W.mb x = bootBuiltins x
  nolimit : W.base.NoLimit
  seer : W.base.NoSeer
  tree : W.prog.given.tree = none

/-- the same object, up to slots; a record is the very same -/
def UpTo (o : Obj) (h : Heap) (a : Addr) : Prop := ∃ sl, h.get? a = some { o with slots := sl } ∧ ((∀ es ep, o.data ≠ .dict es ep) → sl = o.slots)
theorem UpTo.keeps {o : Obj} {h h' : Heap} {a : Addr} (x : UpTo o h a) (k : ∀ b o, h.get? b = some o → h'.get? b = some o) : UpTo o h' a := let ⟨sl, e, r⟩ := x; ⟨sl, k _ _ e, r⟩
theorem UpTo.of {o : Obj} {h : Heap} {a : Addr} (e : h.get? a = some o) : UpTo o h a := ⟨o.slots, e, fun _ => rfl⟩

def VarAt (h : Heap) (env : Env) (x : Str) (u : Value) : Prop :=
  (x == ("__debug__" : Str)) = false ∧ ((env.kindOf x = some .local ∧ ∃ m, h.Ns env.locals m ∧ m x = some u) ∨
    (∃ c, (env.kindOf x = some .cell ∨ (env.kindOf x = some .free ∧ (x == ("__classdict__" : Str)) = false)) ∧ env.cells.lookup x = some c ∧ h.IsCell c (some u)))
theorem VarAt.keeps {h h' : Heap} {env : Env} {x : Str} {u : Value} (v : VarAt h env x u) (k : ∀ b o, h.get? b = some o → h'.get? b = some o) : VarAt h' env x u := by
  obtain ⟨hd, ⟨hl, m, hn, hm⟩ | ⟨c, hk, hc, hv⟩⟩ := v
  · exact ⟨hd, .inl ⟨hl, m, hn.keeps k, hm⟩⟩
  · exact ⟨hd, .inr ⟨c, hk, hc, hv.keeps k⟩⟩

/-- the state of one frame: g what is frozen, hid what belongs to the frames above -/
structure Rep (W : Wk) (hid g : PMap) (env : Env) (vars : Vars) (mu : Mu) (h : Heap) : Prop where
  bs : ∀ a o, W.base.get? a = some o → g a = some o
  gs : ∀ a o, g a = some o → h.get? a = some o
  hs : ∀ a o, hid a = some o → UpTo o h a
  gh : ∀ a o, g a = some o → hid a = none
  ns : ∃ m, h.Ns env.locals m
  vs : ∀ x d, vars.lookup x = some d → ∃ u, Is g d u ∧ VarAt h env x u
  gL : g env.locals = none
  hL : hid env.locals = none
  cell : ∀ x c, env.cells.lookup x = some c → (∃ v, h.IsCell c v) ∧ g c = none ∧ c ≠ env.locals
  cnd : ∀ x y c, env.cells.lookup x = some c → env.cells.lookup y = some c → x = y
  mus : ∀ a l, (a, l) ∈ mu → ∃ vs n, h.get? a = some (lobj vs n) ∧ Iss g l vs.toList ∧ g a = none ∧ hid a = none ∧ a ≠ env.locals ∧ ∀ x c, env.cells.lookup x = some c → c ≠ a
  mnd : (mu.map (·.1)).Nodup

/-- what is left when the frame is done -/
structure RepE (W : Wk) (hid g : PMap) (h : Heap) : Prop where
  bs : ∀ a o, W.base.get? a = some o → g a = some o
  gs : ∀ a o, g a = some o → h.get? a = some o
  hs : ∀ a o, hid a = some o → UpTo o h a
  gh : ∀ a o, g a = some o → hid a = none
theorem Rep.e {W hid g env vars mu h} (R : Rep W hid g env vars mu h) : RepE W hid g h := ⟨R.bs, R.gs, R.hs, R.gh⟩

abbrev Kept (h h' : Heap) : Prop := ∀ b o, h.get? b = some o → h'.get? b = some o

theorem Rep.keeps {W hid g env vars mu h h'} (R : Rep W hid g env vars mu h) (k : Kept h h') : Rep W hid g env vars mu h' where
  bs := R.bs
  gs := fun a o e => k _ _ (R.gs a o e)
  hs := fun a o e => (R.hs a o e).keeps k
  gh := R.gh
  ns := let ⟨m, hn⟩ := R.ns; ⟨m, hn.keeps k⟩
  vs := fun x d e => let ⟨u, i, v⟩ := R.vs x d e; ⟨u, i, v.keeps k⟩
  gL := R.gL
  hL := R.hL
  cell := fun x c e => let ⟨⟨v, hc⟩, r⟩ := R.cell x c e; ⟨⟨v, hc.keeps k⟩, r⟩
  cnd := R.cnd
  mus := fun a l e => let ⟨vs, n, x, r⟩ := R.mus a l e; ⟨vs, n, k _ _ x, r⟩
  mnd := R.mnd

def ins (g : PMap) (a : Addr) (o : Obj) : PMap := fun b => if b = a then some o else g b
theorem ins_same (g : PMap) (a : Addr) (o : Obj) : ins g a o a = some o := if_pos rfl
theorem ins_other {g : PMap} {a b : Addr} {o : Obj} (h : b ≠ a) : ins g a o b = g b := if_neg h
theorem Rep.gnone {W hid g env vars mu h} (R : Rep W hid g env vars mu h) {a : Addr} (ha : h.get? a = none) : g a = none := by
  cases e : g a with
  | none => rfl
  | some o => rw [R.gs a o e] at ha; cases ha
theorem Rep.hnone {W hid g env vars mu h} (R : Rep W hid g env vars mu h) {a : Addr} (ha : h.get? a = none) : hid a = none := by
  cases e : hid a with
  | none => rfl
  | some o => obtain ⟨sl, x, _⟩ := R.hs a o e; rw [x] at ha; cases ha
theorem le_ins {g : PMap} {a : Addr} {o : Obj} (h : g a = none) : Le g (ins g a o) := fun b o' e => by
  by_cases q : b = a
  · subst q; rw [h] at e; cases e
  · rw [ins_other q]; exact e

/-- a fresh object is frozen -/
theorem Rep.freeze {W hid g env vars mu h h'} (R : Rep W hid g env vars mu h) (k : Kept h h') {a : Addr} {o : Obj} (ha : h.get? a = none) (ho : h'.get? a = some o) :
    Rep W hid (ins g a o) env vars mu h' ∧ Le g (ins g a o) := by
  have l := le_ins (o := o) (R.gnone ha)
  have ne : ∀ {b o'}, h.get? b = some o' → b ≠ a := fun e q => by rw [q, ha] at e; cases e
  have R' := R.keeps k
  obtain ⟨m, hn⟩ := R.ns
  have hL : env.locals ≠ a := by obtain ⟨_, _, _, e, _⟩ := hn; exact ne e
  refine ⟨⟨fun b o' e => l _ _ (R.bs b o' e), fun b o' e => ?_, R'.hs, fun b o' e => ?_, R'.ns, fun x d e => let ⟨u, i, v⟩ := R'.vs x d e; ⟨u, i.mono l, v⟩, ?_, R.hL, fun x c e => ?_, R.cnd, fun b lb e => ?_, R.mnd⟩, l⟩
  · by_cases q : b = a
    · subst q; rw [ins_same] at e; cases e; exact ho
    · rw [ins_other q] at e; exact k _ _ (R.gs b o' e)
  · by_cases q : b = a
    · subst q; exact R.hnone ha
    · rw [ins_other q] at e; exact R.gh b o' e
  · rw [ins_other hL]; exact R.gL
  · obtain ⟨hc, hg, hx⟩ := R'.cell x c e
    obtain ⟨⟨v', hc'⟩, _⟩ := R.cell x c e
    have : c ≠ a := by obtain ⟨_, e, _⟩ := hc'; exact ne e
    exact ⟨hc, by rw [ins_other this]; exact hg, hx⟩
  · obtain ⟨vs, n, x, i, hg, r⟩ := R.mus b lb e
    exact ⟨vs, n, k _ _ x, i.mono l, by rw [ins_other (ne x)]; exact hg, r⟩

theorem Rep.fresh_size {h : Heap} : h.get? h.objs.size = none := by
  cases e : h.get? h.objs.size with
  | none => rfl
  | some o => exact absurd (Heap.lt_size e) (Nat.lt_irrefl _)
theorem kept_push (h : Heap) (o : Obj) : Kept h (h.push o) := fun _ _ e => Heap.get?_push_of_some _ e
theorem kept_trans {h h' h'' : Heap} (a : Kept h h') (b : Kept h' h'') : Kept h h'' := fun x o e => b x o (a x o e)

def AsList (mu : Mu) (d : PV) (l : List PV) : Prop := d = .list l ∨ ∃ a, d = .loc a ∧ (a, l) ∈ mu
theorem AsList.list {mu l} : AsList mu (.list l) l := .inl rfl
theorem AsList.get {W hid g env vars mu h d l u} (x : AsList mu d l) (R : Rep W hid g env vars mu h) (i : Is g d u) : ∃ a vs, u = .ref a ∧ h.IsList a vs ∧ Iss g l vs.toList := by
  rcases x with rfl | ⟨a, rfl, hm⟩
  · cases i with
    | list e r => exact ⟨_, _, rfl, ⟨_, R.gs _ _ e, rfl, _, rfl⟩, r⟩
  · cases i
    obtain ⟨vs, n, e, r, _⟩ := R.mus a l hm
    exact ⟨a, vs, rfl, ⟨_, e, rfl, n, rfl⟩, r⟩

/-- the expression comes out as d, and leaves the frame as it stands -/
def Ev (W : Wk) (A : Around) (hid : PMap) (env : Env) (vars : Vars) (mu : Mu) (e : Expr) (d : PV) : Prop :=
  ∀ g h t (Q : Value → Shared → Prop) (E : Value → Shared → Prop), Rep W hid g env vars mu h →
    (∀ u g' h' t', Le g g' → Rep W hid g' env vars mu h' → Is g' d u → Q u (W.S h' t')) → wpAny W.M A (eval e env) Q E (W.S h t)

def Tr (W : Wk) (A : Around) (hid : PMap) (env : Env) (vars : Vars) (mu : Mu) (e : Expr) (b : Bool) : Prop :=
  ∀ g h t (Q : Bool → Shared → Prop) (E : Value → Shared → Prop), Rep W hid g env vars mu h →
    (∀ g' h' t', Le g g' → Rep W hid g' env vars mu h' → Q b (W.S h' t')) → wpAny W.M A (isTrue e env (eval e env)) Q E (W.S h t)

/-- an operation on values -/
def Op (W : Wk) (A : Around) (hid : PMap) (env : Env) (vars : Vars) (mu : Mu) (ds : List PV) (f : List Value → Sem Value) (d : PV) : Prop :=
  ∀ g h t us (Q : Value → Shared → Prop) (E : Value → Shared → Prop), Rep W hid g env vars mu h → Iss g ds us →
    (∀ u g' h' t', Le g g' → Rep W hid g' env vars mu h' → Is g' d u → Q u (W.S h' t')) → wpAny W.M A (f us) Q E (W.S h t)

def EvArgs (W : Wk) (A : Around) (hid : PMap) (env : Env) (vars : Vars) (mu : Mu) (es : List Expr) (ds : List PV) : Prop :=
  ∀ pos g h t (Q : List Value → Shared → Prop) (E : Value → Shared → Prop), Rep W hid g env vars mu h →
    (∀ us g' h' t', Le g g' → Rep W hid g' env vars mu h' → Iss g' ds us → Q us (W.S h' t')) → wpAny W.M A (spliced (backTo pos (starEach es env))) Q E (W.S h t)

structure GName (W : Wk) (env : Env) (x : Str) (v : Value) : Prop where
  kind : env.scope.kind = .function
  glob : env.globals = mainGlobals
  bn : env.builtins = builtinsNs
  k : env.kindOf x = some .globalImplicit
  db : (x == ("__debug__" : Str)) = false
  v : W.mg x = some v ∨ (W.mg x = none ∧ x ≠ "__name__" ∧ bootBuiltins x = some v)

section
variable {W : Wk} {A : Around} {hid : PMap} {env : Env} {vars : Vars} {mu : Mu}

theorem ev_name {x : Str} {pos : Pos} {d : PV} (hd : vars.lookup x = some d) (hk : env.scope.kind = .function) : Ev W A hid env vars mu (.Name x pos) d := by
  intro g h t Q E R k
  obtain ⟨u, i, hdb, ⟨hl, m, hn, hm⟩ | ⟨c, hx, hc, hv⟩⟩ := R.vs x d hd
  · exact wpAny_Name (wpAny_loadName_local hk hl hn hm (k u g h t (Le.refl g) R i)) hdb
  · rcases hx with hx | ⟨hx, hcd⟩
    · exact wpAny_Name (wpAny_loadName_cell hk hx hc hv (k u g h t (Le.refl g) R i)) hdb
    · exact wpAny_Name (wpAny_loadName_free hk hx hc hv (k u g h t (Le.refl g) R i) hcd) hdb

theorem ev_int {i : Int} {k : Nat} {pos : Pos} : Ev W A hid env vars mu (.Constant (.int i) k pos) (.int i) :=
  fun g h t _ _ R kk => wpAny_Constant_int (kk _ g h _ (Le.refl g) R .int)
theorem ev_bool {b : Bool} {k : Nat} {pos : Pos} : Ev W A hid env vars mu (.Constant (.bool b) k pos) (.bool b) :=
  fun g h t _ _ R kk => wpAny_pure (kk _ g h _ (Le.refl g) R .bool)
theorem ev_none {k : Nat} {pos : Pos} : Ev W A hid env vars mu (.Constant .none k pos) .none :=
  fun g h t _ _ R kk => wpAny_pure (kk _ g h _ (Le.refl g) R .none)
theorem ev_str {x : Str} {k : Nat} {pos : Pos} : Ev W A hid env vars mu (.Constant (.str x) k pos) (.str x) :=
  fun g h t _ _ R kk => (fun Γ p _ => by
    show Sem.wp _ Γ (mkText x) _ _ p _
    rw [Sem.wp_cmd_mkText]; exact kk _ g h _ (Le.refl g) R .str)

theorem ev_binop {l r : Expr} {op : Operator} {pos : Pos} {a b d : PV} (ha : Ev W A hid env vars mu l a) (hb : Ev W A hid env vars mu r b)
    (hop : ∀ g h t u v Q E, Rep W hid g env vars mu h → Is g a u → Is g b v → (∀ x g' h' t', Le g g' → Rep W hid g' env vars mu h' → Is g' d x → Q x (W.S h' t')) → wpAny W.M A (binaryOp op u v) Q E (W.S h t)) :
    Ev W A hid env vars mu (.BinOp l op r pos) d := by
  intro g h t Q E R k
  refine wpAny_BinOp (ha g h t _ E R fun u g1 h1 t1 l1 R1 i1 => hb g1 h1 t1 _ E R1 fun v g2 h2 t2 l2 R2 i2 => ?_)
  exact hop g2 h2 t2 u v _ E R2 (i1.mono l2) i2 fun x g3 h3 t3 l3 R3 i3 => k x g3 h3 t3 ((l1.trans l2).trans l3) R3 i3

theorem ev_add {l r : Expr} {pos : Pos} {a b : Int} (ha : Ev W A hid env vars mu l (.int a)) (hb : Ev W A hid env vars mu r (.int b)) : Ev W A hid env vars mu (.BinOp l .Add r pos) (.int (a + b)) :=
  ev_binop ha hb fun g h t u v Q E R iu iv k => by
    cases iu; cases iv; exact P.add_int (k _ g h _ (Le.refl g) R .int)
theorem ev_sub {l r : Expr} {pos : Pos} {a b : Int} (ha : Ev W A hid env vars mu l (.int a)) (hb : Ev W A hid env vars mu r (.int b)) : Ev W A hid env vars mu (.BinOp l .Sub r pos) (.int (a - b)) :=
  ev_binop ha hb fun g h t u v Q E R iu iv k => by
    cases iu; cases iv; exact P.sub_int (k _ g h _ (Le.refl g) R .int)
theorem ev_mul {l r : Expr} {pos : Pos} {a b : Int} (ha : Ev W A hid env vars mu l (.int a)) (hb : Ev W A hid env vars mu r (.int b)) (hm : IntMulOk a b) : Ev W A hid env vars mu (.BinOp l .Mult r pos) (.int (a * b)) :=
  ev_binop ha hb fun g h t u v Q E R iu iv k => by
    cases iu; cases iv; exact P.mul_int (k _ g h _ (Le.refl g) R .int) hm
theorem ev_mod {l r : Expr} {pos : Pos} {a b : Int} (ha : Ev W A hid env vars mu l (.int a)) (hb : Ev W A hid env vars mu r (.int b)) (h0 : b ≠ 0) : Ev W A hid env vars mu (.BinOp l .Mod r pos) (.int (a.fmod b)) :=
  ev_binop ha hb fun g h t u v Q E R iu iv k => by
    cases iu; cases iv; exact mod_int' h0 (k _ g h _ (Le.refl g) R .int)
end
end Mine
end

section
open PySem PySem.W PyProof.Rows PySem.Calls
set_option linter.unusedVariables false
set_option maxRecDepth 100000
namespace Mine
section
variable {W : Wk} {A : Around} {hid : PMap} {env : Env} {vars : Vars} {mu : Mu}

theorem Rep.nsg {g h} (R : Rep W hid g env vars mu h) (O : W.Ok) : h.Ns mainGlobals W.mg := O.g.keeps fun b o e => R.gs _ _ (R.bs b o e)
theorem Rep.nsb {g h} (R : Rep W hid g env vars mu h) (O : W.Ok) : h.Ns builtinsNs W.mb := O.b.keeps fun b o e => R.gs _ _ (R.bs b o e)
theorem Rep.base {g h} (R : Rep W hid g env vars mu h) : Kept W.base h := fun b o e => R.gs _ _ (R.bs b o e)

theorem name_global {g h t x v pos} {Q : Value → Shared → Prop} {E} (O : W.Ok) (N : GName W env x v) (R : Rep W hid g env vars mu h) (k : Q v (W.S h t)) : wpAny W.M A (eval (.Name x pos) env) Q E (W.S h t) := by
  rcases N.v with e | ⟨e, hn, hb⟩
  · exact Name_function_global N.kind N.k (loadGlobal_global (by rw [N.glob]; exact R.nsg O) e k) N.db
  · exact Name_function_global N.kind N.k (loadGlobal_builtin (by rw [N.glob]; exact R.nsg O) e (by rw [N.bn]; exact R.nsb O) ((O.builtins x hn).trans hb) k) N.db

theorem Rep.alloc {g h} (R : Rep W hid g env vars mu h) (o : Obj) (hf : o.isFreed = false) : Rep W hid (ins g h.objs.size o) env vars mu (h.push o) ∧ Le g (ins g h.objs.size o) :=
  R.freeze (kept_push h o) Rep.fresh_size (Heap.get?_push_size _ hf)
theorem Rep.allocK {g₀ g h d} {o : Obj} {Q : Value → Shared → Prop} (R : Rep W hid g env vars mu h) (l : Le g₀ g) (k : ∀ u g' h' t', Le g₀ g' → Rep W hid g' env vars mu h' → Is g' d u → Q u (W.S h' t')) (hf : o.isFreed = false)
    {t' u} (i : Le g (ins g h.objs.size o) → Is (ins g h.objs.size o) d u) : Q u (W.S (h.push o) t') := k _ _ _ _ (l.trans (R.alloc o hf).2) (R.alloc o hf).1 (i (R.alloc o hf).2)

theorem evargs_nil : EvArgs W A hid env vars mu [] [] := fun pos g h t Q E R k => Calls.spliced_nil (k _ g h t (Le.refl g) R .nil)
theorem evargs_cons {e : Expr} {es : List Expr} {d ds} (he : Ev W A hid env vars mu e d) (hes : EvArgs W A hid env vars mu es ds)
    (hs : starEach (e :: es) env = (false, eval e env) :: starEach es env) : EvArgs W A hid env vars mu (e :: es) (d :: ds) := fun pos g h t Q E R k =>
  args_cons (he g h t _ E R fun u g1 h1 t1 l1 R1 i1 => hes pos g1 h1 t1 _ E R1 fun us g2 h2 t2 l2 R2 i2 => k _ g2 h2 t2 (l1.trans l2) R2 (.cons (i1.mono l2) i2)) hs

theorem ev_call_builtin {x : Str} {np pos : Pos} {id : String} {e : Expr} {es : List Expr} {ds : List PV} {d : PV} (O : W.Ok) (N : GName W env x (.builtin id)) (ha : EvArgs W A hid env vars mu (e :: es) ds)
    (hop : Op W A hid env vars mu ds (fun us => call (.builtin id) us) d)
    (hs : starEach (e :: es) env = (false, eval e env) :: starEach es env) (hp : (backTo pos (starEach es env)).any (·.1) = false) : Ev W A hid env vars mu (.Call (.Name x np) (e :: es) [] pos) d := fun g h t Q E R k =>
  Call_ (name_global O N R (PyProof.Rows.callWith_builtin1 (ha pos g h t _ E R fun us g1 h1 t1 l1 R1 i1 =>
    hop g1 h1 t1 us _ E R1 i1 fun u g2 h2 t2 l2 R2 i2 => k u g2 h2 t2 (l1.trans l2) R2 i2) hs hp)) rfl
theorem ev_call_type {x : Str} {np pos : Pos} {T : String} {e : Expr} {es : List Expr} {ds : List PV} {d : PV} (O : W.Ok) (N : GName W env x (.type T)) (ha : EvArgs W A hid env vars mu (e :: es) ds)
    (hop : Op W A hid env vars mu ds (fun us => call (.type T) us) d)
    (hs : starEach (e :: es) env = (false, eval e env) :: starEach es env) (hp : (backTo pos (starEach es env)).any (·.1) = false) : Ev W A hid env vars mu (.Call (.Name x np) (e :: es) [] pos) d := fun g h t Q E R k =>
  Call_ (name_global O N R (PyProof.Rows.callWith_type1 (ha pos g h t _ E R fun us g1 h1 t1 l1 R1 i1 =>
    hop g1 h1 t1 us _ E R1 i1 fun u g2 h2 t2 l2 R2 i2 => k u g2 h2 t2 (l1.trans l2) R2 i2) hs hp)) rfl

theorem op_len {d l} (hl : AsList mu d l) (hf : l.length < 2 ^ 62) : Op W A hid env vars mu [d] (fun us => call (.builtin "len") us) (.int l.length) := fun g h t us Q E R i k => by
  cases i with
  | cons i r =>
    cases r
    obtain ⟨a, vs, rfl, h1, h2⟩ := hl.get R i
    have e : vs.size = l.length := by have := h2.length; simpa using this
    refine call_len_list h1 (by rw [e]; omega) ?_
    rw [e]
    exact k _ g h _ (Le.refl g) R .int
theorem op_sum {d} {ns : List Int} (hh : A.handled = none) (hl : AsList mu d (ns.map .int)) : Op W A hid env vars mu [d] (fun us => call (.builtin "sum") us) (.int ns.sum) := fun g h t us Q E R i k => by
  cases i with
  | cons i r =>
    cases r
    obtain ⟨a, vs, rfl, h1, h2⟩ := hl.get R i
    have hi := h2.toInts
    obtain ⟨xs, hx⟩ := hi.allInts.items
    rw [Array.toArray_toList] at hx
    subst hx
    refine sum_intListG hh h1 fun h' tk t' hk => ?_
    have hn := hi.numsOf
    rw [preSum_eq, List.take_of_length_le (by simp)]
    rw [nums_intItems] at hn
    rw [hn]
    exact k _ g h' _ (Le.refl g) (R.keeps hk) .int
theorem op_abs {n : Int} : Op W A hid env vars mu [.int n] (fun us => call (.builtin "abs") us) (.int (n.natAbs : Int)) := fun g h t us Q E R i k => by
  cases i with
  | cons i r =>
    cases r; cases i
    refine call_abs_int fun u tk => ?_
    have e : (if n < 0 then -n else n) = (n.natAbs : Int) := by split <;> omega
    rw [e]
    exact k _ g h _ (Le.refl g) R .int
theorem op_int {n : Int} : Op W A hid env vars mu [.int n] (fun us => call (.type "int") us) (.int n) := fun g h t us Q E R i k => by
  cases i with
  | cons i r =>
    cases r; cases i
    exact call_int_int (k _ g h _ (Le.refl g) R .int)
theorem op_range1 {n : Int} : Op W A hid env vars mu [.int n] (fun us => call (.type "range") us) (.rng 0 n) := fun g h t us Q E R i k => by
  cases i with
  | cons i r =>
    cases r; cases i
    refine call_range_1 ?_
    exact R.allocK (Le.refl g) k rfl fun _ => .rng (ins_same _ _ _)
theorem op_range2 {n m : Int} : Op W A hid env vars mu [.int n, .int m] (fun us => call (.type "range") us) (.rng n m) := fun g h t us Q E R i k => by
  cases i with
  | cons i r =>
    cases i
    cases r with
    | cons i r =>
      cases r; cases i
      refine call_range_2 ?_
      exact R.allocK (Le.refl g) k rfl fun _ => .rng (ins_same _ _ _)

/-- a list display, a tuple display -/
theorem ev_tuple {es : List Expr} {ds n pos} (ha : EvArgs W A hid env vars mu es ds) (hl : ds.length ≤ 1000) : Ev W A hid env vars mu (.Tuple es n pos) (.tup ds) := fun g h t Q E R k =>
  Tuple_ (ha pos g h t _ E R fun us g1 h1 t1 l1 R1 i1 => by
    refine wpAny_newObj_type ?_ (by show us.toArray.size ≤ sizeLine; rw [List.size_toArray, i1.length, sizeLine_eq]; omega)
    exact R1.allocK l1 k rfl fun l => .tup (ins_same _ _ _) (by simpa using i1.mono l))
theorem ev_list {es : List Expr} {ds pos} (ha : EvArgs W A hid env vars mu es ds) (hl : ds.length ≤ 1000) : Ev W A hid env vars mu (.List es pos) (.list ds) := fun g h t Q E R k =>
  List_ (ha pos g h t _ E R fun us g1 h1 t1 l1 R1 i1 => by
    refine wpAny_newObj_type ?_ (by show us.toArray.size ≤ sizeLine; rw [List.size_toArray, i1.length, sizeLine_eq]; omega)
    exact R1.allocK l1 k rfl fun l => .list (ins_same _ _ _) (by simpa using i1.mono l))

/-- items -/
theorem ev_item {v s : Expr} {pos d i r} (hv : Ev W A hid env vars mu v d) (hs : Ev W A hid env vars mu s i)
    (hop : ∀ g h t u w Q E, Rep W hid g env vars mu h → Is g d u → Is g i w → (∀ x g' h' t', Le g g' → Rep W hid g' env vars mu h' → Is g' r x → Q x (W.S h' t')) → wpAny W.M A (subscriptTail v s u w) Q E (W.S h t)) :
    Ev W A hid env vars mu (.Subscript v s pos) r := fun g h t Q E R k =>
  Subscript_ (hv g h t _ E R fun u g1 h1 t1 l1 R1 i1 => hs g1 h1 t1 _ E R1 fun w g2 h2 t2 l2 R2 i2 =>
    hop g2 h2 t2 u w Q E R2 (i1.mono l2) i2 fun x g3 h3 t3 l3 R3 i3 => k x g3 h3 t3 ((l1.trans l2).trans l3) R3 i3)
end
end Mine
end

section
open PySem PySem.W PyProof.Rows PySem.Calls PySem.SeqAt
set_option linter.unusedVariables false
set_option maxRecDepth 100000
namespace Mine
section
variable {W : Wk} {A : Around} {hid : PMap} {env : Env} {vars : Vars} {mu : Mu}

/-- what the frames around must be for a walk -/
structure AOk (W : Wk) (A : Around) (n : Nat) : Prop where
  handled : A.handled = none
  depth : A.depth + n ≤ 500
  units : A.units + 3 * n ≤ 4000
  frames : ∃ e l, A.frames = some (e :: l) ∧ e.scope.isGenerator = false ∧ e.scope.isCoroutine = false ∧ e.builtins = builtinsNs ∧ e.globals = mainGlobals

theorem pyl {n g h t} (O : W.Ok) (a : AOk W A n) (R : Rep W hid g env vars mu h) : PylongRoom W.M A (W.S h t) := by
  obtain ⟨e, l, h1, h2, h3, h4, h5⟩ := a.frames
  refine PylongRoom.of (O.nolimit.keeps R.base) ?_ (SeerAt.of (O.seer.keeps R.base) O.tree h1 h2 h3 h4 h5)
  have := a.depth
  show A.depth + 100 < 1000
  omega

theorem ev_fdiv {n} {l r : Expr} {pos : Pos} {a b : Int} (O : W.Ok) (ao : AOk W A n) (ha : Ev W A hid env vars mu l (.int a)) (hb : Ev W A hid env vars mu r (.int b)) (h0 : b ≠ 0) : Ev W A hid env vars mu (.BinOp l .FloorDiv r pos) (.int (a.fdiv b)) :=
  ev_binop ha hb fun g h t u v Q E R iu iv k => by
    cases iu; cases iv; exact floordiv_int h0 (k _ g h _ (Le.refl g) R .int) (.inr (pyl O ao R))
theorem ev_neg {e : Expr} {pos : Pos} {a : Int} (ha : Ev W A hid env vars mu e (.int a)) : Ev W A hid env vars mu (.UnaryOp .USub e pos) (.int (-a)) := fun g h t Q E R k => by
  show wpAny _ _ (do let v ← eval e env; standAt pos; holding [v] (unaryOp .USub v)) _ _ _
  refine wpAny_bind (ha g h t _ E R fun u g1 h1 t1 l1 R1 i1 => wpAny_bind (wpAny_standAt (wpAny_holding ?_)))
  cases i1
  exact P.neg_int (k _ g1 h1 _ l1 R1 .int)

theorem sub_ops (s : Expr) (u w : Value) : ∃ ops, subscripted s false u w = operate ops (getItem u w) := by
  unfold subscripted; split <;> first | exact ⟨_, rfl⟩ | (rename_i hh; cases hh)

/-- the place of an index in a list of n -/
def idx (k : Int) (n : Nat) : Nat := if 0 ≤ k then k.toNat else (k + n).toNat

theorem ev_idx {v s : Expr} {pos d l k r} (hv : Ev W A hid env vars mu v d) (hs : Ev W A hid env vars mu s (.int k)) (hl : AsList mu d l) (h1 : -(l.length : Int) ≤ k) (h2 : k < l.length) (hn : l.length < 2 ^ 62)
    (hr : l[idx k l.length]? = some r) : Ev W A hid env vars mu (.Subscript v s pos) r :=
  ev_item hv hs fun g h t u w Q E R i j kk => by
    obtain ⟨a, vs, rfl, q1, q2⟩ := hl.get R i
    cases j
    rename_i tk
    obtain ⟨x, hx, ix⟩ := q2.get _ _ hr
    obtain ⟨ops, ho⟩ := sub_ops s (.ref a) (.int k tk)
    have hlen : vs.size = l.length := by have := q2.length; simpa using this
    refine tail_any q1.typeIs slot_list_getitem.lookup ?_ ho
    by_cases h0 : 0 ≤ k
    · rw [idx, if_pos h0] at hx
      exact wpAny_getItem_list q1 h0 (by omega) (by simpa using hx) (kk x g h t (Le.refl g) R ix)
    · rw [idx, if_neg h0] at hx
      exact wpAny_getItem_list_neg q1 (by omega) (by omega) (by omega) (by rw [hlen]; simpa using hx) (kk x g h t (Le.refl g) R ix)
theorem ev_tidx {v s : Expr} {pos l k r} (hv : Ev W A hid env vars mu v (.tup l)) (hs : Ev W A hid env vars mu s (.int k)) (h1 : 0 ≤ k) (h2 : k < l.length) (hn : l.length < 2 ^ 62)
    (hr : l[k.toNat]? = some r) : Ev W A hid env vars mu (.Subscript v s pos) r :=
  ev_item hv hs fun g h t u w Q E R i j kk => by
    cases i with
    | tup e q2 =>
      cases j
      rename_i a vs n tk
      obtain ⟨x, hx, ix⟩ := q2.get _ _ hr
      obtain ⟨ops, ho⟩ := sub_ops s (.ref a) (.int k tk)
      have hlen : vs.size = l.length := by have := q2.length; simpa using this
      have ht : IsTup h a vs := ⟨_, R.gs _ _ e, rfl, n, rfl⟩
      refine tail_any ht.typeIs slot_tuple_getitem.lookup (getItem_tuple (s := W.S h t) ht (by omega) (by omega) (j := k.toNat) ?_ (by simpa using hx) (kk x g h t (Le.refl g) R ix)) ho
      unfold seqIndex?
      rw [hlen]
      simp only [decide_eq_true_eq, Bool.and_eq_true]
      (repeat' split) <;> first | rfl | omega

/-- comparisons -/
theorem ev_cmp {l r : Expr} {op : CmpOp} {pos : Pos} {a b d : PV} (ha : Ev W A hid env vars mu l a) (hb : Ev W A hid env vars mu r b) (hm : behindInMarks op r = false)
    (hop : Op W A hid env vars mu [a, b] (fun us => compareOp op (us.getD 0 .none) (us.getD 1 .none)) d) : Ev W A hid env vars mu (.Compare l [op] [r] pos) d := fun g h t Q E R k =>
  wpAny_Compare1 (ha g h t _ E R fun u g1 h1 t1 l1 R1 i1 => hb g1 h1 t1 _ E R1 fun v g2 h2 t2 l2 R2 i2 =>
    hop g2 h2 t2 [u, v] _ E R2 (.cons (i1.mono l2) (.cons i2 .nil)) fun x g3 h3 t3 l3 R3 i3 => k x g3 h3 t3 ((l1.trans l2).trans l3) R3 i3) hm
theorem tr_cmp {l r : Expr} {op : CmpOp} {pos : Pos} {a b : PV} {c : Bool} (ha : Ev W A hid env vars mu l a) (hb : Ev W A hid env vars mu r b) (hm : behindInMarks op r = false)
    (hop : Op W A hid env vars mu [a, b] (fun us => compareOp op (us.getD 0 .none) (us.getD 1 .none)) (.bool c)) : Tr W A hid env vars mu (.Compare l [op] [r] pos) c := fun g h t Q E R k =>
  wpAny_isTrue_Compare1 (ha g h t _ E R fun u g1 h1 t1 l1 R1 i1 => hb g1 h1 t1 _ E R1 fun v g2 h2 t2 l2 R2 i2 =>
    hop g2 h2 t2 [u, v] _ E R2 (.cons (i1.mono l2) (.cons i2 .nil)) fun x g3 h3 t3 l3 R3 i3 => by cases i3; exact wpAny_truthy_bool (k g3 h3 t3 ((l1.trans l2).trans l3) R3)) hm

theorem op2 {a b d : PV} {f : Value → Value → Sem Value} (h : ∀ g h t u v Q E, Rep W hid g env vars mu h → Is g a u → Is g b v → (∀ x g' h' t', Le g g' → Rep W hid g' env vars mu h' → Is g' d x → Q x (W.S h' t')) → wpAny W.M A (f u v) Q E (W.S h t)) :
    Op W A hid env vars mu [a, b] (fun us => f (us.getD 0 .none) (us.getD 1 .none)) d := fun g h' t us Q E R i k => by
  cases i with
  | cons i r => cases r with
    | cons j r => cases r; exact h g h' t _ _ Q E R i j k

theorem c_lt {a b : Int} : Op W A hid env vars mu [.int a, .int b] (fun us => compareOp .Lt (us.getD 0 .none) (us.getD 1 .none)) (.bool (decide (a < b))) :=
  op2 fun g h t u v Q E R i j k => by cases i; cases j; exact P.lt_int (k _ g h t (Le.refl g) R .bool)
theorem c_gt {a b : Int} : Op W A hid env vars mu [.int a, .int b] (fun us => compareOp .Gt (us.getD 0 .none) (us.getD 1 .none)) (.bool (decide (a > b))) :=
  op2 fun g h t u v Q E R i j k => by cases i; cases j; exact P.gt_int (k _ g h t (Le.refl g) R .bool)
theorem c_eq {a b : Int} : Op W A hid env vars mu [.int a, .int b] (fun us => compareOp .Eq (us.getD 0 .none) (us.getD 1 .none)) (.bool (a == b)) :=
  op2 fun g h t u v Q E R i j k => by cases i; cases j; exact P.eq_int (k _ g h t (Le.refl g) R .bool)
theorem c_ne {a b : Int} : Op W A hid env vars mu [.int a, .int b] (fun us => compareOp .NotEq (us.getD 0 .none) (us.getD 1 .none)) (.bool (a != b)) :=
  op2 fun g h t u v Q E R i j k => by cases i; cases j; exact P.ne_int (k _ g h t (Le.refl g) R .bool)
theorem c_eqs {a b : Str} : Op W A hid env vars mu [.str a, .str b] (fun us => compareOp .Eq (us.getD 0 .none) (us.getD 1 .none)) (.bool (a == b)) :=
  op2 fun g h t u v Q E R i j k => by cases i; cases j; exact PyProof.Rows.eq_str (k _ g h t (Le.refl g) R .bool)
def PV.isNone : PV → Bool
  | .none => true
  | _ => false
theorem c_isnn {a : PV} (ha : ∀ v, a ≠ .val v) : Op W A hid env vars mu [a, .none] (fun us => compareOp .IsNot (us.getD 0 .none) (us.getD 1 .none)) (.bool (!a.isNone)) :=
  op2 fun g h t u v Q E R i j k => by
    cases j
    cases i <;> first | exact absurd rfl (ha _) | exact isnot_none_none (k _ g h t (Le.refl g) R .bool) | exact isnot_none_ne (by intro q; cases q) (k _ g h t (Le.refl g) R .bool)
theorem c_ini {d} {ns : List Int} {x : Int} (hl : AsList mu d (ns.map .int)) : Op W A hid env vars mu [.int x, d] (fun us => compareOp .In (us.getD 0 .none) (us.getD 1 .none)) (.bool (ns.any (· == x))) :=
  op2 fun g h t u v Q E R i j k => by
    obtain ⟨a, vs, rfl, q1, q2⟩ := hl.get R j
    cases i
    exact in_list_ints (vs := vs.toList) (by simpa using q1) q2.toInts (k _ g h t (Le.refl g) R .bool)
theorem c_ins {d} {ns : List Str} {x : Str} (hl : AsList mu d (ns.map .str)) : Op W A hid env vars mu [.str x, d] (fun us => compareOp .In (us.getD 0 .none) (us.getD 1 .none)) (.bool (ns.any (· == x))) :=
  op2 fun g h t u v Q E R i j k => by
    obtain ⟨a, vs, rfl, q1, q2⟩ := hl.get R j
    cases i
    rename_i tk
    have key : ∀ {ns : List Str} {vs : List Value}, Iss g (ns.map .str) vs → vs.any (fun v => match v with | .str y _ => y == x | _ => false) = ns.any (· == x) ∧ ∀ y ∈ vs, ∃ z tz, y = .str z tz := by
      intro ns
      induction ns with
      | nil => intro vs h; cases h; exact ⟨rfl, fun y hy => nomatch hy⟩
      | cons n r ih =>
        intro vs h
        cases h with
        | cons h1 h2 =>
          cases h1
          obtain ⟨k1, k2⟩ := ih h2
          refine ⟨by simp [k1], fun y hy => ?_⟩
          rcases List.mem_cons.mp hy with rfl | hy
          · exact ⟨_, _, rfl⟩
          · exact k2 y hy
    obtain ⟨k1, k2⟩ := key q2
    refine in_listAt (fun v => match v with | .str y _ => y == x | _ => false) q1 (fun y hy => ?_) ?_
    · obtain ⟨z, tz, rfl⟩ := k2 y (by simpa using hy)
      exact fun prog w E Q hq => eqBool_str hq
    · rw [show vs.any (fun v => match v with | .str y _ => y == x | _ => false) = ns.any (· == x) by rw [← k1]; simp]
      exact k _ g h t (Le.refl g) R .bool
end
end Mine
end

section
open PySem PySem.W PyProof.Rows PySem.Calls PySem.SeqAt
set_option linter.unusedVariables false
set_option maxRecDepth 100000
namespace Mine

theorem perm_sorted_eq {l₁ l₂ : List Int} (p : l₁.Perm l₂) (h₁ : l₁.Pairwise (· ≤ ·)) (h₂ : l₂.Pairwise (· ≤ ·)) : l₁ = l₂ := by
  induction l₁ generalizing l₂ with
  | nil => exact (List.nil_perm.mp p).symm
  | cons a r ih =>
    cases l₂ with
    | nil => exact absurd p.symm (by simp)
    | cons b s =>
      have ha := List.pairwise_cons.mp h₁
      have hb := List.pairwise_cons.mp h₂
      have e : a = b := by
        have m1 : a ∈ b :: s := p.subset List.mem_cons_self
        have m2 : b ∈ a :: r := p.symm.subset List.mem_cons_self
        rcases List.mem_cons.mp m1 with e | m1
        · exact e
        · rcases List.mem_cons.mp m2 with e | m2
          · exact e.symm
          · have := ha.1 b m2; have := hb.1 a m1; omega
      subst e
      rw [ih (List.Perm.cons_inv p) ha.2 hb.2]
def sortI (l : List Int) : List Int := l.mergeSort (fun a b => decide (a ≤ b))
theorem sortI_perm (l : List Int) : (sortI l).Perm l := List.mergeSort_perm _ _
theorem sortI_sorted (l : List Int) : (sortI l).Pairwise (· ≤ ·) := by
  have := List.pairwise_mergeSort (le := fun a b : Int => decide (a ≤ b)) (fun a b c h1 h2 => by simp at *; omega) (fun a b => by simp; omega) l
  exact this.imp (by simp)
theorem eq_sortI {l l' : List Int} (p : l'.Perm l) (h : l'.Pairwise (· ≤ ·)) : l' = sortI l := perm_sorted_eq (p.trans (sortI_perm l).symm) h (sortI_sorted l)

section
variable {W : Wk} {A : Around} {hid : PMap} {env : Env} {vars : Vars} {mu : Mu}

theorem op_sorted {d} {ns : List Int} (hl : AsList mu d (ns.map .int)) (h64 : ns.length < 64) : Op W A hid env vars mu [d] (fun us => call (.builtin "sorted") us) (.list ((sortI ns).map .int)) := fun g h t us Q E R i k => by
  cases i with
  | cons i r =>
    cases r
    obtain ⟨a, vs, rfl, q1, q2⟩ := hl.get R i
    have hi := q2.toInts
    have hlen : vs.toList.length = ns.length := by have := q2.length; simpa using this
    refine sorted_ints (vs := vs.toList) (by simpa using q1) hi (by omega) fun out ns' a1 a2 a3 => ?_
    obtain ⟨e, he⟩ := sortedAll_at h vs.toList out
    obtain ⟨R', l⟩ := R.freeze (h' := sortedAll h vs.toList out) (fun _ _ => sortedAll_old) (a := h.objs.size + 1) (by
      cases q : h.get? (h.objs.size + 1) with
      | none => rfl
      | some o => exact absurd (Heap.lt_size q) (Nat.not_lt.mpr (Nat.le_succ _))) he
    rw [← eq_sortI a2 a3] at k
    exact k _ _ _ _ l R' (.list (ins_same _ _ _) ((Iss.of_ints a1).mono l))
/-- truth of a value -/
def PV.truth (mu : Mu) : PV → Bool → Prop
  | .none, b => b = false
  | .bool c, b => b = c
  | .int i, b => b = (i != 0)
  | .list l, b => b = (!l.isEmpty) ∧ l.length < 2 ^ 62
  | .loc a, b => ∃ l, (a, l) ∈ mu ∧ b = (!l.isEmpty) ∧ l.length < 2 ^ 62
  | _, _ => False
theorem truthy_list {g h t a l} {vs : Array Value} {Q : Bool → Shared → Prop} {E} (q1 : h.IsList a vs) (q2 : Iss g l vs.toList) (hs : vs.size < 2 ^ 62) (k : ∀ t', Q (!l.isEmpty) (W.S h t')) : wpAny W.M A (truthy (.ref a)) Q E (W.S h t) := by
  have e : (!l.isEmpty) = !vs.isEmpty := by
    have := q2.length
    obtain ⟨vs⟩ := vs
    cases l <;> cases vs <;> simp_all
  rw [e] at k
  exact wpAny_truthy_list q1 (by omega) (k _)
theorem truthy_pv {g h t d u b} {Q : Bool → Shared → Prop} {E} (R : Rep W hid g env vars mu h) (i : Is g d u) (hb : d.truth mu b) (k : ∀ t', Q b (W.S h t')) : wpAny W.M A (truthy u) Q E (W.S h t) := by
  cases i with
  | none => cases hb; exact wpAny_pure (k t)
  | bool => cases hb; exact wpAny_truthy_bool (k t)
  | int => cases hb; exact P.truthy_int (k t)
  | str => exact hb.elim
  | tup => exact hb.elim
  | list e q =>
    obtain ⟨rfl, hb⟩ := hb
    exact truthy_list (g := g) ⟨_, R.gs _ _ e, rfl, _, rfl⟩ q (by have := q.length; simp at this; omega) k
  | rng => exact hb.elim
  | loc =>
    obtain ⟨l, hm, rfl, hb⟩ := hb
    obtain ⟨vs, n, e, r, _⟩ := R.mus _ l hm
    exact truthy_list ⟨_, e, rfl, n, rfl⟩ r (by have := r.length; simp at this; omega) k
  | val => exact hb.elim

/-- the expression's own truth, where it is no test by form -/
theorem tr_of {e : Expr} {d b} (he : Ev W A hid env vars mu e d) (hb : d.truth mu b) (hf : ∀ v : Sem Value, isTrue e env v = (do let x ← v; standAt e.pos; holding [x] (truthy x))) : Tr W A hid env vars mu e b := fun g h t Q E R k => by
  rw [hf]
  refine wpAny_bind (he g h t _ E R fun u g1 h1 t1 l1 R1 i1 => wpAny_bind (wpAny_standAt (wpAny_holding ?_)))
  exact truthy_pv R1 i1 hb fun t' => k g1 h1 t' l1 R1
theorem tr_not {e : Expr} {pos b} (he : Tr W A hid env vars mu e b) : Tr W A hid env vars mu (.UnaryOp .Not e pos) (!b) := fun g h t Q E R k => by
  show wpAny _ _ (do return !(← isTrue e env (eval e env))) _ _ _
  exact wpAny_bind (he g h t _ E R fun g1 h1 t1 l1 R1 => wpAny_pure (k g1 h1 t1 l1 R1))
/-- the tests of a chain of and, or -/
inductive TrAll (W : Wk) (A : Around) (hid : PMap) (env : Env) (vars : Vars) (mu : Mu) (op : BoolOp) : List Expr → Bool → Prop where
  | nil : TrAll W A hid env vars mu op [] (op == .And)
  | stop {a es b} : Tr W A hid env vars mu a b → b = (op == .Or) → TrAll W A hid env vars mu op (a :: es) b
  | more {a es b c} : Tr W A hid env vars mu a b → b = (op == .And) → TrAll W A hid env vars mu op es c → TrAll W A hid env vars mu op (a :: es) c
theorem TrAll.run {op es b} (x : TrAll W A hid env vars mu op es b) : ∀ g h t (Q : Bool → Shared → Prop) E, Rep W hid g env vars mu h → (∀ g' h' t', Le g g' → Rep W hid g' env vars mu h' → Q b (W.S h' t')) → wpAny W.M A (allTrue op es env) Q E (W.S h t) := by
  induction x with
  | nil => intro g h t Q E R k; exact wpAny_pure (k g h t (Le.refl g) R)
  | @stop a es b ha hb =>
    intro g h t Q E R k
    show wpAny _ _ (do match op, ← isTrue a env (eval a env) with | .And, false => pure false | .Or, true => pure true | _, _ => allTrue op es env) _ _ _
    refine wpAny_bind (ha g h t _ E R fun g1 h1 t1 l1 R1 => ?_)
    subst hb
    cases op <;> exact wpAny_pure (k g1 h1 t1 l1 R1)
  | @more a es b c ha hb _ ih =>
    intro g h t Q E R k
    show wpAny _ _ (do match op, ← isTrue a env (eval a env) with | .And, false => pure false | .Or, true => pure true | _, _ => allTrue op es env) _ _ _
    refine wpAny_bind (ha g h t _ E R fun g1 h1 t1 l1 R1 => ?_)
    subst hb
    cases op <;> exact ih g1 h1 t1 Q E R1 fun g2 h2 t2 l2 R2 => k g2 h2 t2 (l1.trans l2) R2
theorem tr_bool {op es pos b} (x : TrAll W A hid env vars mu op es b) : Tr W A hid env vars mu (.BoolOp op es pos) b := fun g h t Q E R k => x.run g h t Q E R k

theorem ev_if {c a b : Expr} {pos d} {x : Bool} (hc : Tr W A hid env vars mu c x) (ht : x = true → Ev W A hid env vars mu a d) (he : x = false → Ev W A hid env vars mu b d) : Ev W A hid env vars mu (.IfExp c a b pos) d := fun g h t Q E R k => by
  show wpAny _ _ (do if ← isTrue c env (eval c env) then eval a env else eval b env) _ _ _
  refine wpAny_bind (hc g h t _ E R fun g1 h1 t1 l1 R1 => ?_)
  cases x
  · exact he rfl g1 h1 t1 Q E R1 fun u g2 h2 t2 l2 R2 i2 => k u g2 h2 t2 (l1.trans l2) R2 i2
  · exact ht rfl g1 h1 t1 Q E R1 fun u g2 h2 t2 l2 R2 i2 => k u g2 h2 t2 (l1.trans l2) R2 i2
/-- x or y, as a value -/
theorem ev_or {a b : Expr} {pos da d} {x : Bool} (ha : Ev W A hid env vars mu a da) (hx : da.truth mu x) (h1 : x = true → da = d) (h2 : x = false → Ev W A hid env vars mu b d) : Ev W A hid env vars mu (.BoolOp .Or [a, b] pos) d := fun g h t Q E R k => by
  show wpAny _ _ (boolOp pos .Or [eval a env, eval b env]) _ _ _
  unfold boolOp
  refine wpAny_bind (ha g h t _ E R fun u g1 h1' t1 l1 R1 i1 => wpAny_bind (wpAny_standAt (wpAny_bind (wpAny_holding (truthy_pv R1 i1 hx fun t' => ?_)))))
  cases x
  · exact h2 rfl g1 h1' t' Q E R1 fun u g2 h2 t2 l2 R2 i2 => k u g2 h2 t2 (l1.trans l2) R2 i2
  · cases h1 rfl; exact wpAny_pure (k u g1 h1' t' l1 R1 i1)
theorem ev_and {a b : Expr} {pos da d} {x : Bool} (ha : Ev W A hid env vars mu a da) (hx : da.truth mu x) (h1 : x = false → da = d) (h2 : x = true → Ev W A hid env vars mu b d) : Ev W A hid env vars mu (.BoolOp .And [a, b] pos) d := fun g h t Q E R k => by
  show wpAny _ _ (boolOp pos .And [eval a env, eval b env]) _ _ _
  unfold boolOp
  refine wpAny_bind (ha g h t _ E R fun u g1 h1' t1 l1 R1 i1 => wpAny_bind (wpAny_standAt (wpAny_bind (wpAny_holding (truthy_pv R1 i1 hx fun t' => ?_)))))
  cases x
  · cases h1 rfl; exact wpAny_pure (k u g1 h1' t' l1 R1 i1)
  · exact h2 rfl g1 h1' t' Q E R1 fun u g2 h2 t2 l2 R2 i2 => k u g2 h2 t2 (l1.trans l2) R2 i2
end
end Mine
end

section
open PySem PySem.W PyProof.Rows PySem.Calls PySem.SeqAt
set_option linter.unusedVariables false
set_option maxRecDepth 100000
namespace Mine

inductive Out where
  | next (vars : Vars) (mu : Mu)
  | brk (vars : Vars) (mu : Mu)
  | cont (vars : Vars) (mu : Mu)
  | ret (d : PV)
  | exc (x : Value) (vars : Vars) (mu : Mu)

def FlowOk (W : Wk) (hid : PMap) (env : Env) (K : Out → Prop) (g : PMap) : Flow → Shared → Prop
  | .next, s => ∃ vars mu g' h t, s = W.S h t ∧ K (.next vars mu) ∧ Le g g' ∧ Rep W hid g' env vars mu h
  | .brk, s => ∃ vars mu g' h t, s = W.S h t ∧ K (.brk vars mu) ∧ Le g g' ∧ Rep W hid g' env vars mu h
  | .cont, s => ∃ vars mu g' h t, s = W.S h t ∧ K (.cont vars mu) ∧ Le g g' ∧ Rep W hid g' env vars mu h
  | .ret u, s => ∃ d g' h t, s = W.S h t ∧ K (.ret d) ∧ Le g g' ∧ RepE W hid g' h ∧ Is g' d u

/-- how an exception stands that has been made in this frame, or has come into it: l the frames, h₁ where all was known -/
inductive XForm (W : Wk) (l : List Env) (g : PMap) (h₁ : Heap) (x : Value) (a : Addr) (h' : Heap) : Prop where
  | made (args : List Value) : Heap.MadeExcOf h₁ h' a x args → XForm W l g h₁ x a h'
  | fly (B : Heap) (a0 : Value) : Heap.FlyingW B l a x a0 h' → (∀ b o, g b = some o → B.get? b = some o) → (∀ b o, h₁.get? b = some o → (∀ es ep, o.data ≠ .dict es ep) → B.get? b = some o) → h₁.UpToSlots h' → XForm W l g h₁ x a h'
  | held (B : Heap) (a0 : Value) (L : Addr) (env : Env) (r : List Env) : l = env :: r → env.frame = some L → Heap.HeldW B l a x a0 L h' → (∀ b o, g b = some o → B.get? b = some o) → (∀ b o, h₁.get? b = some o → (∀ es ep, o.data ≠ .dict es ep) → B.get? b = some o) → h₁.UpToSlots h' → XForm W l g h₁ x a h'

def ExcOk (W : Wk) (A : Around) (hid : PMap) (env : Env) (K : Out → Prop) (g : PMap) (e : Value) (s : Shared) : Prop :=
  ∃ x vars mu g₁ h₁ a l h t, e = .ref a ∧ s = W.S h t ∧ K (.exc x vars mu) ∧ Le g g₁ ∧ Rep W hid g₁ env vars mu h₁ ∧ A.frames = some l ∧ XForm W l g₁ h₁ x a h

def Run (W : Wk) (A : Around) (hid : PMap) (env : Env) (vars : Vars) (mu : Mu) (t : Sem Flow) (K : Out → Prop) : Prop :=
  ∀ g h tk, Rep W hid g env vars mu h → wpAny W.M A t (FlowOk W hid env K g) (ExcOk W A hid env K g) (W.S h tk)

abbrev Exs (W : Wk) (A : Around) (hid : PMap) (env : Env) (vars : Vars) (mu : Mu) (b : List Stmt) (K : Out → Prop) : Prop := Run W A hid env vars mu (execs b env) K
abbrev Ex1 (W : Wk) (A : Around) (hid : PMap) (env : Env) (vars : Vars) (mu : Mu) (b : Stmt) (K : Out → Prop) : Prop := Run W A hid env vars mu (exec b env) K

section
variable {W : Wk} {A : Around} {hid : PMap} {env : Env} {vars : Vars} {mu : Mu} {K K' : Out → Prop}

theorem FlowOk.le {g g' f s} (l : Le g g') (x : FlowOk W hid env K g' f s) : FlowOk W hid env K g f s := by
  cases f with
  | ret u => obtain ⟨d, g'', h, t, e, k, l', r⟩ := x; exact ⟨d, g'', h, t, e, k, l.trans l', r⟩
  | next => obtain ⟨v, m, g'', h, t, e, k, l', r⟩ := x; exact ⟨v, m, g'', h, t, e, k, l.trans l', r⟩
  | brk => obtain ⟨v, m, g'', h, t, e, k, l', r⟩ := x; exact ⟨v, m, g'', h, t, e, k, l.trans l', r⟩
  | cont => obtain ⟨v, m, g'', h, t, e, k, l', r⟩ := x; exact ⟨v, m, g'', h, t, e, k, l.trans l', r⟩
theorem ExcOk.le {g g' e s} (l : Le g g') (x : ExcOk W A hid env K g' e s) : ExcOk W A hid env K g e s := by
  obtain ⟨x, vars, mu, g₁, h₁, a, fl, h, t, e1, e2, k, l', r⟩ := x
  exact ⟨x, vars, mu, g₁, h₁, a, fl, h, t, e1, e2, k, l.trans l', r⟩
theorem Run.imp {t} (x : Run W A hid env vars mu t K) (k : ∀ o, K o → K' o) : Run W A hid env vars mu t K' := fun g h tk R =>
  wpAny_mono (x g h tk R) (fun f s y => by
    cases f with
    | ret u => obtain ⟨d, g'', h, t, e, q, r⟩ := y; exact ⟨d, g'', h, t, e, k _ q, r⟩
    | next => obtain ⟨v, m, g'', h, t, e, q, r⟩ := y; exact ⟨v, m, g'', h, t, e, k _ q, r⟩
    | brk => obtain ⟨v, m, g'', h, t, e, q, r⟩ := y; exact ⟨v, m, g'', h, t, e, k _ q, r⟩
    | cont => obtain ⟨v, m, g'', h, t, e, q, r⟩ := y; exact ⟨v, m, g'', h, t, e, k _ q, r⟩) fun e s y => by
    obtain ⟨x, vars, mu, g₁, h₁, a, fl, h, t, e1, e2, q, r⟩ := y
    exact ⟨x, vars, mu, g₁, h₁, a, fl, h, t, e1, e2, k _ q, r⟩

/-- what was known may be forgotten -/
def Sub (v' v : Vars) : Prop := ∀ x d, v'.lookup x = some d → v.lookup x = some d
theorem Sub.nil {v : Vars} : Sub [] v := fun x d e => by cases e
theorem Sub.cons {v' v : Vars} {x : Str} {d : PV} (h : v.lookup x = some d) (s : Sub v' v) : Sub ((x, d) :: v') v := fun y e q => by
  rw [List.lookup_cons] at q
  cases hb : y == x with
  | true => rw [hb] at q; cases q; rw [beq_iff_eq.mp hb]; exact h
  | false => rw [hb] at q; exact s y e q
theorem Rep.forget {g h v' m'} (R : Rep W hid g env vars mu h) (s : Sub v' vars) (hm : m'.Sublist mu) : Rep W hid g env v' m' h :=
  ⟨R.bs, R.gs, R.hs, R.gh, R.ns, fun x d e => R.vs x d (s x d e), R.gL, R.hL, R.cell, R.cnd, fun a l e => R.mus a l (hm.subset e), (hm.map _).nodup R.mnd⟩
theorem run_forget {t v' m'} (s : Sub v' vars) (hm : m'.Sublist mu) (x : Run W A hid env v' m' t K) : Run W A hid env vars mu t K := fun g h tk R => x g h tk (R.forget s hm)

theorem exs_nil (k : K (.next vars mu)) : Exs W A hid env vars mu [] K := fun g h tk R => wpAny_execs_nil ⟨vars, mu, g, h, tk, rfl, k, Le.refl g, R⟩
theorem exs_cons {st rest} (x : Ex1 W A hid env vars mu st K') (h1 : ∀ v m, K' (.next v m) → Exs W A hid env v m rest K) (h2 : ∀ o, K' o → (∀ v m, o ≠ .next v m) → K o) : Exs W A hid env vars mu (st :: rest) K := fun g h tk R => by
  show wpAny _ _ (do match ← exec st env with | .next => execs rest env | f => pure f) _ _ _
  refine wpAny_bind (wpAny_mono (x g h tk R) (fun f s y => ?_) fun e s y => ?_)
  · cases f with
    | next =>
      obtain ⟨v, m, g', h', t', rfl, q, l, R'⟩ := y
      exact wpAny_mono (h1 v m q g' h' t' R') (fun f s y => y.le l) fun e s y => y.le l
    | brk => obtain ⟨v, m, g'', h, t, e, q, r⟩ := y; exact wpAny_pure ⟨v, m, g'', h, t, e, h2 _ q (fun _ _ z => nomatch z), r⟩
    | cont => obtain ⟨v, m, g'', h, t, e, q, r⟩ := y; exact wpAny_pure ⟨v, m, g'', h, t, e, h2 _ q (fun _ _ z => nomatch z), r⟩
    | ret u => obtain ⟨d, g'', h, t, e, q, r⟩ := y; exact wpAny_pure ⟨d, g'', h, t, e, h2 _ q (fun _ _ z => nomatch z), r⟩
  · obtain ⟨x, vars, mu, g₁, h₁, a, fl, h, t, e1, e2, q, r⟩ := y
    exact ⟨x, vars, mu, g₁, h₁, a, fl, h, t, e1, e2, h2 _ q (fun _ _ z => nomatch z), r⟩
/-- a statement that goes on one way -/
theorem exs_next {st rest v m} (x : Ex1 W A hid env vars mu st (· = .next v m)) (k : Exs W A hid env v m rest K) : Exs W A hid env vars mu (st :: rest) K :=
  exs_cons x (fun v' m' e => by cases e; exact k) fun o e h => by subst e; exact absurd rfl (h _ _)

/-- a name of this frame that may be stored -/
inductive Sto (hid : PMap) (env : Env) (x : Str) : Prop where
  | loc : env.kindOf x = some .local → Sto hid env x
  | cell (c : Addr) : env.kindOf x = some .cell → env.cells.lookup x = some c → hid c = none → Sto hid env x

theorem lookup_cons_ne {α : Type} {x y : Str} {d : α} {v : List (Str × α)} (h : y ≠ x) : ((x, d) :: v).lookup y = v.lookup y := by
  rw [List.lookup_cons, beq_false_of_ne h]
theorem lookup_cons_eq {α : Type} {x : Str} {d : α} {v : List (Str × α)} : ((x, d) :: v).lookup x = some d := by
  rw [List.lookup_cons, beq_self_eq_true]

/-- storing a value -/
theorem store_K {x : Str} {d : PV} {u : Value} {g h t} {Q : Unit → Shared → Prop} {E} (hs : Sto hid env x) (hk : env.scope.kind = .function) (hd : (x == ("__debug__" : Str)) = false) (R : Rep W hid g env vars mu h) (i : Is g d u)
    (k : ∀ h' t', Rep W hid g env ((x, d) :: vars) mu h' → Q () (W.S h' t')) : wpAny W.M A (storeName env x u) Q E (W.S h t) := by
  have vsStep : ∀ {h'}, (∀ y e, vars.lookup y = some e → y ≠ x → ∃ w, Is g e w ∧ VarAt h' env y w) → VarAt h' env x u → ∀ y e, ((x, d) :: vars).lookup y = some e → ∃ w, Is g e w ∧ VarAt h' env y w := by
    intro h' h1 h2 y e q
    by_cases hy : y = x
    · subst hy; rw [lookup_cons_eq] at q; cases q; exact ⟨u, i, h2⟩
    · rw [lookup_cons_ne hy] at q; exact h1 y e q hy
  rcases hs with hl | ⟨c, hl, hc, hh⟩
  · obtain ⟨m, hn⟩ := R.ns
    refine wpAny_storeName_local hl hn (fun h' hn' hs' => ?_) (by rw [hk]; rfl)
    refine k h' _ ⟨R.bs, fun a o e => ?_, fun a o e => ?_, R.gh, ⟨_, hn'⟩, vsStep (fun y e q hy => ?_) ⟨hd, .inl ⟨hl, _, hn', if_pos rfl⟩⟩, R.gL, R.hL, fun y c e => ?_, R.cnd, fun a l e => ?_, R.mnd⟩
    · exact (hs'.2 a (fun q => by rw [q, R.gL] at e; cases e)).trans (R.gs a o e)
    · obtain ⟨sl, e1, e2⟩ := R.hs a o e
      exact ⟨sl, (hs'.2 a (fun q => by rw [q, R.hL] at e; cases e)).trans e1, e2⟩
    · obtain ⟨w, i', hd', ⟨hl', m', hn2, hm'⟩ | ⟨c, hk', hc', hv'⟩⟩ := R.vs y e q
      · have : m' y = m y := by
          obtain ⟨o1, es1, ep1, p1, p2, p3, p4⟩ := hn
          obtain ⟨o2, es2, ep2, q1, q2, q3, q4⟩ := hn2
          rw [p1] at q1; cases q1; rw [p2] at q2; cases q2
          rw [← q4, ← p4]
        exact ⟨w, i', hd', .inl ⟨hl', _, hn', by rw [if_neg hy, ← this]; exact hm'⟩⟩
      · exact ⟨w, i', hd', .inr ⟨c, hk', hc', hv'.sameBut hs' (R.cell y c hc').2.2⟩⟩
    · obtain ⟨⟨v, hv⟩, r⟩ := R.cell y c e
      exact ⟨⟨v, hv.sameBut hs' r.2⟩, r⟩
    · obtain ⟨vs, n, e1, r1, r2, r3, r4, r5⟩ := R.mus a l e
      exact ⟨vs, n, (hs'.2 a r4).trans e1, r1, r2, r3, r4, r5⟩
  · obtain ⟨⟨v₀, hv₀⟩, hgc, hcL⟩ := R.cell x c hc
    obtain ⟨m, hn⟩ := R.ns
    refine wpAny_storeName_cell hk hl hc hv₀ fun h' hv' hs' => ?_
    refine k h' _ ⟨R.bs, fun a o e => ?_, fun a o e => ?_, R.gh, ⟨m, hn.sameBut hs' (Ne.symm hcL)⟩, vsStep (fun y e q hy => ?_) ⟨hd, .inr ⟨c, .inl hl, hc, hv'⟩⟩, R.gL, R.hL, fun y c' e => ?_, R.cnd, fun a l e => ?_, R.mnd⟩
    · exact (hs'.2 a (fun q => by rw [q, hgc] at e; cases e)).trans (R.gs a o e)
    · obtain ⟨sl, e1, e2⟩ := R.hs a o e
      exact ⟨sl, (hs'.2 a (fun q => by rw [q, hh] at e; cases e)).trans e1, e2⟩
    · obtain ⟨w, i', hd', ⟨hl', m', hn2, hm'⟩ | ⟨c', hk', hc', hvv⟩⟩ := R.vs y e q
      · exact ⟨w, i', hd', .inl ⟨hl', m', hn2.sameBut hs' (Ne.symm hcL), hm'⟩⟩
      · exact ⟨w, i', hd', .inr ⟨c', hk', hc', hvv.sameBut hs' fun q => hy (R.cnd y x c (q ▸ hc') hc)⟩⟩
    · obtain ⟨⟨v, hv⟩, r⟩ := R.cell y c' e
      by_cases q : c' = c
      · subst q; exact ⟨⟨_, hv'⟩, r⟩
      · exact ⟨⟨v, hv.sameBut hs' q⟩, r⟩
    · obtain ⟨vs, n, e1, r1, r2, r3, r4, r5⟩ := R.mus a l e
      exact ⟨vs, n, (hs'.2 a (fun q => r5 x c hc q.symm)).trans e1, r1, r2, r3, r4, r5⟩

theorem ex_assign {x : Str} {p pos : Pos} {e : Expr} {d : PV} (he : Ev W A hid env vars mu e d) (hs : Sto hid env x) (hsw : swapsWith e (some (.Name x p)) pos.line env = pure false) (hk : env.scope.kind = .function) (hd : (x == ("__debug__" : Str)) = false) :
    Ex1 W A hid env vars mu (.Assign [.Name x p] e pos) (· = .next ((x, d) :: vars) mu) := fun g h t R =>
  wpAny_Assign_Name (he g h t _ _ R fun u g1 h1 t1 l1 R1 i1 => store_K hs hk hd R1 i1 fun h2 t2 R2 => ⟨_, _, g1, h2, t2, rfl, rfl, l1, R2⟩) hsw

theorem a_add {a b : Int} : Op W A hid env vars mu [.int a, .int b] (fun us => inplaceOp .Add (us.getD 0 .none) (us.getD 1 .none)) (.int (a + b)) :=
  op2 fun g h t u v Q E R i j k => by cases i; cases j; exact P.iadd_int (k _ g h _ (Le.refl g) R .int)
theorem ex_if {c : Expr} {b1 b2 : List Stmt} {pos} {x : Bool} (hc : Tr W A hid env vars mu c x) (ht : x = true → Exs W A hid env vars mu b1 K) (he : x = false → Exs W A hid env vars mu b2 K) : Ex1 W A hid env vars mu (.If c b1 b2 pos) K := fun g h t R => by
  refine wpAny_If (hc g h t _ _ R fun g1 h1 t1 l1 R1 => ?_)
  cases x
  · exact wpAny_mono (he rfl g1 h1 t1 R1) (fun f s y => y.le l1) fun e s y => y.le l1
  · exact wpAny_mono (ht rfl g1 h1 t1 R1) (fun f s y => y.le l1) fun e s y => y.le l1
theorem ex_ret {e : Expr} {pos d} (he : Ev W A hid env vars mu e d) : Ex1 W A hid env vars mu (.Return (some e) pos) (· = .ret d) := fun g h t R =>
  wpAny_Return_some (he g h t _ _ R fun u g1 h1 t1 l1 R1 i1 => ⟨_, g1, h1, t1, rfl, rfl, l1, R1.e, i1⟩)

/-- a list of the frame's own is frozen, from here on -/
theorem Rep.freezeLoc {g h a l} (R : Rep W hid g env vars mu h) (hm : (a, l) ∈ mu) : ∃ o, Rep W hid (ins g a o) env vars (mu.filter (·.1 != a)) h ∧ Le g (ins g a o) ∧ Is (ins g a o) (.list l) (.ref a) := by
  obtain ⟨vs, n, e, r, hg, hh, hL, hc⟩ := R.mus a l hm
  have lle := le_ins (o := lobj vs n) hg
  refine ⟨_, ⟨fun b o q => lle _ _ (R.bs b o q), fun b o q => ?_, R.hs, fun b o q => ?_, R.ns, fun x d e => let ⟨u, i, v⟩ := R.vs x d e; ⟨u, i.mono lle, v⟩, by rw [ins_other (Ne.symm hL)]; exact R.gL, R.hL,
    fun x c q => ?_, R.cnd, fun b lb q => ?_, (List.filter_sublist.map _).nodup R.mnd⟩, lle, .list (ins_same _ _ _) (r.mono lle)⟩
  · by_cases z : b = a
    · subst z; rw [ins_same] at q; cases q; exact e
    · rw [ins_other z] at q; exact R.gs b o q
  · by_cases z : b = a
    · subst z; exact hh
    · rw [ins_other z] at q; exact R.gh b o q
  · obtain ⟨k1, k2, k3⟩ := R.cell x c q
    exact ⟨k1, by rw [ins_other (hc x c q)]; exact k2, k3⟩
  · obtain ⟨q1, q2⟩ := List.mem_filter.mp q
    have z : b ≠ a := by simpa using q2
    obtain ⟨vs', n', e', r', g', rest⟩ := R.mus b lb q1
    exact ⟨vs', n', e', r'.mono lle, by rw [ins_other z]; exact g', rest⟩
theorem ex_retloc {e : Expr} {pos a l} (he : Ev W A hid env vars mu e (.loc a)) (hm : (a, l) ∈ mu) : Ex1 W A hid env vars mu (.Return (some e) pos) (· = .ret (.list l)) := fun g h t R =>
  wpAny_Return_some (he g h t _ _ R fun u g1 h1 t1 l1 R1 i1 => by
    cases i1
    obtain ⟨o, R2, l2, i2⟩ := R1.freezeLoc hm
    exact ⟨_, _, h1, t1, rfl, rfl, l1.trans l2, R2.e, i2⟩)
end
end Mine
end

section
open PySem PySem.W PyProof.Rows PySem.Calls PySem.SeqAt
set_option linter.unusedVariables false
set_option maxRecDepth 100000
namespace Mine

def rngL (a b : Int) : List PV := (List.range (b - a).toNat).map fun (i : Nat) => PV.int (a + (i : Int))

/-- what may be iterated -/
inductive Src (mu : Mu) : PV → List PV → Prop where
  | list {d l} : AsList mu d l → Src mu d l
  | tup {l} : Src mu (.tup l) l
  | rng {a b} : -(2 ^ 62) ≤ a → a < 2 ^ 62 → -(2 ^ 62) ≤ b → b < 2 ^ 62 → Src mu (.rng a b) (rngL a b)

/-- an iterator's state: i items are out -/
inductive ItAt (u : Value) : PV → Nat → Addr → Heap → Prop where
  | list {d a i I h} : u = .ref a → (∀ l, d ≠ .tup l) → (∀ x y, d ≠ .rng x y) → h.IsListIter I a i → ItAt u d i I h
  | tup {l a i I h} : u = .ref a → h.IsTupleIter I a i → ItAt u (.tup l) i I h
  | rng {x y i I h} : IsRangeIter h I (x + (i : Nat)) (((y - x).toNat : Int) - (i : Nat)) 1 → ItAt u (.rng x y) i I h
theorem ItAt.at {u d i I h h'} (x : ItAt u d i I h) (k : ∀ o, h.get? I = some o → h'.get? I = some o) : ItAt u d i I h' := by
  cases x with
  | list e h1 h2 q => obtain ⟨o, e1, r⟩ := q; exact .list e h1 h2 ⟨o, k _ e1, r⟩
  | tup e q => obtain ⟨o, e1, r⟩ := q; exact .tup e ⟨o, k _ e1, r⟩
  | rng q => exact .rng (k _ q)
theorem ItAt.fields {u d i I h} (x : ItAt u d i I h) : ∃ o vs, h.get? I = some o ∧ o.data = .fields vs := by
  cases x with
  | list _ _ _ q => obtain ⟨o, e1, _, e2⟩ := q; exact ⟨o, _, e1, e2⟩
  | tup _ q => obtain ⟨o, e1, _, e2⟩ := q; exact ⟨o, _, e1, e2⟩
  | rng q => exact ⟨_, _, q, rfl⟩

section
variable {W : Wk} {A : Around} {hid : PMap} {env : Env} {vars : Vars} {mu : Mu} {K K' : Out → Prop}

theorem AsList.notTup {d l} (x : AsList mu d l) : (∀ l, d ≠ .tup l) ∧ ∀ x y, d ≠ .rng x y := by
  rcases x with rfl | ⟨a, rfl, _⟩ <;> exact ⟨fun _ e => (nomatch e), fun _ _ e => (nomatch e)⟩

theorem iter_start {g h t d its u} {Q : Value → Shared → Prop} {E} (R : Rep W hid g env vars mu h) (s : Src mu d its) (i : Is g d u)
    (k : ∀ o, o.isFreed = false → ItAt u d 0 h.objs.size (h.push o) → Q (.ref h.objs.size) (W.S (h.push o) t)) : wpAny W.M A (pyIter u) Q E (W.S h t) := by
  cases s with
  | list hl =>
    obtain ⟨a, vs, rfl, q1, q2⟩ := hl.get R i
    exact wpAny_pyIter_list q1 (k _ rfl (.list rfl hl.notTup.1 hl.notTup.2 ⟨_, Heap.get?_push_size _ rfl, rfl, rfl⟩))
  | tup =>
    cases i with
    | tup e q2 =>
      refine wpAny_pyIter_tuple (s := W.S h t) ⟨_, R.gs _ _ e, rfl, _, rfl⟩ (k _ rfl (.tup rfl ⟨_, Heap.get?_push_size _ rfl, rfl, rfl⟩))
  | rng h1 h2 h3 h4 =>
    cases i with
    | rng e =>
      rename_i a b r t1 t2 t3
      refine wpAny_pyIter_range (s := W.S h t) (R.gs _ _ e) (small_one h1 h2 h3 h4) (k _ rfl (.rng ?_))
      have e2 : Builtin.Range.rangeSize a b 1 = ((b - a).toNat : Int) := by rw [rangeSize_one]; split <;> omega
      rw [e2]
      have e3 : (a + ((0 : Nat) : Int)) = a := by omega
      have e4 : (((b - a).toNat : Int) - ((0 : Nat) : Int)) = ((b - a).toNat : Int) := by omega
      rw [e3, e4]
      exact Heap.get?_push_size _ rfl

theorem iter_next {g h t d its u I i} {Q : Option Value → Shared → Prop} {E} (hh : A.handled = none) (R : Rep W hid g env vars mu h) (s : Src mu d its) (is : Is g d u) (x : ItAt u d i I h)
    (item : ∀ a v h' t', its[i]? = some a → Is g a v → Heap.SameBut I h h' → ItAt u d (i + 1) I h' → Q (some v) (W.S h' t'))
    (done : its.length ≤ i → ∀ h' t', Heap.ExtBut I h h' → Q none (W.S h' t')) : wpAny W.M A (pyNext (.ref I)) Q E (W.S h t) := by
  cases s with
  | list hl =>
    obtain ⟨a, vs, rfl, q1, q2⟩ := hl.get R is
    cases x with
    | list e n1 n2 q =>
      cases e
      by_cases hi : i < its.length
      · obtain ⟨v, e1, iv⟩ := q2.get i its[i] (List.getElem?_eq_getElem hi)
        exact wpAny_pyNext_list_item q q1 (by simpa using e1) fun h' q' hs => item _ v h' t (List.getElem?_eq_getElem hi) iv hs (.list rfl n1 n2 q')
      · have : vs.size ≤ i := by have := q2.length; simp at this; omega
        exact wpAny_pyNext_list_end hh q q1 (by simpa using this) fun h' he => done (by omega) h' t he
    | tup e q => exact absurd rfl (hl.notTup.1 _)
    | rng q => exact absurd rfl (hl.notTup.2 _ _)
  | tup =>
    cases is with
    | tup e q2 =>
      rename_i a vs n
      have ht : h.IsTuple a vs := ⟨_, R.gs _ _ e, rfl, n, rfl⟩
      cases x with
      | list e n1 n2 q => exact absurd rfl (n1 _)
      | tup e q =>
        cases e
        by_cases hi : i < its.length
        · obtain ⟨v, e1, iv⟩ := q2.get i its[i] (List.getElem?_eq_getElem hi)
          exact wpAny_pyNext_tuple_item (s := W.S h t) q ht (by simpa using e1) fun h' q' hs => item _ v h' t (List.getElem?_eq_getElem hi) iv hs (.tup rfl q')
        · have : vs.size ≤ i := by have := q2.length; simp at this; omega
          exact wpAny_pyNext_tuple_end (s := W.S h t) hh q ht (by simpa using this) fun h' he => done (by omega) h' t he
  | @rng a b h1 h2 h3 h4 =>
    cases x with
    | list e n1 n2 q => exact absurd rfl (n2 _ _)
    | rng q =>
      by_cases hi : i < (b - a).toNat
      · refine wpAny_pyNext_range_item (s := W.S h t) q (by omega) fun h' q' hs => item (.int (a + i)) _ h' _ ?_ .int hs (.rng ?_)
        · simp [rngL, hi]
        · have e1 : a + ((i + 1 : Nat) : Int) = a + (i : Nat) + 1 := by omega
          have e2 : ((b - a).toNat : Int) - ((i + 1 : Nat) : Int) = ((b - a).toNat : Int) - (i : Nat) - 1 := by omega
          rw [e1, e2]; exact q'
      · exact wpAny_pyNext_range_end (s := W.S h t) hh q (by omega) fun h' he => done (by simp [rngL]; omega) h' t he

theorem nocell_of {o : Obj} (hf : ∃ vs, o.data = .fields vs) : ∀ v, o.data ≠ .cell v := fun v e => by obtain ⟨vs, q⟩ := hf; rw [q] at e; cases e
/-- an object of the machinery's own is set aside -/
theorem Rep.hide {g h h'} {I : Addr} {o : Obj} (R : Rep W hid g env vars mu h) (hI : h.get? I = none) (k : Kept h h') (e : h'.get? I = some o) : Rep W (ins hid I o) g env vars mu h' := by
  have R' := R.keeps k
  have ne : ∀ {b o'}, h.get? b = some o' → b ≠ I := fun e q => by rw [q, hI] at e; cases e
  refine ⟨R'.bs, R'.gs, fun a o' q => ?_, fun a o' q => ?_, R'.ns, R'.vs, R'.gL, ?_, R'.cell, R'.cnd, fun a l q => ?_, R'.mnd⟩
  · by_cases z : a = I
    · subst z; rw [ins_same] at q; cases q; exact .of e
    · rw [ins_other z] at q; exact R'.hs a o' q
  · rw [ins_other (ne (R.gs a o' q))]; exact R.gh a o' q
  · obtain ⟨m, _, _, _, e, _⟩ := R.ns
    rw [ins_other (ne e)]; exact R.hL
  · obtain ⟨vs, n, e1, r1, r2, r3, r4⟩ := R.mus a l q
    exact ⟨vs, n, k _ _ e1, r1, r2, by rw [ins_other (ne e1)]; exact r3, r4⟩
theorem Rep.unhide {g h} {I : Addr} {o : Obj} (hI : hid I = none) (R : Rep W (ins hid I o) g env vars mu h) : Rep W hid g env vars mu h := by
  have l : ∀ a o', hid a = some o' → ins hid I o a = some o' := fun a o' q => by
    by_cases z : a = I
    · subst z; rw [hI] at q; cases q
    · rw [ins_other z]; exact q
  have l2 : ∀ a, ins hid I o a = none → hid a = none := fun a q => by
    by_cases z : a = I
    · subst z; exact hI
    · rw [ins_other z] at q; exact q
  exact ⟨R.bs, R.gs, fun a o' q => R.hs a o' (l a o' q), fun a o' q => l2 a (R.gh a o' q), R.ns, R.vs, R.gL, l2 _ R.hL, R.cell, R.cnd, fun a l' q => by
    obtain ⟨vs, n, e1, r1, r2, r3, r4⟩ := R.mus a l' q
    exact ⟨vs, n, e1, r1, r2, l2 _ r3, r4⟩, R.mnd⟩
theorem RepE.unhide {g h} {I : Addr} {o : Obj} (hI : hid I = none) (R : RepE W (ins hid I o) g h) : RepE W hid g h := by
  have l : ∀ a o', hid a = some o' → ins hid I o a = some o' := fun a o' q => by
    by_cases z : a = I
    · subst z; rw [hI] at q; cases q
    · rw [ins_other z]; exact q
  have l2 : ∀ a, ins hid I o a = none → hid a = none := fun a q => by
    by_cases z : a = I
    · subst z; exact hI
    · rw [ins_other z] at q; exact q
  exact ⟨R.bs, R.gs, fun a o' q => R.hs a o' (l a o' q), fun a o' q => l2 a (R.gh a o' q)⟩
/-- the set-aside object is another one now, all else stands -/
theorem Rep.rehide {g h h'} {I : Addr} {o o' : Obj} (R : Rep W (ins hid I o) g env vars mu h) (hI : hid I = none) (hf : ∀ v, o.data ≠ .cell v) (hs : Heap.SameBut I h h') (e : h'.get? I = some o') : Rep W (ins hid I o') g env vars mu h' := by
  have nocell : ∀ {c v}, h.IsCell c v → c ≠ I := by
    rintro c v ⟨oc, e1, e2⟩ rfl
    obtain ⟨sl, e3, _⟩ := R.hs c o (ins_same _ _ _)
    rw [e1] at e3; cases e3
    exact hf _ e2
  have gI : g I = none := by
    cases q : g I with
    | none => rfl
    | some x => have := R.gh I x q; rw [ins_same] at this; cases this
  have LI : env.locals ≠ I := fun q => by have := R.hL; rw [q, ins_same] at this; cases this
  refine ⟨R.bs, fun a x q => (hs.2 a (fun z => by rw [z, gI] at q; cases q)).trans (R.gs a x q), fun a x q => ?_, fun a x q => ?_, ?_, fun x d q => ?_, R.gL, ?_, fun x c q => ?_, R.cnd, fun a l q => ?_, R.mnd⟩
  · by_cases z : a = I
    · subst z; rw [ins_same] at q; cases q; exact .of e
    · rw [ins_other z] at q
      obtain ⟨sl, e1, e2⟩ := R.hs a x (by rw [ins_other z]; exact q)
      exact ⟨sl, (hs.2 a z).trans e1, e2⟩
  · have := R.gh a x q
    have z : a ≠ I := fun z => by rw [z, gI] at q; cases q
    rw [ins_other z] at this ⊢; exact this
  · obtain ⟨m, hn⟩ := R.ns; exact ⟨m, hn.sameBut hs LI⟩
  · obtain ⟨u, i, hd, ⟨hl, m, hn, hm⟩ | ⟨c, hk, hc, hv⟩⟩ := R.vs x d q
    · exact ⟨u, i, hd, .inl ⟨hl, m, hn.sameBut hs LI, hm⟩⟩
    · refine ⟨u, i, hd, .inr ⟨c, hk, hc, ?_⟩⟩
      exact hv.sameBut hs (nocell hv)
  · have := R.hL; rw [ins_other LI] at this ⊢; exact this
  · obtain ⟨⟨v, hv⟩, r⟩ := R.cell x c q
    exact ⟨⟨v, hv.sameBut hs (nocell hv)⟩, r⟩
  · obtain ⟨vs, n, e1, r1, r2, r3, r4⟩ := R.mus a l q
    have z : a ≠ I := fun z => by rw [z, ins_same] at r3; cases r3
    exact ⟨vs, n, (hs.2 a z).trans e1, r1, r2, by rw [ins_other z] at r3 ⊢; exact r3, r4⟩

theorem Rep.letgo {g h h'} {I : Addr} {o : Obj} (R : Rep W (ins hid I o) g env vars mu h) (hI : hid I = none) (hf : ∀ v, o.data ≠ .cell v) (hs : Heap.ExtBut I h h') : Rep W hid g env vars mu h' := by
  have nocell : ∀ {c v}, h.IsCell c v → c ≠ I := by
    rintro c v ⟨oc, e1, e2⟩ rfl
    obtain ⟨sl, e3, _⟩ := R.hs c o (ins_same _ _ _)
    rw [e1] at e3; cases e3
    exact hf _ e2
  have R0 := R.unhide hI
  have gI : g I = none := by
    cases q : g I with
    | none => rfl
    | some x => have := R.gh I x q; rw [ins_same] at this; cases this
  have LI : env.locals ≠ I := fun q => by have := R.hL; rw [q, ins_same] at this; cases this
  have keepNs : ∀ {m}, h.Ns env.locals m → h'.Ns env.locals m := fun hn => by
    obtain ⟨o1, es1, ep1, p1, p2⟩ := hn; exact ⟨o1, es1, ep1, hs _ _ LI p1, p2⟩
  have keepCell : ∀ {c v}, h.IsCell c v → h'.IsCell c v := fun hc => by
    obtain ⟨oc, e1, e2⟩ := id hc; exact ⟨oc, hs _ _ (nocell hc) e1, e2⟩
  refine ⟨R0.bs, fun a x q => hs a x (fun z => by rw [z, gI] at q; cases q) (R.gs a x q), fun a x q => ?_, R0.gh, ?_, fun x d q => ?_, R.gL, R0.hL, fun x c q => ?_, R.cnd, fun a l q => ?_, R.mnd⟩
  · obtain ⟨sl, e1, e2⟩ := R0.hs a x q
    exact ⟨sl, hs a _ (fun z => by rw [z, hI] at q; cases q) e1, e2⟩
  · obtain ⟨m, hn⟩ := R.ns; exact ⟨m, keepNs hn⟩
  · obtain ⟨u, i, hd, ⟨hl, m, hn, hm⟩ | ⟨c, hk, hc, hv⟩⟩ := R.vs x d q
    · exact ⟨u, i, hd, .inl ⟨hl, m, keepNs hn, hm⟩⟩
    · exact ⟨u, i, hd, .inr ⟨c, hk, hc, keepCell hv⟩⟩
  · obtain ⟨⟨v, hv⟩, r⟩ := R.cell x c q
    exact ⟨⟨v, keepCell hv⟩, r⟩
  · obtain ⟨vs, n, e1, r1, r2, r3, r4⟩ := R.mus a l q
    have z : a ≠ I := fun z => by rw [z, ins_same] at r3; cases r3
    exact ⟨vs, n, hs a _ z e1, r1, r2, by rw [ins_other z] at r3; exact r3, r4⟩

theorem FlowOk.unhide {g f s} {I : Addr} {o : Obj} (hI : hid I = none) (x : FlowOk W (ins hid I o) env K g f s) : FlowOk W hid env K g f s := by
  cases f with
  | ret u => obtain ⟨d, g'', h, t, e, k, l', r, i⟩ := x; exact ⟨d, g'', h, t, e, k, l', r.unhide hI, i⟩
  | next => obtain ⟨v, m, g'', h, t, e, k, l', r⟩ := x; exact ⟨v, m, g'', h, t, e, k, l', r.unhide hI⟩
  | brk => obtain ⟨v, m, g'', h, t, e, k, l', r⟩ := x; exact ⟨v, m, g'', h, t, e, k, l', r.unhide hI⟩
  | cont => obtain ⟨v, m, g'', h, t, e, k, l', r⟩ := x; exact ⟨v, m, g'', h, t, e, k, l', r.unhide hI⟩

/-- what a turn's end must be -/
def TurnK (J : Vars → Mu → Prop) (K : Out → Prop) : Out → Prop
  | .next v m => ∃ v' m', Sub v' v ∧ m'.Sublist m ∧ J v' m'
  | .cont v m => ∃ v' m', Sub v' v ∧ m'.Sublist m ∧ J v' m'
  | .brk v m => K (.next v m)
  | .ret d => K (.ret d)
  | .exc _ _ _ => False

/-- a for loop over one name, by what holds between the turns -/
theorem ex_for {x : Str} {p pos : Pos} {e : Expr} {body : List Stmt} {d : PV} {its : List PV} (J : Nat → Vars → Mu → Prop) (hh : A.handled = none) (he : Ev W A hid env vars mu e d) (hsrc : ∀ i v m, J i v m → Src m d its) (h0 : J 0 vars mu)
    (hs : Sto hid env x) (hk : env.scope.kind = .function) (hd : (x == ("__debug__" : Str)) = false) (hf : ∀ x, foldedSetIterable e env x = pure x)
    (turn : ∀ hid' i v m a, (∀ y, Sto hid env y → Sto hid' env y) → its[i]? = some a → J i v m → Exs W A hid' env ((x, a) :: v) m body (TurnK (J (i + 1)) K))
    (done : ∀ v m, J its.length v m → K (.next v m)) : Ex1 W A hid env vars mu (.For (.Name x p) e body [] pos) K := fun g h t R => by
  refine wpAny_For (he g h t _ _ R fun u g1 h1 t1 l1 R1 i1 => iter_start R1 (hsrc 0 _ _ h0) i1 fun o ho hit => ?_) hf
  have hI : h1.get? h1.objs.size = none := Rep.fresh_size
  have hIh : hid h1.objs.size = none := R1.hnone hI
  have e0 : (h1.push o).get? h1.objs.size = some o := Heap.get?_push_size _ ho
  have R2 := R1.hide hI (kept_push h1 o) e0
  generalize h1.objs.size = I at *
  have hof : ∃ vs, o.data = .fields vs := by obtain ⟨o', vs, e1, e2⟩ := hit.fields; rw [e0] at e1; cases e1; exact ⟨vs, e2⟩
  have hsto : ∀ o' y, Sto hid env y → Sto (ins hid I o') env y := fun o' y s => by
    rcases s with s | ⟨c, s1, s2, s3⟩
    · exact .loc s
    · refine .cell c s1 s2 ?_
      obtain ⟨⟨v, oc, e1, e2⟩, _⟩ := R1.cell y c s2
      rw [ins_other (fun z => by rw [z, hI] at e1; cases e1)]; exact s3
  refine codeAny_forLoop (fun n s => ∃ i v m g' h' t' o', n = its.length + 1 - i ∧ i ≤ its.length ∧ s = W.S h' t' ∧ Le g1 g' ∧ J i v m ∧ h'.get? I = some o' ∧ (∃ vs, o'.data = .fields vs) ∧ ItAt u d i I h' ∧ Rep W (ins hid I o') g' env v m h') ?_ (its.length + 1)
    ⟨0, vars, mu, g1, _, t1, o, rfl, Nat.zero_le _, rfl, Le.refl g1, h0, e0, hof, hit, R2⟩
  rintro n s ⟨i, v, m, g', h', t', o', rfl, hile, rfl, lg, hJ, eo, hof', hita, R'⟩
  refine iter_next hh R' (hsrc i v m hJ) (i1.mono lg) hita (fun a w h2 t2 ha iw hsb hit2 => ?_) fun hge h2 t2 hext => ?_
  · have hlt : i < its.length := by
      rcases Nat.lt_or_ge i its.length with q | q
      · exact q
      · rw [List.getElem?_eq_none q] at ha; cases ha
    obtain ⟨o2, vs2, eo2, ef2⟩ := hit2.fields
    have R3 := R'.rehide hIh (nocell_of hof') hsb eo2
    refine wpAny_assign_Name (store_K (hsto o2 x hs) hk hd R3 iw fun h3 t3 R4 => ?_)
    refine wpAny_mono (turn (ins hid I o2) i v m a (hsto o2) ha hJ g' h3 t3 R4) (fun f s3 y => ?_) fun e3 s3 y => ?_
    · have fin : ∀ {v m gg h4 t4}, (∃ v' m', Sub v' v ∧ m'.Sublist m ∧ J (i + 1) v' m') → Le g' gg → Rep W (ins hid I o2) gg env v m h4 → ∃ k, k < its.length + 1 - i ∧ ∃ i v m g' h' t' o', k = its.length + 1 - i ∧ i ≤ its.length ∧ W.S h4 t4 = W.S h' t' ∧ Le g1 g' ∧ J i v m ∧ h'.get? I = some o' ∧ (∃ vs, o'.data = .fields vs) ∧ ItAt u d i I h' ∧ Rep W (ins hid I o') g' env v m h' := by
        rintro v m gg h4 t4 ⟨v', m', s1, s2, hJ'⟩ l4 R5
        obtain ⟨sl, q1, q2⟩ := R5.hs I o2 (ins_same _ _ _)
        have q3 : h4.get? I = some o2 := by rw [q1, q2 (fun es ep z => by rw [ef2] at z; cases z)]
        refine ⟨its.length + 1 - (i + 1), by omega, i + 1, v', m', gg, h4, t4, o2, rfl, by omega, rfl, lg.trans l4, hJ', q3, ⟨vs2, ef2⟩, hit2.at fun o q => ?_, R5.forget s1 s2⟩
        rw [eo2] at q; cases q; exact q3
      cases f with
      | next => obtain ⟨v, m, gg, h4, t4, rfl, k, l4, R5⟩ := y; exact fin k l4 R5
      | cont => obtain ⟨v, m, gg, h4, t4, rfl, k, l4, R5⟩ := y; exact fin k l4 R5
      | brk => obtain ⟨v, m, gg, h4, t4, rfl, k, l4, R5⟩ := y; exact ⟨v, m, gg, h4, t4, rfl, k, (l1.trans lg).trans l4, R5.unhide hIh⟩
      | ret w => obtain ⟨d, gg, h4, t4, rfl, k, l4, R5, i5⟩ := y; exact ⟨d, gg, h4, t4, rfl, k, (l1.trans lg).trans l4, R5.unhide hIh, i5⟩
    · obtain ⟨_, _, _, _, _, _, _, _, _, _, _, k, _⟩ := y; exact k.elim
  · have e : i = its.length := by omega
    subst e
    exact wpAny_execs_nil ⟨v, m, g', h2, t2, rfl, done v m hJ, l1.trans lg, R'.letgo hIh (nocell_of hof') hext⟩
end
end Mine
end

section
open PySem PySem.W PyProof.Rows PySem.Calls PySem.SeqAt
set_option linter.unusedVariables false
set_option maxRecDepth 100000
namespace Mine

def clFrom (env : Env) : List (Str × NameKind) → List (Str × Addr) → List (Str × Addr)
  | [], acc => acc
  | (n, k) :: r, acc => if k == .free then clFrom env r ((n, (env.cells.lookup n).getD 0) :: acc) else clFrom env r acc
def freeFound (env : Env) (names : List (Str × NameKind)) : Bool := names.all fun p => p.2 != .free || (env.cells.lookup p.1).isSome
theorem closure_is {scope : Scope} {env : Env} (h : freeFound env scope.names = true) : closureFor scope env = pure (clFrom env scope.names []) := by
  unfold closureFor
  have key : ∀ (names : List (Str × NameKind)) (acc : List (Str × Addr)), freeFound env names = true →
      (forIn names acc fun x cs => (if (x.2 == NameKind.free) = true then do let a ← cellOf env x.1; pure (ForInStep.yield ((x.1, a) :: cs)) else pure (ForInStep.yield cs) : Sem (ForInStep (List (Str × Addr))))) = pure (clFrom env names acc) := by
    intro names
    induction names with
    | nil => intro acc _; rfl
    | cons p r ih =>
      obtain ⟨n, k⟩ := p
      intro acc hf
      have hf' : ((k != NameKind.free || (env.cells.lookup n).isSome) && freeFound env r) = true := hf
      obtain ⟨h1, h2⟩ := Bool.and_eq_true_iff.mp hf'
      rw [List.forIn_cons]
      unfold clFrom
      by_cases hk : (k == NameKind.free) = true
      · have hs : (env.cells.lookup n).isSome = true := by
          rcases Bool.or_eq_true_iff.mp h1 with q | q
          · simp at q; simp [q] at hk
          · exact q
        obtain ⟨c, hc⟩ := Option.isSome_iff_exists.mp hs
        rw [if_pos hk, if_pos hk, hc]
        simp only [cellOf, hc, pure_bind, Option.getD_some]
        exact ih _ h2
      · rw [if_neg hk, if_neg hk]
        simp only [pure_bind]
        exact ih _ h2
  have := key scope.names [] h
  simpa using this

theorem clFrom_lookup {env : Env} : ∀ {names : List (Str × NameKind)} {acc : List (Str × Addr)} {x c}, freeFound env names = true → (clFrom env names acc).lookup x = some c → acc.lookup x = some c ∨ env.cells.lookup x = some c
  | [], _, _, _, _, h => .inl h
  | (n, k) :: r, acc, x, c, hf, h => by
    have hf' : ((k != NameKind.free || (env.cells.lookup n).isSome) && freeFound env r) = true := hf
    obtain ⟨h1, h2⟩ := Bool.and_eq_true_iff.mp hf'
    unfold clFrom at h
    split at h
    · rename_i hk
      rcases clFrom_lookup h2 h with q | q
      · by_cases hx : x = n
        · subst hx
          rw [lookup_cons_eq] at q
          rcases Bool.or_eq_true_iff.mp h1 with z | z
          · simp at z; simp [z] at hk
          · obtain ⟨c', hc⟩ := Option.isSome_iff_exists.mp z
            rw [hc] at q; simp at q; subst q; exact .inr hc
        · rw [lookup_cons_ne hx] at q; exact .inl q
      · exact .inr q
    · exact clFrom_lookup h2 h
theorem clFrom_acc {env : Env} : ∀ {names : List (Str × NameKind)} {acc : List (Str × Addr)} {x}, (∀ k, (x, k) ∈ names → k ≠ .free) → (clFrom env names acc).lookup x = acc.lookup x
  | [], _, _, _ => rfl
  | (n, k) :: r, acc, x, h => by
    unfold clFrom
    split
    · rename_i hk
      rw [clFrom_acc (fun k hk => h k (.tail _ hk)), lookup_cons_ne]
      rintro rfl
      exact h k (.head _) (by simpa using hk)
    · exact clFrom_acc (fun k hk => h k (.tail _ hk))
theorem clFrom_free {env : Env} : ∀ {names : List (Str × NameKind)} {acc : List (Str × Addr)} {x c}, (x, NameKind.free) ∈ names → env.cells.lookup x = some c → (clFrom env names acc).lookup x = some c
  | (n, k) :: r, acc, x, c, h, hc => by
    unfold clFrom
    by_cases hr : (x, NameKind.free) ∈ r
    · split <;> exact clFrom_free hr hc
    · rcases List.mem_cons.mp h with e | h
      · cases e
        rw [if_pos (by simp), clFrom_acc (fun k hk e => hr (e ▸ hk)), lookup_cons_eq, hc]; rfl
      · exact absurd h hr

theorem cellsFrom_lookup : ∀ {names : List (Str × NameKind)} {h : Heap} {acc : List (Str × Addr)} {x c}, (cellsFrom h.objs.size names acc).lookup x = some c → acc.lookup x = some c ∨ ((pushCells h names).IsCell c none ∧ h.objs.size ≤ c)
  | [], _, _, _, _, e => .inl e
  | (n, k) :: r, h, acc, x, c, e => by
    unfold cellsFrom at e
    unfold pushCells
    split at e
    · rename_i hk
      rw [if_pos hk]
      have e' : (cellsFrom (h.push { cls := .type "cell", data := .cell none }).objs.size r ((n, h.objs.size) :: acc)).lookup x = some c := by rw [Heap.size_push]; exact e
      rcases cellsFrom_lookup e' with q | ⟨q1, q2⟩
      · by_cases hx : x = n
        · subst hx; rw [lookup_cons_eq] at q; cases q
          exact .inr ⟨⟨_, pushCells_keeps _ _ _ _ (Heap.get?_push_size _ rfl), rfl⟩, Nat.le_refl _⟩
        · rw [lookup_cons_ne hx] at q; exact .inl q
      · rw [Heap.size_push] at q2; exact .inr ⟨q1, by omega⟩
    · rename_i hk
      rw [if_neg hk]
      exact cellsFrom_lookup e
theorem cellsFrom_inj : ∀ {names : List (Str × NameKind)} {n : Nat} {acc : List (Str × Addr)}, (∀ x y c, acc.lookup x = some c → acc.lookup y = some c → x = y) → (∀ x c, acc.lookup x = some c → c < n) →
    ∀ x y c, (cellsFrom n names acc).lookup x = some c → (cellsFrom n names acc).lookup y = some c → x = y
  | [], _, _, h1, _ => h1
  | (nm, k) :: r, n, acc, h1, h2 => by
    unfold cellsFrom
    split
    · refine cellsFrom_inj (fun x y c e1 e2 => ?_) (fun x c e => ?_)
      · by_cases hx : x = nm <;> by_cases hy : y = nm
        · rw [hx, hy]
        · subst hx; rw [lookup_cons_eq] at e1; rw [lookup_cons_ne hy] at e2; cases e1; exact absurd (h2 _ _ e2) (Nat.lt_irrefl _)
        · subst hy; rw [lookup_cons_eq] at e2; rw [lookup_cons_ne hx] at e1; cases e2; exact absurd (h2 _ _ e1) (Nat.lt_irrefl _)
        · rw [lookup_cons_ne hx] at e1; rw [lookup_cons_ne hy] at e2; exact h1 x y c e1 e2
      · by_cases hx : x = nm
        · subst hx; rw [lookup_cons_eq] at e; cases e; exact Nat.lt_succ_self _
        · rw [lookup_cons_ne hx] at e; exact Nat.lt_succ_of_lt (h2 x c e)
    · exact cellsFrom_inj h1 h2
theorem cellsFrom_not : ∀ {names : List (Str × NameKind)} {n : Nat} {acc : List (Str × Addr)} {x}, (∀ k, (x, k) ∈ names → k ≠ .cell) → (cellsFrom n names acc).lookup x = acc.lookup x
  | [], _, _, _, _ => rfl
  | (nm, k) :: r, n, acc, x, h => by
    unfold cellsFrom
    split
    · rename_i hk
      rw [cellsFrom_not (fun k hk => h k (.tail _ hk)), lookup_cons_ne]
      rintro rfl; exact h k (.head _) (by simpa using hk)
    · exact cellsFrom_not (fun k hk => h k (.tail _ hk))

/-- the environment of a comprehension's block -/
def cEnv (scope : Scope) (C : Addr) (env : Env) : Env :=
  { scope := relabel scope env, locals := C, globals := env.globals, cells := cellsFrom (C + 1) scope.names (clFrom env scope.names []), qual := env.qual, func := none, code := env.code, frame := env.frame, builtins := env.builtins }

theorem wpAny_newCompEnv {M : Model} {A : Around} {E : Value → Shared → Prop} {s : Shared} {scope : Scope} {globals : Addr} {cl : List (Str × Addr)} {qual : Str} {outer : Env} {Q : Env → Shared → Prop}
    (hQ : Q { scope, locals := s.heap.objs.size, globals, cells := cellsFrom (s.heap.objs.size + 1) scope.names cl, qual, func := none, code := outer.code, frame := outer.frame, builtins := outer.builtins }
      { s with heap := pushCells (s.heap.push { cls := .type "dict", data := .dict #[] }) scope.names }) :
    wpAny M A (newFunctionEnv scope globals cl [] qual none .none (some outer)) Q E s := by
  simp only [newFunctionEnv, Option.isSome_some, if_true]
  refine wpAny_bind (wpAny_alloc ?_)
  refine wpAny_bind (wpAny_layCells _ (fun name kind cells => by cases hkc : kind == NameKind.cell <;> simp [hkc]) _ _ _ _ ?_)
  rw [show ({ s with heap := s.heap.push { cls := .type "dict", data := .dict #[] } } : Shared).heap.objs.size = s.heap.objs.size + 1 from Heap.size_push ..]
  simp only [List.forIn_nil]
  exact wpAny_bind (wpAny_pure (wpAny_pure hQ))

def rest (g : PMap) (mu : Mu) (h : Heap) : PMap := fun b => if (g b).isSome || (mu.map (·.1)).contains b then none else h.get? b
theorem rest_some {g : PMap} {mu : Mu} {h : Heap} {b : Addr} {o : Obj} (e : rest g mu h b = some o) : h.get? b = some o ∧ g b = none ∧ b ∉ mu.map (·.1) := by
  unfold rest at e
  split at e
  · cases e
  · rename_i hc
    simp only [Bool.or_eq_true, not_or, Bool.not_eq_true, Option.isSome_eq_false_iff, Option.isNone_iff_eq_none] at hc
    exact ⟨e, hc.1, fun hm => by have := hc.2; rw [List.contains_iff_mem.mpr hm] at this; cases this⟩
theorem rest_of {g : PMap} {mu : Mu} {h : Heap} {b : Addr} {o : Obj} (e : h.get? b = some o) (hg : g b = none) (hm : b ∉ mu.map (·.1)) : rest g mu h b = some o := by
  unfold rest
  rw [if_neg]
  · exact e
  · simp only [Bool.or_eq_true, not_or, hg, Option.isSome_none, Bool.false_eq_true, not_false_eq_true, true_and]
    intro q; exact hm (List.contains_iff_mem.mp q)
theorem rest_none {g : PMap} {mu : Mu} {h : Heap} {b : Addr} (e : h.get? b = none) : rest g mu h b = none := by
  cases q : rest g mu h b with
  | none => rfl
  | some o => rw [(rest_some q).1] at e; cases e

/-- the names a block takes over -/
def Over (scope : Scope) (env : Env) (vars' vars : Vars) : Prop := ∀ x d, vars'.lookup x = some d → vars.lookup x = some d ∧ scope.names.lookup x = some .free ∧ env.kindOf x ≠ some .local
theorem Over.nil {scope env vars} : Over scope env [] vars := fun x d e => by cases e
theorem Over.cons {scope env vars' vars x d} (h : vars.lookup x = some d) (k : scope.names.lookup x = some .free) (nl : (env.kindOf x == some .local) = false) (s : Over scope env vars' vars) : Over scope env ((x, d) :: vars') vars := fun y e q => by
  by_cases hb : y = x
  · subst hb; rw [lookup_cons_eq] at q; cases q; exact ⟨h, k, fun z => by rw [z] at nl; simp at nl⟩
  · rw [lookup_cons_ne hb] at q; exact s y e q

/-- what a block's scope must be: decided by computation -/
structure BlockOk (scope : Scope) (env : Env) : Prop where
  found : freeFound env scope.names = true
  kind : scope.kind = .function
  nodup : (scope.names.map (·.1)).Nodup

theorem lookup_mem_nodup {α : Type} : ∀ {l : List (Str × α)} {x a b}, (l.map (·.1)).Nodup → l.lookup x = some a → (x, b) ∈ l → b = a
  | (y, c) :: r, x, a, b, hn, h1, h2 => by
    obtain ⟨n1, n2⟩ := List.nodup_cons.mp hn
    by_cases hx : x = y
    · subst hx
      rw [lookup_cons_eq] at h1; cases h1
      rcases List.mem_cons.mp h2 with e | e
      · cases e; rfl
      · exact absurd (List.mem_map.mpr ⟨_, e, rfl⟩) n1
    · rw [lookup_cons_ne hx] at h1
      rcases List.mem_cons.mp h2 with e | e
      · cases e; exact absurd rfl hx
      · exact lookup_mem_nodup n2 h1 e

theorem relabel_lookup {env : Env} {x : Str} : ∀ {names : List (Str × NameKind)} {k}, names.lookup x = some k →
    (names.map fun (n, k) => if (k == NameKind.free && env.scope.kind == .function && env.kindOf n == some .cell) then (n, NameKind.cell) else (n, k)).lookup x = some (if (k == NameKind.free && env.scope.kind == .function && env.kindOf x == some .cell) then .cell else k)
  | (n, k') :: r, k, h => by
    rw [List.map_cons]
    by_cases hx : x = n
    · subst hx
      rw [lookup_cons_eq] at h; cases h
      dsimp only
      split <;> rw [lookup_cons_eq]
    · rw [lookup_cons_ne hx] at h
      have ih := relabel_lookup (env := env) (x := x) h
      dsimp only
      split <;> rw [lookup_cons_ne hx] <;> exact ih

section
variable {W : Wk} {A : Around} {hid : PMap} {env : Env} {vars : Vars} {mu : Mu} {K K' : Out → Prop}

/-- the block's frame is entered -/
theorem Rep.comp {scope : Scope} {vars' : Vars} {g h h2} (B : BlockOk scope env) (hk : env.scope.kind = .function) (R : Rep W hid g env vars mu h) (k2 : Kept h h2) (hv : Over scope env vars' vars) :
    Rep W (rest g mu h) g (cEnv scope h2.objs.size env) vars' mu (pushCells (h2.push { cls := .type "dict", data := .dict #[] }) scope.names) := by
  have kp : Kept h2 (pushCells (h2.push { cls := .type "dict", data := .dict #[] }) scope.names) := fun b o e => pushCells_keeps _ _ b o (Heap.get?_push_of_some _ e)
  have k := kept_trans k2 kp
  have hC2 : h2.get? h2.objs.size = none := Rep.fresh_size
  have hC : h.get? h2.objs.size = none := by
    cases q : h.get? h2.objs.size with
    | none => rfl
    | some o => rw [k2 _ _ q] at hC2; cases hC2
  have hns : (pushCells (h2.push { cls := .type "dict", data := .dict #[] }) scope.names).Ns h2.objs.size fun _ => none := (Heap.Ns.new h2 (.type "dict")).keeps (pushCells_keeps _ _)
  have hcl : ∀ x c, (clFrom env scope.names []).lookup x = some c → env.cells.lookup x = some c := fun x c e => (clFrom_lookup B.found e).elim (fun q => by cases q) id
  have hcells : ∀ x c, (cEnv scope h2.objs.size env).cells.lookup x = some c → env.cells.lookup x = some c ∨ ((pushCells (h2.push { cls := .type "dict", data := .dict #[] }) scope.names).IsCell c none ∧ h2.objs.size < c) := by
    intro x c e
    have e' : (cellsFrom (h2.push { cls := .type "dict", data := .dict #[] }).objs.size scope.names (clFrom env scope.names [])).lookup x = some c := by rw [Heap.size_push]; exact e
    rcases cellsFrom_lookup e' with q | ⟨q1, q2⟩
    · exact .inl (hcl x c q)
    · rw [Heap.size_push] at q2; exact .inr ⟨q1, q2⟩
  have old : ∀ {c}, h2.objs.size < c → h.get? c = none := fun {c} hlt => by
    cases q : h.get? c with
    | none => rfl
    | some o => exact absurd (Heap.lt_size (k2 _ _ q)) (Nat.not_lt.mpr (Nat.le_of_lt hlt))
  have Rk := R.keeps k
  refine ⟨R.bs, fun a o e => k _ _ (R.gs a o e), fun a o e => .of (k _ _ (rest_some e).1), fun a o e => ?_, ⟨_, hns⟩, fun x d e => ?_, R.gnone hC, rest_none hC, fun x c e => ?_, ?_, fun a l e => ?_, R.mnd⟩
  · cases q : rest g mu h a with
    | none => rfl
    | some o' => rw [(rest_some q).2.1] at e; cases e
  · obtain ⟨e1, e2, e3⟩ := hv x d e
    obtain ⟨u, i, hdb, hva⟩ := Rk.vs x d e1
    have hmem : (x, NameKind.free) ∈ scope.names := mem_of_lookup e2
    rcases hva with ⟨hl, _⟩ | ⟨c, hk', hc, hv'⟩
    · exact absurd hl e3
    · have hce : (cEnv scope h2.objs.size env).cells.lookup x = some c := by
        show (cellsFrom _ scope.names _).lookup x = some c
        rw [cellsFrom_not (fun k hk => by rw [lookup_mem_nodup B.nodup e2 hk]; intro q; cases q)]
        exact clFrom_free hmem hc
      have hkind : (cEnv scope h2.objs.size env).kindOf x = some (if (NameKind.free == NameKind.free && env.scope.kind == .function && env.kindOf x == some .cell) then .cell else .free) := relabel_lookup (env := env) e2
      refine ⟨u, i, hdb, .inr ⟨c, ?_, hce, hv'⟩⟩
      rw [hkind]
      split
      · exact .inl rfl
      · rename_i hn
        rcases hk' with q | ⟨q, q2⟩
        · exact absurd (by rw [hk, q]; rfl) hn
        · exact .inr ⟨rfl, q2⟩
  · rcases hcells x c e with q | ⟨q1, q2⟩
    · obtain ⟨⟨v, hv'⟩, r1, r2⟩ := Rk.cell x c q
      obtain ⟨⟨v0, oc, hv0, _⟩, _⟩ := R.cell x c q
      exact ⟨⟨v, hv'⟩, r1, fun z => by rw [show (cEnv scope h2.objs.size env).locals = h2.objs.size from rfl] at z; rw [z, hC] at hv0; cases hv0⟩
    · exact ⟨⟨_, q1⟩, R.gnone (old q2), fun z => Nat.lt_irrefl _ (by rw [show (cEnv scope h2.objs.size env).locals = h2.objs.size from rfl] at z; rw [z] at q2; exact q2)⟩
  · refine cellsFrom_inj (fun x y c e1 e2 => R.cnd x y c (hcl x c e1) (hcl y c e2)) fun x c e => ?_
    obtain ⟨⟨v, oc, e1, _⟩, _⟩ := R.cell x c (hcl x c e)
    exact Nat.lt_succ_of_lt (Heap.lt_size (k2 _ _ e1))
  · obtain ⟨vs, n, e1, r1, r2, r3, r4, r5⟩ := R.mus a l e
    have hma : a ∈ mu.map (·.1) := List.mem_map.mpr ⟨_, e, rfl⟩
    refine ⟨vs, n, k _ _ e1, r1, r2, ?_, fun z => ?_, fun x c q => ?_⟩
    · cases q : rest g mu h a with
      | none => rfl
      | some o' => exact absurd hma (rest_some q).2.2
    · rw [show (cEnv scope h2.objs.size env).locals = h2.objs.size from rfl] at z; rw [z, hC] at e1; cases e1
    · rcases hcells x c q with q | ⟨_, q2⟩
      · exact r5 x c q
      · rintro rfl; rw [old q2] at e1; cases e1

/-- an address that is nobody's -/
structure Lone (W : Wk) (hid g : PMap) (env : Env) (mu : Mu) (a : Addr) : Prop where
  g : g a = none
  hid : hid a = none
  loc : a ≠ env.locals
  cell : ∀ x c, env.cells.lookup x = some c → c ≠ a
  mu : a ∉ mu.map (·.1)
theorem Rep.lone {g h a} (R : Rep W hid g env vars mu h) (e : h.get? a = none) : Lone W hid g env mu a where
  g := R.gnone e
  hid := R.hnone e
  loc := fun z => by obtain ⟨m, _, _, _, q, _⟩ := R.ns; rw [z, q] at e; cases e
  cell := fun x c q z => by obtain ⟨⟨v, oc, e1, _⟩, _⟩ := R.cell x c q; rw [z, e] at e1; cases e1
  mu := fun hm => by
    obtain ⟨p, hp, rfl⟩ := List.mem_map.mp hm
    obtain ⟨vs, n, e1, _⟩ := R.mus p.1 p.2 hp
    rw [e] at e1; cases e1
theorem Rep.hideAt {g h a o} (R : Rep W hid g env vars mu h) (L : Lone W hid g env mu a) (e : h.get? a = some o) : Rep W (ins hid a o) g env vars mu h := by
  refine ⟨R.bs, R.gs, fun b o' q => ?_, fun b o' q => ?_, R.ns, R.vs, R.gL, by rw [ins_other (Ne.symm L.loc)]; exact R.hL, R.cell, R.cnd, fun b l q => ?_, R.mnd⟩
  · by_cases z : b = a
    · subst z; rw [ins_same] at q; cases q; exact .of e
    · rw [ins_other z] at q; exact R.hs b o' q
  · rw [ins_other (fun z => by rw [z, L.g] at q; cases q)]; exact R.gh b o' q
  · obtain ⟨vs, n, e1, r1, r2, r3, r4⟩ := R.mus b l q
    exact ⟨vs, n, e1, r1, r2, by rw [ins_other (fun z : b = a => L.mu (List.mem_map.mpr ⟨_, q, z⟩))]; exact r3, r4⟩
theorem Rep.freezeAt {g h a o} (R : Rep W hid g env vars mu h) (L : Lone W hid g env mu a) (e : h.get? a = some o) : Rep W hid (ins g a o) env vars mu h := by
  have lle := le_ins (o := o) L.g
  refine ⟨fun b o q => lle _ _ (R.bs b o q), fun b o' q => ?_, R.hs, fun b o' q => ?_, R.ns, fun x d e => let ⟨u, i, v⟩ := R.vs x d e; ⟨u, i.mono lle, v⟩, by rw [ins_other (Ne.symm L.loc)]; exact R.gL, R.hL, fun x c q => ?_, R.cnd, fun b l q => ?_, R.mnd⟩
  · by_cases z : b = a
    · subst z; rw [ins_same] at q; cases q; exact e
    · rw [ins_other z] at q; exact R.gs b o' q
  · by_cases z : b = a
    · subst z; exact L.hid
    · rw [ins_other z] at q; exact R.gh b o' q
  · obtain ⟨k1, k2, k3⟩ := R.cell x c q
    exact ⟨k1, by rw [ins_other (L.cell x c q)]; exact k2, k3⟩
  · obtain ⟨vs, n, e1, r1, r2, r3, r4⟩ := R.mus b l q
    exact ⟨vs, n, e1, r1.mono lle, by rw [ins_other (fun z : b = a => L.mu (List.mem_map.mpr ⟨_, q, z⟩))]; exact r2, r3, r4⟩
theorem Rep.own {g h a l vs n} (R : Rep W hid g env vars mu h) (L : Lone W hid g env mu a) (e : h.get? a = some (lobj vs n)) (i : Iss g l vs.toList) : Rep W hid g env vars ((a, l) :: mu) h :=
  ⟨R.bs, R.gs, R.hs, R.gh, R.ns, R.vs, R.gL, R.hL, R.cell, R.cnd, fun b lb q => by
    rcases List.mem_cons.mp q with q | q
    · cases q; exact ⟨vs, n, e, i, L.g, L.hid, L.loc, L.cell⟩
    · exact R.mus b lb q, List.nodup_cons.mpr ⟨L.mu, R.mnd⟩⟩

/-- back into the frame around, behind a block or a call: all that was no frozen thing stands as it stood -/
theorem Rep.back {g g' h h' mu₂} (R : Rep W hid g env vars mu h) (l : Le g g') (RE : RepE W (rest g mu₂ h) g' h') (hsub : ∀ a, a ∈ mu₂.map (·.1) → a ∈ mu.map (·.1))
    (hm : ∀ a l, (a, l) ∈ mu → a ∈ mu₂.map (·.1) → ∃ vs n, h'.get? a = some (lobj vs n) ∧ Iss g' l vs.toList ∧ g' a = none) : Rep W hid g' env vars mu h' := by
  have up : ∀ {a o}, h.get? a = some o → g a = none → a ∉ mu₂.map (·.1) → UpTo o h' a ∧ g' a = none := fun {a o} e hg hmm => by
    have e' := rest_of e hg hmm
    refine ⟨RE.hs a o e', ?_⟩
    cases q : g' a with
    | none => rfl
    | some x => have := RE.gh a x q; rw [e'] at this; cases this
  have muL : ∀ {a}, a ∈ mu₂.map (·.1) → g a = none ∧ hid a = none ∧ a ≠ env.locals ∧ ∀ x c, env.cells.lookup x = some c → c ≠ a := fun {a} hma => by
    obtain ⟨p, hp, rfl⟩ := List.mem_map.mp (hsub _ hma)
    obtain ⟨_, _, _, _, r1, r2, r3, r4⟩ := R.mus p.1 p.2 hp
    exact ⟨r1, r2, r3, r4⟩
  have ns' : ∀ {m}, h.Ns env.locals m → h'.Ns env.locals m := fun hn => by
    obtain ⟨o, es, ep, e1, e2, r⟩ := hn
    obtain ⟨⟨sl, q, _⟩, _⟩ := up e1 R.gL (fun hma => (muL hma).2.2.1 rfl)
    exact ⟨_, es, ep, q, e2, r⟩
  have cell' : ∀ {x c v}, env.cells.lookup x = some c → h.IsCell c v → h'.IsCell c v ∧ g' c = none := fun hc hv => by
    obtain ⟨o, e1, e2⟩ := hv
    obtain ⟨⟨sl, q, _⟩, q2⟩ := up e1 (R.cell _ _ hc).2.1 (fun hma => (muL hma).2.2.2 _ _ hc rfl)
    exact ⟨⟨_, q, e2⟩, q2⟩
  refine ⟨RE.bs, RE.gs, fun a o e => ?_, fun a o e => ?_, ?_, fun x d e => ?_, ?_, R.hL, fun x c e => ?_, R.cnd, fun a lb e => ?_, R.mnd⟩
  · obtain ⟨sl, e1, e2⟩ := R.hs a o e
    have hg : g a = none := by
      cases q : g a with
      | none => rfl
      | some x => have := R.gh a x q; rw [e] at this; cases this
    obtain ⟨⟨sl', q1, q2⟩, _⟩ := up e1 hg (fun hma => by have := (muL hma).2.1; rw [e] at this; cases this)
    exact ⟨sl', q1, fun hf => (q2 hf).trans (e2 hf)⟩
  · cases q : hid a with
    | none => rfl
    | some o' =>
      obtain ⟨sl, e1, _⟩ := R.hs a o' q
      have hg : g a = none := by
        cases q' : g a with
        | none => rfl
        | some x => have := R.gh a x q'; rw [q] at this; cases this
      obtain ⟨_, q2⟩ := up e1 hg (fun hma => by have := (muL hma).2.1; rw [q] at this; cases this)
      rw [q2] at e; cases e
  · obtain ⟨m, hn⟩ := R.ns; exact ⟨m, ns' hn⟩
  · obtain ⟨u, i, hd, ⟨hl, m, hn, hm'⟩ | ⟨c, hk, hc, hv⟩⟩ := R.vs x d e
    · exact ⟨u, i.mono l, hd, .inl ⟨hl, m, ns' hn, hm'⟩⟩
    · exact ⟨u, i.mono l, hd, .inr ⟨c, hk, hc, (cell' hc hv).1⟩⟩
  · obtain ⟨m, o, es, ep, e1, _⟩ := R.ns
    exact (up e1 R.gL (fun hma => (muL hma).2.2.1 rfl)).2
  · obtain ⟨⟨v, hv⟩, r1, r2⟩ := R.cell x c e
    exact ⟨⟨v, (cell' e hv).1⟩, (cell' e hv).2, r2⟩
  · obtain ⟨vs, n, e1, r1, r2, r3, r4⟩ := R.mus a lb e
    by_cases hma : a ∈ mu₂.map (·.1)
    · obtain ⟨vs', n', e1', r1', r2'⟩ := hm a lb e hma
      exact ⟨vs', n', e1', r1', r2', r3, r4⟩
    · obtain ⟨⟨sl', q, q3⟩, q2⟩ := up e1 r2 hma
      have hs : sl' = #[] := q3 (fun es ep (z : Data.seq vs n = Data.dict es ep) => nomatch z)
      subst hs
      exact ⟨vs, n, q, r1.mono l, q2, r3, r4⟩
end
end Mine
end

section
open PySem PySem.W PyProof.Rows PySem.Calls PySem.SeqAt
set_option linter.unusedVariables false
set_option maxRecDepth 100000
namespace Mine
section
variable {W : Wk} {A : Around} {hid : PMap} {env : Env} {vars : Vars} {mu : Mu} {K K' : Out → Prop}

theorem iter_self {h : Heap} {t : Nat} {d : PV} {u : Value} {I : Addr} {i : Nat} {Q : Value → Shared → Prop} {E} (x : ItAt u d i I h) (k : Q (.ref I) (W.S h t)) : wpAny W.M A (pyIter (.ref I)) Q E (W.S h t) := by
  cases x with
  | list _ _ _ q => exact wpAny_pyIter_listiter (s := W.S h t) q k
  | tup _ q => exact wpAny_pyIter_tupleiter (s := W.S h t) q k
  | rng q => exact wpAny_pyIter_rangeiter (s := W.S h t) q k

theorem append_K {h : Heap} {t : Nat} {D : Addr} {vs : Array Value} {n : Nat} {x : Value} {Q : Value → Shared → Prop} {E} (e : h.get? D = some (lobj vs n)) (hs : vs.size ≤ 100000)
    (k : ∀ h' n', h'.get? D = some (lobj (vs.push x) n') → Heap.SameBut D h h' → Q .none (W.S h' t)) : wpAny W.M A (call (.builtin "list.append") [.ref D, x]) Q E (W.S h t) := by
  have T : (W.S h t).TypeIs (.ref D) "list" := ⟨_, e, rfl⟩
  exact call_meets slot_list_append T entry_list_append (args_list_append _ _) (PySem.list_append D vs n x (by rw [sizeLine_eq]; omega)) ⟨e, k _ _ (IsL.update e (·.push x)) (Heap.SameBut.update ..)⟩

/-- the tests behind a clause -/
def Tests (W : Wk) (A : Around) (hid : PMap) (env : Env) (vars : Vars) (mu : Mu) (ifs : List Expr) (b : Bool) : Prop :=
  ∀ g h t (Q : Bool → Shared → Prop) (E : Value → Shared → Prop), Rep W hid g env vars mu h → (∀ g' h' t', Le g g' → Rep W hid g' env vars mu h' → Q b (W.S h' t')) →
    wpAny W.M A (forIn ifs true fun c r => if r = true then do let ok ← isTrue c env (eval c env); pure (ForInStep.yield ok) else pure (ForInStep.yield r)) Q E (W.S h t)
theorem tests_nil : Tests W A hid env vars mu [] true := fun g h t Q E R k => wpAny_tests_nil (k g h t (Le.refl g) R)
theorem tests_one {c b} (hc : Tr W A hid env vars mu c b) : Tests W A hid env vars mu [c] b := fun g h t Q E R k => wpAny_tests_one (hc g h t Q E R k)

/-- binding a loop's item: what the target makes of it -/
def Tgt (W : Wk) (A : Around) (hid : PMap) (env : Env) (vars : Vars) (mu : Mu) (target : Expr) (a : PV) (vars' : Vars) : Prop :=
  ∀ g h t v (Q : Unit → Shared → Prop) (E : Value → Shared → Prop), Rep W hid g env vars mu h → Is g a v → (∀ h' t', Rep W hid g env vars' mu h' → Q () (W.S h' t')) → wpAny W.M A (assign target env v) Q E (W.S h t)
theorem tgt_name {x : Str} {p : Pos} {a} (hs : Sto hid env x) (hk : env.scope.kind = .function) (hd : (x == ("__debug__" : Str)) = false) : Tgt W A hid env vars mu (.Name x p) a ((x, a) :: vars) := fun g h t v Q E R i k =>
  wpAny_assign_Name (store_K hs hk hd R i k)

theorem store_own {scope : Scope} {C : Addr} {x : Str} (hid : PMap) (h : (scope.names.lookup x = some .local)) : Sto hid (cEnv scope C env) x := .loc (lookup_relabel_local h)

/-- the block's own cells are free to be stored -/
def OwnFree (hid : PMap) (scope : Scope) (C : Addr) (env : Env) : Prop := ∀ x c, scope.names.lookup x = some .cell → (cEnv scope C env).cells.lookup x = some c → hid c = none
theorem sto_cell {scope : Scope} {C : Addr} {x : Str} (hn : (scope.names.map (·.1)).Nodup) (h : scope.names.lookup x = some .cell) (o : OwnFree hid scope C env) : Sto hid (cEnv scope C env) x := by
  have key : ∀ {names : List (Str × NameKind)} {n : Nat} {acc : List (Str × Addr)}, (x, NameKind.cell) ∈ names → ∃ c, (cellsFrom n names acc).lookup x = some c := by
    intro names
    induction names with
    | nil => intro n acc hm; cases hm
    | cons p r ih =>
      obtain ⟨nm, k⟩ := p
      intro n acc hm
      unfold cellsFrom
      by_cases hr : (x, NameKind.cell) ∈ r
      · split <;> exact ih hr
      · rcases List.mem_cons.mp hm with e | e
        · cases e
          rw [if_pos (by simp), cellsFrom_not (fun k hk e => hr (e ▸ hk)), lookup_cons_eq]
          exact ⟨_, rfl⟩
        · exact absurd e hr
  obtain ⟨c, hc⟩ := key (n := C + 1) (acc := clFrom env scope.names []) (mem_of_lookup h)
  refine .cell c ?_ hc (o x c h hc)
  have := relabel_lookup (env := env) h
  exact this

theorem ins_comm {g : PMap} {a b : Addr} {o o' : Obj} (h : a ≠ b) : ins (ins g a o) b o' = ins (ins g b o') a o := by
  funext x
  unfold ins
  by_cases h1 : x = b
  · subst h1; simp [Ne.symm h]
  · simp [h1]
theorem cellsFrom_ge : ∀ {names : List (Str × NameKind)} {n : Nat} {acc : List (Str × Addr)} {x c}, (cellsFrom n names acc).lookup x = some c → acc.lookup x = some c ∨ n ≤ c
  | [], _, _, _, _, e => .inl e
  | (nm, k) :: r, n, acc, x, c, e => by
    unfold cellsFrom at e
    split at e
    · rcases cellsFrom_ge e with q | q
      · by_cases hx : x = nm
        · subst hx; rw [lookup_cons_eq] at q; cases q; exact .inr (Nat.le_refl _)
        · rw [lookup_cons_ne hx] at q; exact .inl q
      · exact .inr (Nat.le_of_succ_le q)
    · exact cellsFrom_ge e
theorem cEnv_cells {scope : Scope} {C : Addr} {x c} (B : freeFound env scope.names = true) (e : (cEnv scope C env).cells.lookup x = some c) : env.cells.lookup x = some c ∨ C < c := by
  rcases cellsFrom_ge e with q | q
  · exact .inl ((clFrom_lookup B q).elim (fun q => by cases q) id)
  · exact .inr q
theorem cEnv_own {scope : Scope} {C : Addr} {x c} (hn : (scope.names.map (·.1)).Nodup) (h : scope.names.lookup x = some .cell) (e : (cEnv scope C env).cells.lookup x = some c) : C < c := by
  rcases cellsFrom_ge e with q | q
  · rw [clFrom_acc (fun k hk => by rw [lookup_mem_nodup hn h hk]; intro z; cases z)] at q; cases q
  · exact q

structure NewL (W : Wk) (hid g : PMap) (env : Env) (mu : Mu) (h : Heap) (D : Addr) (ds : List PV) : Prop where
  lone : Lone W hid g env mu D
  obj : ∃ vs n, h.get? D = some (lobj vs n) ∧ Iss g ds vs.toList

/-- what is done with an owned tuple: nothing -/
inductive LoOk (mu : Mu) (target : Expr) (d : PV) (its : List PV) : Prop where
  | any : (∀ v it, letOwnedTupleGo target it v = pure ()) → LoOk mu target d its
  | tup {es n p} : target = .Tuple es n p → AsList mu d its → (∀ a, a ∈ its → ∃ l, a = .tup l) → LoOk mu target d its
theorem LoOk.run {target : Expr} {d : PV} {its : List PV} {u : Value} {i : Nat} {I : Addr} {h : Heap} {t : Nat} {g : PMap} {a : PV} {v : Value} {Q : Unit → Shared → Prop} {E} (lo : LoOk mu target d its) (x : ItAt u d i I h) (ha : a ∈ its) (iv : Is g a v) (q : Q () (W.S h t)) : wpAny W.M A (letOwnedTupleGo target (.ref I) v) Q E (W.S h t) := by
  cases lo with
  | any e => rw [e]; exact wpAny_pure q
  | tup e hl ht =>
    subst e
    obtain ⟨l, rfl⟩ := ht a ha
    cases iv with
    | tup e1 _ =>
      cases x with
      | list _ _ _ y => exact wpAny_letOwnedTupleGo_listiter (s := W.S h t) y q
      | tup _ _ => exact absurd rfl (hl.notTup.1 _)
      | rng _ => exact absurd rfl (hl.notTup.2 _ _)

/-- a clause's turns, one item at a time -/
theorem loop_tests {prog : Program} {w : World} {R : Result → Shared → Prop} {s : Shared} {elt target iter : Expr} {ifs : List Expr} {scope : Scope} {pos : Pos} {it acc : Value} {env : Env} (I : Nat → Shared → Prop)
    (turn : ∀ n s, I n s → wpAny (model prog w) A (pyNext it) (fun r s₁ => match r with
      | none => R (.ok .next) s₁
      | some v => wpAny (model prog w) A (letOwnedTupleGo target it v) (fun _ s₀ => wpAny (model prog w) A (assign target env v) (fun _ s₂ =>
          wpAny (model prog w) A (forIn ifs true fun c r => if r = true then do let ok ← isTrue c env (eval c env); pure (ForInStep.yield ok) else pure (ForInStep.yield r)) (fun ok s₃ =>
            if ok = true then wpAny (model prog w) A (eval elt env) (fun x s₄ =>
              wpAny (model prog w) A (call (.builtin "list.append") [acc, x]) (fun _ s₅ => ∃ m, m < n ∧ I m s₅) (notedBy (model prog w) A env fun e s' => R (.error e) s') s₄) (notedBy (model prog w) A env fun e s' => R (.error e) s') s₃
            else ∃ m, m < n ∧ I m s₃) (notedBy (model prog w) A env fun e s' => R (.error e) s') s₂) (notedBy (model prog w) A env fun e s' => R (.error e) s') s₀) (notedBy (model prog w) A env fun e s' => R (.error e) s') s₁) (notedBy (model prog w) A env fun e s' => R (.error e) s') s)
    (n : Nat) (h : I n s) :
    codeAny (model prog w) A (.compLoop (.ListComp elt [⟨target, iter, ifs, 0⟩] scope pos) 0 it acc env) R s := by
  refine codeAny_loop rfl I (fun n s hI => ?_) n h
  show wpAny _ A ((compTurn (.ListComp elt [⟨target, iter, ifs, 0⟩] scope pos) 0 it acc env).onRaise (fun x => do noteFrame x env; theTreesLotGoes x)) _ _ s
  refine wpAny_noted ?_
  rw [compTurn_list]
  refine wpAny_bind (wpAny_standAt (wpAny_bind (wpAny_mono (turn n s hI) (fun r s₁ h₁ => ?_) fun _ _ h' => h')))
  cases r with
  | none => exact wpAny_pure h₁
  | some v =>
    refine wpAny_bind (wpAny_mono h₁ (fun _ s₂ h₂ => wpAny_bind (wpAny_mono h₂ (fun _ s₂ h₂ => wpAny_bind (wpAny_mono h₂ (fun ok s₃ h₃ => ?_) fun _ _ h' => h')) fun _ _ h' => h')) fun _ _ h' => h')
    cases ok with
    | false => exact wpAny_pure ⟨rfl, h₃⟩
    | true => exact wpAny_bind (wpAny_bind (wpAny_mono h₃ (fun x s₄ h₄ => wpAny_bind (wpAny_mono h₄ (fun _ s₅ h₅ => wpAny_pure (wpAny_pure ⟨rfl, h₅⟩)) fun _ _ h' => h')) fun _ _ h' => h'))

/-- a comprehension with one clause, up to what is done with its list -/
theorem comp_core {elt target iter : Expr} {ifs : List Expr} {scope : Scope} {pos cpos : Pos} {use : Option (Value → Sem Unit)} {d : PV} {its : List PV} {vars' : Vars} {p : PV → Bool} {f : PV → PV} {tv : PV → Vars}
    {g h t} {Q : Value → Shared → Prop} {E : Value → Shared → Prop}
    (hh : A.handled = none) (he : Ev W A hid env vars mu iter d) (hsrc : Src mu d its) (B : BlockOk scope env) (hk : env.scope.kind = .function) (hv : Over scope env vars' vars) (hf : ∀ x, foldedSetIterable iter env x = pure x)
    (hlo : LoOk mu target d its) (hlen : its.length ≤ 100000)
    (htgt : ∀ hid' C a, a ∈ its → OwnFree hid' scope C env → Tgt W A hid' (cEnv scope C env) vars' mu target a (tv a))
    (htest : ∀ hid' C a, a ∈ its → Tests W A hid' (cEnv scope C env) (tv a) mu ifs (p a))
    (helt : ∀ hid' C a, a ∈ its → p a = true → Ev W A hid' (cEnv scope C env) (tv a) mu elt (f a))
    (hsub : ∀ a, a ∈ its → Sub vars' (tv a))
    (R : Rep W hid g env vars mu h)
    (fin : ∀ C D g' h' t' oC, Le g g' → Rep W (ins hid C oC) g' env vars mu h' → hid C = none → (∀ v, oC.data ≠ .cell v) → (∀ h2, UpTo oC h2 C → ∃ m, h2.Ns C m) → NewL W (ins hid C oC) g' env mu h' D ((its.filter p).map f) → compPost W.M A E use Q (.ref D) C (.ok .next) (W.S h' t')) :
    wpAny W.M A (comprehension (.ListComp elt [⟨target, iter, ifs, 0⟩] scope pos) scope env cpos (newList []) false (eval iter env) use) Q E (W.S h t) := by
  refine wpAny_comprehension_free rfl hf (closure_is B.found) B.kind (fun x hx hl => ?_) (he g h t _ E R fun u g1 h1 t1 l1 R1 i1 => iter_start R1 hsrc i1 fun o ho hit => wpAny_newObj_type ?_)
  · obtain ⟨k, hk'⟩ : ∃ k, scope.names.lookup x.1 = some k := by
      cases q : scope.names.lookup x.1 with
      | some k => exact ⟨k, rfl⟩
      | none => exact absurd hx (fun hm => by
          have : ∀ {l : List (Str × NameKind)}, (x.1, x.2) ∈ l → l.lookup x.1 ≠ none := by
            intro l; induction l with
            | nil => intro h; cases h
            | cons p r ih =>
              obtain ⟨n, k⟩ := p
              intro h
              by_cases e : x.1 = n
              · subst e; rw [lookup_cons_eq]; simp
              · rw [lookup_cons_ne e]
                rcases List.mem_cons.mp h with z | z
                · cases z; exact absurd rfl e
                · exact ih z
          exact this hm q)
    rw [hk', ← lookup_mem_nodup B.nodup hk' hx, hl]
  refine wpAny_newCompEnv ?_
  -- the addresses
  have I1 : h1.get? h1.objs.size = none := Rep.fresh_size
  have eI : (h1.push o).get? h1.objs.size = some o := Heap.get?_push_size _ ho
  have hsz : (h1.push o).objs.size = h1.objs.size + 1 := Heap.size_push ..
  have D1 : h1.get? (h1.push o).objs.size = none := by
    cases q : h1.get? (h1.push o).objs.size with
    | none => rfl
    | some o' => have := Heap.lt_size q; rw [hsz] at this; exact absurd this (Nat.not_lt.mpr (Nat.le_succ _))
  have eD : ((h1.push o).push { cls := .type "list", data := .seq #[] }).get? (h1.push o).objs.size = some { cls := .type "list", data := .seq #[] } := Heap.get?_push_size _ rfl
  have hDI : (h1.push o).objs.size ≠ h1.objs.size := by rw [hsz]; exact Nat.succ_ne_self _
  generalize hH : (h1.push o).push { cls := .type "list", data := .seq #[] } = H at *
  have kH : Kept h1 H := hH ▸ kept_trans (kept_push h1 o) (kept_push _ _)
  have eI' : H.get? h1.objs.size = some o := hH ▸ Heap.get?_push_of_some _ eI
  have hit' : ItAt u d 0 h1.objs.size H := hit.at fun o' q => hH ▸ Heap.get?_push_of_some _ q
  have hIH : h1.objs.size < H.objs.size := Heap.lt_size eI'
  have hDH : (h1.push o).objs.size < H.objs.size := Heap.lt_size eD
  have RC := R1.comp B hk kH hv
  have lone : ∀ {a}, h1.get? a = none → a < H.objs.size → Lone W (rest g1 mu h1) g1 (cEnv scope H.objs.size env) mu a := fun {a} ha hlt =>
    ⟨R1.gnone ha, rest_none ha, fun z => Nat.lt_irrefl _ (show H.objs.size < H.objs.size from (show a = H.objs.size from z) ▸ hlt), fun x c e z => by
      rcases cEnv_cells B.found e with q | q
      · exact (R1.lone ha).cell x c q z
      · rw [z] at q; exact Nat.lt_irrefl _ (Nat.lt_trans q hlt), (R1.lone ha).mu⟩
  have kP : Kept H (pushCells (H.push { cls := .type "dict", data := .dict #[] }) scope.names) := fun b o e => pushCells_keeps _ _ b o (Heap.get?_push_of_some _ e)
  have hC1 : h1.get? H.objs.size = none := by
    cases q : h1.get? H.objs.size with
    | none => rfl
    | some o' => exact absurd (Heap.lt_size (kH _ _ q)) (Nat.lt_irrefl _)
  show codeAny _ _ (.compStart _ 0 _ _ (cEnv scope H.objs.size env)) (compPost W.M A E use Q (.ref (h1.push o).objs.size) H.objs.size) _
  generalize hP : pushCells (H.push { cls := .type "dict", data := .dict #[] }) scope.names = H4 at *
  have R2 := RC.hideAt (lone D1 hDH) (kP _ _ eD)
  have R3 := R2.hideAt (a := h1.objs.size) (by
    have L := lone I1 hIH
    exact ⟨L.g, by rw [ins_other (Ne.symm hDI)]; exact L.hid, L.loc, L.cell, L.mu⟩) (kP _ _ eI')
  generalize (h1.push o).objs.size = D at *
  generalize h1.objs.size = I at *
  have hit4 : ItAt u d 0 I H4 := hit'.at fun o' q => kP _ _ q
  have hrI : ∀ oD, ins (rest g1 mu h1) D oD I = none := fun oD => by rw [ins_other (Ne.symm hDI)]; exact rest_none I1
  have hrD : ∀ oI, ins (rest g1 mu h1) I oI D = none := fun oI => by rw [ins_other hDI]; exact rest_none D1
  have hof : ∃ vs, o.data = .fields vs := by obtain ⟨o', vs, e1, e2⟩ := hit4.fields; rw [kP _ _ eI'] at e1; cases e1; exact ⟨vs, e2⟩
  have ownfree : ∀ oD oI, OwnFree (ins (ins (rest g1 mu h1) D oD) I oI) scope H.objs.size env := fun oD oI x c e1 e2 => by
    have hlt := cEnv_own B.nodup e1 e2
    rw [ins_other (Ne.symm (Nat.ne_of_lt (Nat.lt_trans hIH hlt))), ins_other (Ne.symm (Nat.ne_of_lt (Nat.lt_trans hDH hlt)))]
    refine rest_none ?_
    cases q : h1.get? c with
    | none => rfl
    | some o' => exact absurd (Heap.lt_size (kH _ _ q)) (Nat.not_lt.mpr (Nat.le_of_lt hlt))
  refine codeAny_compStart_list ?_ (iter_self hit4 ?_)
  all_goals
    refine loop_tests (fun n s => ∃ i g' h' t' oI vs nn, n = its.length + 1 - i ∧ i ≤ its.length ∧ s = W.S h' t' ∧ Le g1 g' ∧ h'.get? I = some oI ∧ (∃ vs, oI.data = .fields vs) ∧ ItAt u d i I h' ∧
      h'.get? D = some (lobj vs nn) ∧ Iss g' (((its.take i).filter p).map f) vs.toList ∧ Rep W (ins (ins (rest g1 mu h1) D (lobj vs nn)) I oI) g' (cEnv scope H.objs.size env) vars' mu h') ?_ (its.length + 1)
      ⟨0, g1, H4, t1, o, #[], 0, rfl, Nat.zero_le _, rfl, Le.refl g1, kP _ _ eI', hof, hit4, kP _ _ eD, by simpa using Iss.nil, R3⟩
    rintro n s ⟨i, g', h', t', oI, vs, nn, rfl, hile, rfl, lg, eIh, hoI, hita, eDh, iss, R'⟩
    refine iter_next hh R' hsrc (i1.mono lg) hita (fun a w h2 t2 ha iw hsb hit2 => ?_) fun hge h2 t2 hext => ?_
    · have hlt : i < its.length := by
        rcases Nat.lt_or_ge i its.length with q | q
        · exact q
        · rw [List.getElem?_eq_none q] at ha; cases ha
      have hmem : a ∈ its := List.mem_of_getElem? ha
      obtain ⟨o2, vs2, eo2, ef2⟩ := hit2.fields
      have R4 := R'.rehide (hrI _) (nocell_of hoI) hsb eo2
      refine hlo.run hit2 hmem iw (htgt _ _ a hmem (ownfree _ _) g' h2 t2 w _ _ R4 iw fun h3 t3 R5 => ?_)
      refine htest _ _ a hmem g' h3 t3 _ _ R5 fun g4 h4 t4 l4 R6 => ?_
      have take : (its.take (i + 1)).filter p = (its.take i).filter p ++ (if p a then [a] else []) := take_succ_filter p its i a ha
      have fin2 : ∀ {gg hh tt vs' nn'}, Le g' gg → hh.get? D = some (lobj vs' nn') → Iss gg (((its.take (i + 1)).filter p).map f) vs'.toList →
          Rep W (ins (ins (rest g1 mu h1) D (lobj vs' nn')) I o2) gg (cEnv scope H.objs.size env) (tv a) mu hh →
          ∃ m, m < its.length + 1 - i ∧ ∃ i g' h' t' oI vs nn, m = its.length + 1 - i ∧ i ≤ its.length ∧ W.S hh tt = W.S h' t' ∧ Le g1 g' ∧ h'.get? I = some oI ∧ (∃ vs, oI.data = .fields vs) ∧ ItAt u d i I h' ∧
            h'.get? D = some (lobj vs nn) ∧ Iss g' (((its.take i).filter p).map f) vs.toList ∧ Rep W (ins (ins (rest g1 mu h1) D (lobj vs nn)) I oI) g' (cEnv scope H.objs.size env) vars' mu h' := by
        intro gg hh tt vs' nn' ll eD' is' RR
        obtain ⟨sl2, q1, q2⟩ := RR.hs I o2 (ins_same _ _ _)
        have q3 : hh.get? I = some o2 := by rw [q1, q2 (fun es ep z => by rw [ef2] at z; cases z)]
        exact ⟨its.length + 1 - (i + 1), by omega, i + 1, gg, hh, tt, o2, vs', nn', rfl, by omega, rfl, lg.trans ll, q3, ⟨vs2, ef2⟩, hit2.at fun o q => by rw [eo2] at q; cases q; exact q3, eD', is', RR.forget (hsub a hmem) (List.Sublist.refl _)⟩
      have getD : ∀ {gg hh vv}, Rep W (ins (ins (rest g1 mu h1) D (lobj vs nn)) I o2) gg (cEnv scope H.objs.size env) vv mu hh → hh.get? D = some (lobj vs nn) := fun RR => by
        obtain ⟨sl', q1, q2⟩ := RR.hs D _ (by rw [ins_other hDI, ins_same])
        rw [q1, q2 (fun es ep z => nomatch (show Data.seq vs nn = Data.dict es ep from z))]
      have redo : ∀ {gg hh vv vs' nn'}, Rep W (ins (ins (rest g1 mu h1) D (lobj vs nn)) I o2) gg (cEnv scope H.objs.size env) vv mu hh → hh.get? D = some (lobj vs' nn') →
          Rep W (ins (ins (rest g1 mu h1) D (lobj vs' nn')) I o2) gg (cEnv scope H.objs.size env) vv mu hh := fun RR q => by
        rw [ins_comm hDI] at RR ⊢
        exact RR.rehide (hrD _) (fun v z => by cases z) (Heap.SameBut.refl _ _) q
      cases hp : p a with
      | false =>
        simp only [Bool.false_eq_true, if_false]
        have q := getD R6
        refine fin2 l4 q ?_ (redo R6 q)
        rw [take, hp]; simpa using iss.mono l4
      | true =>
        simp only [if_true]
        refine helt _ _ a hmem hp g4 h4 t4 _ _ R6 fun y g5 h5 t5 l5 R7 iy => ?_
        have q := getD R7
        have hvs : vs.size ≤ 100000 := by
          have := iss.length
          have h3 : (((its.take i).filter p).map f).length ≤ (its.take i).length := by rw [List.length_map]; exact List.length_filter_le _ _
          simp at this h3
          omega
        refine append_K q (by omega) fun h6 n6 e6 hs6 => ?_
        refine fin2 (l4.trans l5) e6 ?_ ?_
        · rw [take, hp, List.map_append]
          simpa using ((iss.mono (l4.trans l5)).append (.cons iy .nil))
        · have R8 := R7
          rw [ins_comm hDI] at R8 ⊢
          exact R8.rehide (hrD _) (fun v z => by cases z) hs6 e6
    · have e : i = its.length := by omega
      subst e
      have R4 := R'.letgo (hrI _) (nocell_of hoI) hext
      obtain ⟨slD, qD, qD2⟩ := R4.hs D _ (ins_same _ _ _)
      have : slD = #[] := qD2 (fun es ep z => nomatch (show Data.seq vs nn = Data.dict es ep from z))
      subst this
      have gD : g' D = none := by
        cases q : g' D with
        | none => rfl
        | some x => have := R4.gh D x q; rw [ins_same] at this; cases this
      have R5 := R4.unhide (rest_none D1)
      have RO := R1.back lg R5.e (fun a h => h) (fun a l hm _ => by
        obtain ⟨vs, n, e1, r1, r2, _⟩ := R5.mus a l hm
        exact ⟨vs, n, e1, r1, r2⟩)
      obtain ⟨m, oC, es, ep, eC, eCd, hrest⟩ := R5.ns
      have eC' : h2.get? H.objs.size = some oC := eC
      have LC : Lone W hid g' env mu H.objs.size := ⟨R5.gL, R1.hnone hC1, (R1.lone hC1).loc, (R1.lone hC1).cell, (R1.lone hC1).mu⟩
      have hDC : D ≠ H.objs.size := Nat.ne_of_lt hDH
      refine fin H.objs.size D g' h2 t2 oC (l1.trans lg) (RO.hideAt LC eC') LC.hid (fun v z => by rw [eCd] at z; cases z) (fun h3 ⟨sl3, q3, _⟩ => ⟨m, _, es, ep, q3, eCd, hrest⟩) ⟨⟨gD, by rw [ins_other hDC]; exact R1.hnone D1, (R1.lone D1).loc, (R1.lone D1).cell, (R1.lone D1).mu⟩, vs, nn, qD, ?_⟩
      have := iss
      rw [List.take_length] at this
      exact this
end
end Mine
end

section
open PySem PySem.W PyProof.Rows PySem.Calls PySem.SeqAt
set_option linter.unusedVariables false
set_option maxRecDepth 100000
namespace Mine
section
variable {W : Wk} {A : Around} {hid : PMap} {env : Env} {vars : Vars} {mu : Mu} {K K' : Out → Prop}

/-- the expression makes a new list -/
def EvNew (W : Wk) (A : Around) (hid : PMap) (env : Env) (vars : Vars) (mu : Mu) (e : Expr) (ds : List PV) : Prop :=
  ∀ g h t (Q : Value → Shared → Prop) (E : Value → Shared → Prop), Rep W hid g env vars mu h →
    (∀ D g' h' t', Le g g' → Rep W hid g' env vars mu h' → NewL W hid g' env mu h' D ds → Q (.ref D) (W.S h' t')) → wpAny W.M A (eval e env) Q E (W.S h t)
theorem EvNew.ev {e ds} (x : EvNew W A hid env vars mu e ds) : Ev W A hid env vars mu e (.list ds) := fun g h t Q E R k =>
  x g h t Q E R fun D g' h' t' l R' N => by
    obtain ⟨L, vs, n, e, i⟩ := N
    have lle := le_ins (o := lobj vs n) L.g
    exact k _ _ h' t' (l.trans lle) (R'.freezeAt L e) (.list (ins_same _ _ _) (i.mono lle))

theorem new_obj {g h D vs n ds} (R : Rep W hid g env vars mu h) (h0 : h.get? D = none) {h'} (k : Kept h h') (e : h'.get? D = some (lobj vs n)) (i : Iss g ds vs.toList) : NewL W hid g env mu h' D ds :=
  ⟨R.lone h0, vs, n, e, i⟩

theorem evnew_list {es : List Expr} {ds pos} (ha : EvArgs W A hid env vars mu es ds) (hl : ds.length ≤ 1000) : EvNew W A hid env vars mu (.List es pos) ds := fun g h t Q E R k =>
  List_ (ha pos g h t _ E R fun us g1 h1 t1 l1 R1 i1 => by
    refine wpAny_newObj_type ?_ (by show us.toArray.size ≤ sizeLine; rw [List.size_toArray, i1.length, sizeLine_eq]; omega)
    exact k _ g1 _ t1 l1 (R1.keeps (kept_push h1 _)) (new_obj R1 Rep.fresh_size (kept_push h1 _) (Heap.get?_push_size _ rfl) (by simpa using i1)))

theorem times_new {h : Heap} {t : Nat} {l : Addr} {items : Array Value} {k : Nat} {x : Int} {u : Tok} {Q : Value → Shared → Prop} {E} (hl : h.get? l = some { cls := .type "list", dict := none, data := .seq items k, slots := #[] }) (h0 : 0 ≤ x) (h1 : x ≤ 100000) (h2 : items.size ≤ 100)
    (q : Q (.ref h.objs.size) (W.S (h.push { cls := .type "list", data := .seq (List.foldl (fun x1 x2 => x1 ++ x2) #[] (List.replicate (if items.isEmpty = true then 0 else x.toNat) items)) }) t)) :
    wpAny W.M A (binaryOp .Mult (.ref l) (.int x u)) Q E (W.S h t) := by
  have b : items.size * x.toNat ≤ 100 * 100000 := Nat.mul_le_mul h2 (by omega)
  have T : (W.S h t).TypeIs (.ref l) "list" := ⟨_, hl, rfl⟩
  refine wpAny_binaryOp_repeat_ref (T := "list") (U := "int") (by decide) T (fun s' => typeIs_int s' x u) noFill_list_mul F.fills_int_mul F.slot_int_rmul repeat_list F.slot_int_index.lookup ?_
  refine call_meets F.slot_int_rmul (typeIs_int (W.S h t) x u) F.entry_int_rmul (F.args_int_rmul_2 _ _) (int___rmul___int_list x u l items k) ⟨hl, rfl, T, ?_⟩
  refine call_meets F.slot_list_mul T F.entry_list_mul (F.args_list_mul_2 _ _) (AutoListH.list___mul___list_int_3 l items k x u ?_ ?_ ?_) ⟨hl, q⟩
  · simp [Builtin.List.listFitsIndex]; omega
  · omega
  · simp [Builtin.List.listTooLong, sizeLine]; omega

/-- [c] * n -/
theorem evnew_rep {c e : Expr} {p pos : Pos} {a : PV} {n : Int} (hc : EvArgs W A hid env vars mu [c] [a]) (he : Ev W A hid env vars mu e (.int n)) (h0 : 0 ≤ n) (hn : n ≤ 100000) : EvNew W A hid env vars mu (.BinOp (.List [c] p) .Mult e pos) (List.replicate n.toNat a) := fun g h t Q E R k => by
  refine wpAny_BinOp (List_ (hc p g h t _ E R fun us g1 h1 t1 l1 R1 i1 => ?_))
  cases i1 with
  | cons i1 r =>
    cases r
    rename_i v
    refine wpAny_newObj_type ?_ (by show (1 : Nat) ≤ sizeLine; rw [sizeLine_eq]; omega)
    obtain ⟨R2, l2⟩ := R1.alloc { cls := .type "list", data := .seq [v].toArray } rfl
    refine he _ _ t1 _ E R2 fun w g3 h3 t3 l3 R3 i3 => ?_
    cases i3
    have e0 : h3.get? h1.objs.size = some { cls := .type "list", data := .seq [v].toArray } := R3.gs _ _ (l3 _ _ (ins_same _ _ _))
    refine times_new e0 h0 hn (by simp) ?_
    have hrep : (List.foldl (fun x1 x2 => x1 ++ x2) #[] (List.replicate (if ([v].toArray).isEmpty = true then 0 else n.toNat) [v].toArray) : Array Value).toList = List.replicate n.toNat v := by
      have key : ∀ (m : Nat) (acc : Array Value), (List.foldl (fun x1 x2 => x1 ++ x2) acc (List.replicate m [v].toArray) : Array Value).toList = acc.toList ++ List.replicate m v := by
        intro m
        induction m with
        | zero => intro acc; simp
        | succ m ih => intro acc; rw [List.replicate_succ, List.foldl_cons, ih, List.replicate_succ]; simp
      simpa using key n.toNat #[]
    refine k _ g3 _ t3 ((l1.trans l2).trans l3) (R3.keeps (kept_push h3 _)) (new_obj R3 Rep.fresh_size (kept_push h3 _) (Heap.get?_push_size _ rfl) ?_)
    rw [hrep]
    have iv : Is g3 a v := i1.mono (l2.trans l3)
    clear hrep
    induction n.toNat with
    | zero => exact .nil
    | succ m ih => exact .cons iv ih

theorem compPost_ok {M : Model} {A : Around} {E} {Q : Value → Shared → Prop} {acc : Value} {C : Addr} {s : Shared} (h : ∃ m, s.heap.Ns C m) (k : ∀ h', Heap.SameBut C s.heap h' → Q acc { s with heap := h' }) : compPost M A E none Q acc C (.ok .next) s := by
  obtain ⟨m, hm⟩ := h
  exact ⟨m, hm, k⟩

/-- a comprehension with one clause -/
structure CompOk (W : Wk) (A : Around) (hid : PMap) (env : Env) (vars : Vars) (mu : Mu) (elt target iter : Expr) (ifs : List Expr) (scope : Scope) (its : List PV) (p : PV → Bool) (f : PV → PV) : Prop where
  run : ∃ (d : PV) (vars' : Vars) (tv : PV → Vars), Ev W A hid env vars mu iter d ∧ Src mu d its ∧ BlockOk scope env ∧ Over scope env vars' vars ∧ (∀ x, foldedSetIterable iter env x = pure x) ∧ LoOk mu target d its ∧ its.length ≤ 100000 ∧
    (∀ hid' C a, a ∈ its → OwnFree hid' scope C env → Tgt W A hid' (cEnv scope C env) vars' mu target a (tv a)) ∧
    (∀ hid' C a, a ∈ its → Tests W A hid' (cEnv scope C env) (tv a) mu ifs (p a)) ∧
    (∀ hid' C a, a ∈ its → p a = true → Ev W A hid' (cEnv scope C env) (tv a) mu elt (f a)) ∧ (∀ a, a ∈ its → Sub vars' (tv a))
  hh : A.handled = none
  hk : env.scope.kind = .function

theorem evnew_comp {elt target iter : Expr} {ifs : List Expr} {scope : Scope} {pos : Pos} {its p f} (c : CompOk W A hid env vars mu elt target iter ifs scope its p f) :
    EvNew W A hid env vars mu (.ListComp elt [⟨target, iter, ifs, 0⟩] scope pos) ((its.filter p).map f) := fun g h t Q E R k => by
  obtain ⟨⟨d, vars', tv, he, hsrc, B, hv, hf, hlo, hlen, htgt, htest, helt, hsub⟩, hh, hk⟩ := c
  rw [eval_ListComp]
  refine comp_core hh he hsrc B hk hv hf hlo hlen htgt htest helt hsub R fun C D g' h' t' oC l R' hC hnc hns N => ?_
  refine compPost_ok (hns _ (R'.hs C oC (ins_same _ _ _))) fun h2 hs2 => ?_
  have R2 := R'.letgo hC hnc hs2.extBut
  obtain ⟨L, vs, n, e, i⟩ := N
  have hDC : D ≠ C := fun z => by have := L.hid; rw [z, ins_same] at this; cases this
  refine k D g' h2 t' l R2 ⟨⟨L.g, by have := L.hid; rw [ins_other hDC] at this; exact this, L.loc, L.cell, L.mu⟩, vs, n, (hs2.2 D hDC).trans e, i⟩

/-- x = [..], the list to be the frame's own -/
theorem ex_own {x : Str} {p pos : Pos} {e : Expr} {ds : List PV} (he : EvNew W A hid env vars mu e ds) (hs : Sto hid env x) (hsw : swapsWith e (some (.Name x p)) pos.line env = pure false) (hk : env.scope.kind = .function) (hd : (x == ("__debug__" : Str)) = false) :
    Ex1 W A hid env vars mu (.Assign [.Name x p] e pos) (fun o => ∃ D, o = .next ((x, .loc D) :: vars) ((D, ds) :: mu)) := fun g h t R =>
  wpAny_Assign_Name (he g h t _ _ R fun D g1 h1 t1 l1 R1 N => by
    obtain ⟨L, vs, n, e, i⟩ := N
    exact store_K hs hk hd (R1.own L e i) .loc fun h2 t2 R2 => ⟨_, _, g1, h2, t2, rfl, ⟨D, rfl⟩, l1, R2⟩) hsw

theorem ex_comp {x : Str} {px spos : Pos} {elt target iter : Expr} {ifs : List Expr} {scope : Scope} {pos : Pos} {its p f} (c : CompOk W A hid env vars mu elt target iter ifs scope its p f)
    (hsw : swapsWith (.ListComp elt [⟨target, iter, ifs, 0⟩] scope pos) (some (.Name x px)) spos.line env = pure true) (hl : env.kindOf x = some .local) (hd : (x == ("__debug__" : Str)) = false) :
    Ex1 W A hid env vars mu (.Assign [.Name x px] (.ListComp elt [⟨target, iter, ifs, 0⟩] scope pos) spos) (· = .next ((x, .list ((its.filter p).map f)) :: vars) mu) := fun g h t R => by
  obtain ⟨⟨d, vars', tv, he, hsrc, B, hv, hf, hlo, hlen, htgt, htest, helt, hsub⟩, hh, hk⟩ := c
  rw [exec_Assign_Name_used x px _ spos hsw]
  refine wpAny_bind (wpAny_standAt (wpAny_bind ?_))
  show wpAny _ _ (do let _ ← comprehension (.ListComp elt [⟨target, iter, ifs, 0⟩] scope pos) scope env _ (newList []) false (eval iter env) (some (assign (.Name x px) env))) _ _ _
  refine wpAny_bind ?_
  refine comp_core hh he hsrc B hk hv hf hlo hlen htgt htest helt hsub R fun C D g' h' t' oC l R' hC hnc hns N => ?_
  obtain ⟨L, vs, n, e, i⟩ := N
  have lle := le_ins (o := lobj vs n) L.g
  show wpAny _ _ (assign (.Name x px) env (.ref D)) _ _ _
  refine wpAny_assign_Name (store_K (.loc hl) hk hd (R'.freezeAt L e) (.list (ins_same _ _ _) (i.mono lle)) fun h2 t2 R2 => ?_)
  obtain ⟨m, hm⟩ := hns _ (R2.hs C oC (ins_same _ _ _))
  refine ⟨m, hm, fun h3 hs3 => ?_⟩
  exact wpAny_pure (wpAny_pure ⟨_, _, _, h3, t2, rfl, rfl, l.trans lle, R2.letgo hC hnc hs3.extBut⟩)
end
end Mine
end

section
open PySem PySem.W PyProof.Rows PySem.Calls PySem.SeqAt
set_option linter.unusedVariables false
set_option maxRecDepth 100000
namespace Mine

/-- a def of the text, as it stands at the top's end -/
structure FnAt (W : Wk) (a : Addr) (fd : FuncData) (body : List Stmt) : Prop where
  obj : ∃ o, W.base.get? a = some o ∧ o.data = .func fd
  code : W.base.CodeRec fd.code fd.qualname
  body : fd.body = .stmts body
  closure : fd.closure = []
  glob : fd.globals = mainGlobals
  bn : fd.builtins = builtinsNs
  co : fd.scope.isCoroutine = false
  gen : fd.scope.isGenerator = false
  kind : fd.scope.kind = .function

/-- what the frames around must be for a call -/
structure AOk0 (A : Around) (n : Nat) : Prop where
  handled : A.handled = none
  depth : A.depth + n ≤ 500
  units : A.units + 3 * n ≤ 4000
  frames : ∃ l, A.frames = some l
theorem AOk.zero {W : Wk} {A : Around} {n : Nat} (a : AOk W A n) : AOk0 A n := ⟨a.handled, a.depth, a.units, let ⟨e, l, h, _⟩ := a.frames; ⟨e :: l, h⟩⟩
/-- what a call of a value gives -/
def Fn (W : Wk) (f : Value) (n : Nat) (args : List PV) (d : PV) : Prop :=
  ∀ A hid g h t us (Q : Value → Shared → Prop) (E : Value → Shared → Prop), AOk0 A n → RepE W hid g h → Iss g args us →
    (∀ u g' h' t', Le g g' → RepE W hid g' h' → Is g' d u → Q u (W.S h' t')) → wpAny W.M A (call f us) Q E (W.S h t)

abbrev fEnv (fd : FuncData) (a L : Addr) : Env := callEnvC fd L a

theorem bindL_not {kindOf : Str → Option NameKind} : ∀ {bs : List (Str × Value)} {m : Str → Option Value} {x : Str}, x ∉ bs.map (·.1) → bindL kindOf bs m x = m x
  | [], _, _, _ => rfl
  | (n, v) :: r, m, x, h => by
    rw [List.map_cons, List.mem_cons, not_or] at h
    unfold bindL
    rw [bindL_not h.2]
    split
    · show (if x = n then some v else m x) = m x
      rw [if_neg h.1]
    · rfl
theorem bindC_not {kindOf : Str → Option NameKind} : ∀ {bs : List (Str × Value)} {m : Str → Option Value} {x : Str}, x ∉ bs.map (·.1) → bindC kindOf bs m x = m x
  | [], _, _, _ => rfl
  | (n, v) :: r, m, x, h => by
    rw [List.map_cons, List.mem_cons, not_or] at h
    unfold bindC
    rw [bindC_not h.2]
    split
    · rfl
    · show (if x = n then some v else m x) = m x
      rw [if_neg h.1]
theorem bindL_get {kindOf : Str → Option NameKind} : ∀ {bs : List (Str × Value)} {m : Str → Option Value} {x : Str} {v}, (bs.map (·.1)).Nodup → (x, v) ∈ bs → kindOf x = some .local → bindL kindOf bs m x = some v
  | (n, w) :: r, m, x, v, hn, hm, hk => by
    obtain ⟨n1, n2⟩ := List.nodup_cons.mp hn
    unfold bindL
    rcases List.mem_cons.mp hm with e | e
    · cases e
      rw [bindL_not n1, if_pos hk]
      exact if_pos rfl
    · exact bindL_get n2 e hk
theorem bindC_get {kindOf : Str → Option NameKind} : ∀ {bs : List (Str × Value)} {m : Str → Option Value} {x : Str} {v}, (bs.map (·.1)).Nodup → (x, v) ∈ bs → kindOf x ≠ some .local → bindC kindOf bs m x = some v
  | (n, w) :: r, m, x, v, hn, hm, hk => by
    obtain ⟨n1, n2⟩ := List.nodup_cons.mp hn
    unfold bindC
    rcases List.mem_cons.mp hm with e | e
    · cases e
      rw [bindC_not n1, if_neg hk]
      exact if_pos rfl
    · exact bindC_get n2 e hk

/-- the parameters' names and values -/
inductive Binds (g : PMap) : Vars → List (Str × Value) → Prop where
  | nil : Binds g [] []
  | cons {x d u vs bs} : Is g d u → Binds g vs bs → Binds g ((x, d) :: vs) ((x, u) :: bs)
theorem Binds.names {g : PMap} : ∀ {vs bs}, Binds g vs bs → bs.map (·.1) = vs.map (·.1)
  | _, _, .nil => rfl
  | _, _, .cons _ r => by rw [List.map_cons, List.map_cons, r.names]
theorem Binds.get {g : PMap} : ∀ {vs bs}, Binds g vs bs → ∀ x d, vs.lookup x = some d → ∃ u, (x, u) ∈ bs ∧ Is g d u
  | _, _, .nil, x, d, h => by cases h
  | _, _, @Binds.cons _ y e u vs bs i r, x, d, h => by
    by_cases hx : x = y
    · subst hx; rw [lookup_cons_eq] at h; cases h; exact ⟨_, .head _, i⟩
    · rw [lookup_cons_ne hx] at h
      obtain ⟨u, hm, iu⟩ := r.get x d h
      exact ⟨u, .tail _ hm, iu⟩

/-- the names of parameters: none special, and each plain or a cell -/
def paramsOk (scope : Scope) (names : List Str) : Bool :=
  names.all fun p => (scope.names.lookup p == some .local || scope.names.lookup p == some .cell) && !(p == ("__debug__" : Str))

section
variable {W : Wk} {A : Around} {hid : PMap} {env : Env} {vars : Vars} {mu : Mu} {K K' : Out → Prop}

theorem cellsFrom_has {x : Str} : ∀ {names : List (Str × NameKind)} {n : Nat} {acc : List (Str × Addr)}, (x, NameKind.cell) ∈ names → ((cellsFrom n names acc).lookup x).isSome = true
  | (nm, k) :: r, n, acc, hm => by
    unfold cellsFrom
    by_cases hr : (x, NameKind.cell) ∈ r
    · split <;> exact cellsFrom_has hr
    · rcases List.mem_cons.mp hm with e | e
      · cases e
        rw [if_pos (by simp), cellsFrom_not (fun k hk e => hr (e ▸ hk)), lookup_cons_eq]; rfl
      · exact absurd e hr

/-- the names of this frame may be stored: a frame of a def -/
theorem sto_fn {fd : FuncData} {a L : Addr} {x : Str} {hid : PMap} (h : fd.scope.names.lookup x = some .local ∨ fd.scope.names.lookup x = some .cell) (hf : ∀ c, L < c → hid c = none) : Sto hid (fEnv fd a L) x := by
  rcases h with h | h
  · exact .loc h
  · obtain ⟨c, hc⟩ := Option.isSome_iff_exists.mp (cellsFrom_has (n := L + 1) (acc := []) (mem_of_lookup h))
    refine .cell c h hc (hf c ?_)
    rcases cellsFrom_ge hc with q | q
    · cases q
    · exact q

/-- a def, by its body -/
theorem fn_intro {fd : FuncData} {a : Addr} {body : List Stmt} {n : Nat} {args : List PV} {d : PV} (O : W.Ok) (F : FnAt W a fd body) (vars : Vars) (names : List Str) (hv : vars.map (·.1) = names) (hp : paramsOk fd.scope names = true) (hnd : names.Nodup)
    (hb : ∀ g h t us, (∀ a o, W.base.get? a = some o → h.get? a = some o) → (∀ a o, W.base.get? a = some o → g a = some o) → Iss g args us → ∃ binds, BindsTo (W.S h t) fd ⟨us, []⟩ binds ∧ Binds g vars binds)
    (hbody : ∀ A hid L, AOk W A n → (∀ x, fd.scope.names.lookup x = some .local ∨ fd.scope.names.lookup x = some .cell → Sto hid (fEnv fd a L) x) → Exs W A hid (fEnv fd a L) vars [] body (fun o => o = .ret d ∨ (d = .none ∧ ∃ v m, o = .next v m))) :
    Fn W (.ref a) (n + 1) args d := fun A hid g h t us Q E ao RE iss k => by
  have hn : (vars.map (·.1)).Nodup := by rw [hv]; exact hnd
  obtain ⟨o, ho, hd⟩ := F.obj
  have kb : ∀ a o, W.base.get? a = some o → h.get? a = some o := fun a o e => RE.gs a o (RE.bs a o e)
  obtain ⟨binds, hbt, hB⟩ := hb g h t us kb RE.bs iss
  refine wpAny_call (codeAny_call_function (by have := ao.depth; show A.depth < 1000; omega) (kb _ _ ho) hd F.co F.gen F.body (F.code.keeps kb) (hbt _ _ _ _ ?_))
  rw [F.closure]
  have hnn : (binds.map (·.1)).Nodup := by rw [hB.names]; exact hn
  have hkinds : ∀ y ∈ binds, fd.scope.names.lookup y.1 = some .local ∨ fd.scope.names.lookup y.1 = some .cell := fun y hy => by
    have : y.1 ∈ names := by rw [← hv, ← hB.names]; exact List.mem_map.mpr ⟨y, hy, rfl⟩
    have := List.all_eq_true.mp hp _ this
    simp only [Bool.and_eq_true, Bool.or_eq_true, beq_iff_eq] at this
    exact this.1
  refine wpAny_newFunctionEnv_cells F.kind (fun y hy => (hkinds y hy).imp id fun q => ⟨q, cellsFrom_has (mem_of_lookup q)⟩) fun env he s' x => ?_
  subst he
  obtain ⟨h₁, tk, rfl, hkk⟩ := x.toInCall.done
  have hfresh : ∀ {c}, h.objs.size ≤ c → h.get? c = none := fun {c} hc => by
    cases q : h.get? c with
    | none => rfl
    | some o' => exact absurd (Heap.lt_size q) (Nat.not_lt.mpr hc)
  have gnone : ∀ {c}, h.get? c = none → g c = none := fun {c} hc => by
    cases q : g c with
    | none => rfl
    | some o' => rw [RE.gs _ _ q] at hc; cases hc
  have hnone : ∀ {c}, h.get? c = none → hid c = none := fun {c} hc => by
    cases q : hid c with
    | none => rfl
    | some o' => obtain ⟨sl, z, _⟩ := RE.hs _ _ q; rw [z] at hc; cases hc
  have R : Rep W hid g (fEnv fd a h.objs.size) vars [] h₁ := by
    refine ⟨RE.bs, fun b o e => hkk _ _ (RE.gs b o e), fun b o e => (RE.hs b o e).keeps hkk, RE.gh, ⟨_, x.toInCall.ns⟩, fun y e q => ?_, gnone (hfresh (Nat.le_refl _)), hnone (hfresh (Nat.le_refl _)), fun y c q => ?_, fun y z c e1 e2 => ?_, fun a l q => (by cases q), List.nodup_nil⟩
    · obtain ⟨u, hm, iu⟩ := hB.get y e q
      have hdb : (y == ("__debug__" : Str)) = false := by
        have := List.all_eq_true.mp hp y (by rw [← hv]; exact List.mem_map.mpr ⟨_, mem_of_lookup q, rfl⟩)
        simp only [Bool.and_eq_true, Bool.not_eq_true'] at this
        exact this.2
      refine ⟨u, iu, hdb, ?_⟩
      rcases hkinds _ hm with q1 | q1
      · exact .inl ⟨q1, _, x.toInCall.ns, bindL_get hnn hm q1⟩
      · obtain ⟨c, hc⟩ := Option.isSome_iff_exists.mp (cellsFrom_has (n := h.objs.size + 1) (acc := []) (mem_of_lookup q1))
        refine .inr ⟨c, .inl q1, hc, ?_⟩
        have := x.cell y c hc
        rw [bindC_get hnn hm (by show fd.scope.names.lookup y ≠ _; rw [q1]; intro z; cases z)] at this
        exact this
    · have hlt := x.above y c (mem_of_lookup q)
      exact ⟨⟨_, x.cell y c q⟩, gnone (hfresh (Nat.le_of_lt hlt)), Ne.symm (Nat.ne_of_lt hlt)⟩
    · exact name_of_addr x.apart (mem_of_lookup e1) (mem_of_lookup e2)
  refine ⟨(O.nolimit.keeps kb).keeps hkk, codeAny_func ?_⟩

  have hstep := hbody (A.deeper (fEnv fd a h.objs.size)) hid h.objs.size ⟨ao.handled, by have := ao.depth; show A.depth + 1 + n ≤ 500; omega, by have := ao.units; show A.units + 3 + 3 * n ≤ 4000; omega, by
    obtain ⟨l, h1⟩ := ao.frames
    exact ⟨fEnv fd a h.objs.size, l, Around.frames_deeper h1, F.gen, F.co, F.bn, F.glob⟩⟩ (fun y hy => sto_fn hy fun c hc => hnone (hfresh (Nat.le_of_lt hc))) g h₁ tk R
  show wpAny _ (A.deeper (fEnv fd a h.objs.size)) (execs body (fEnv fd a h.objs.size)) _ _ _
  refine wpAny_mono hstep (fun f s y => ?_) fun e s y => ?_
  · cases f with
    | ret u =>
      obtain ⟨d', g', h', t', rfl, q, l, RE', i⟩ := y
      rcases q with q | ⟨_, v, m, q⟩
      · cases q; exact k u g' h' t' l RE' i
      · cases q
    | next =>
      obtain ⟨v, m, g', h', t', rfl, q, l, R'⟩ := y
      rcases q with q | ⟨rfl, _⟩
      · cases q
      · exact k .none g' h' t' l R'.e .none
    | brk => obtain ⟨v, m, g', h', t', rfl, q, l, R'⟩ := y; rcases q with q | ⟨_, v, m, q⟩ <;> cases q
    | cont => obtain ⟨v, m, g', h', t', rfl, q, l, R'⟩ := y; rcases q with q | ⟨_, v, m, q⟩ <;> cases q
  · obtain ⟨_, _, _, _, _, _, _, _, _, _, _, q, _⟩ := y
    rcases q with q | ⟨_, v, m, q⟩ <;> cases q

/-- a call of a def -/
theorem ev_call_fn {x : Str} {np pos : Pos} {a : Addr} {fd : FuncData} {o : Obj} {n : Nat} {e : Expr} {es : List Expr} {ds : List PV} {d : PV} (O : W.Ok) (ao : AOk W A n) (N : GName W env x (.ref a)) (ho : W.base.get? a = some o) (hd : o.data = .func fd)
    (ha : EvArgs W A hid env vars mu (e :: es) ds) (hf : Fn W (.ref a) n ds d) (hs : starEach (e :: es) env = (false, eval e env) :: starEach es env) : Ev W A hid env vars mu (.Call (.Name x np) (e :: es) [] pos) d := fun g h t Q E R k =>
  Call_ (name_global O N R (callWith_def hd (ha pos g h t _ E R fun us g1 h1 t1 l1 R1 i1 => ⟨R1.base _ _ ho, by
    refine hf A (rest g1 [] h1) g1 h1 t1 us _ E ao.zero ⟨R1.bs, R1.gs, fun b o e => .of (rest_some e).1, fun b o e => ?_⟩ i1 fun u g2 h2 t2 l2 RE2 i2 => ?_
    · cases q : rest g1 [] h1 b with
      | none => rfl
      | some o' => rw [(rest_some q).2.1] at e; cases e
    · exact k u g2 h2 t2 (l1.trans l2) (R1.back l2 RE2 (fun a h => by cases h) (fun a l _ h => by cases h)) i2⟩) hs)) rfl
end
end Mine
end

section
open PySem PySem.W PyProof.Rows PySem.Calls PySem.SeqAt
set_option linter.unusedVariables false
set_option maxRecDepth 100000
namespace Mine
section
variable {W : Wk} {A : Around} {hid : PMap} {env : Env} {vars : Vars} {mu : Mu} {K K' : Out → Prop}

theorem AsList.obj {g h d l u} (x : AsList mu d l) (R : Rep W hid g env vars mu h) (i : Is g d u) : ∃ a vs n, u = .ref a ∧ h.get? a = some (lobj vs n) ∧ Iss g l vs.toList := by
  rcases x with rfl | ⟨a, rfl, hm⟩
  · cases i with
    | list e r => exact ⟨_, _, _, rfl, R.gs _ _ e, r⟩
  · cases i
    obtain ⟨vs, n, e, r, _⟩ := R.mus a l hm
    exact ⟨a, vs, n, rfl, e, r⟩

/-- a + b of lists -/
theorem evnew_add {a b : Expr} {pos : Pos} {d e la lb} (ha : Ev W A hid env vars mu a d) (hb : Ev W A hid env vars mu b e) (hla : AsList mu d la) (hlb : AsList mu e lb) (hs : la.length + lb.length ≤ 100000) :
    EvNew W A hid env vars mu (.BinOp a .Add b pos) (la ++ lb) := fun g h t Q E R k =>
  wpAny_BinOp (ha g h t _ E R fun u g1 h1 t1 l1 R1 i1 => hb g1 h1 t1 _ E R1 fun v g2 h2 t2 l2 R2 i2 => by
    obtain ⟨x, vs, n, rfl, e1, q1⟩ := hla.obj R2 (i1.mono l2)
    obtain ⟨y, ws, m, rfl, e2, q2⟩ := hlb.obj R2 i2
    have s1 := q1.length
    have s2 := q2.length
    simp at s1 s2
    refine P.add_list (s := W.S h2 t2) e1 e2 ?_ (by rw [sizeLine_eq]; omega)
    exact k _ g2 _ t2 (l1.trans l2) (R2.keeps (kept_push h2 _)) (new_obj R2 Rep.fresh_size (kept_push h2 _) (Heap.get?_push_size _ rfl) (by simpa using q1.append q2)))

/-- slices -/
inductive Part (W : Wk) (A : Around) (hid : PMap) (env : Env) (vars : Vars) (mu : Mu) : Option Expr → Option Int → Prop where
  | none : Part W A hid env vars mu none none
  | some {e k} : Ev W A hid env vars mu e (.int k) → Part W A hid env vars mu (some e) (some k)
theorem Part.run {o k} (x : Part W A hid env vars mu o k) : ∀ g h t (Q : Value → Shared → Prop) (E : Value → Shared → Prop), Rep W hid g env vars mu h →
    (∀ u g' h' t', Le g g' → Rep W hid g' env vars mu h' → IsPart u k → Q u (W.S h' t')) → wpAny W.M A (evalPart o env) Q E (W.S h t) := by
  cases x with
  | none => intro g h t Q E R k; exact wpAny_pure (k _ g h t (Le.refl g) R .none)
  | some he => intro g h t Q E R k; exact he g h t Q E R fun u g1 h1 t1 l1 R1 i1 => by cases i1; exact k _ g1 h1 t1 l1 R1 (.int _ _)
def sliceP {α : Type} (l : List α) (lo hi : Option Int) : List α := (l.drop (lo.elim 0 (clipAt l.length))).take (hi.elim l.length (clipAt l.length) - lo.elim 0 (clipAt l.length))
theorem Iss.drop {g : PMap} : ∀ {ds vs}, Iss g ds vs → ∀ k, Iss g (ds.drop k) (vs.drop k)
  | _, _, h, 0 => h
  | _, _, .nil, _ + 1 => by simpa using Iss.nil
  | _, _, .cons _ r, k + 1 => r.drop k
theorem Iss.take {g : PMap} : ∀ {ds vs}, Iss g ds vs → ∀ k, Iss g (ds.take k) (vs.take k)
  | _, _, _, 0 => by simpa using Iss.nil
  | _, _, .nil, _ + 1 => by simpa using Iss.nil
  | _, _, .cons h r, k + 1 => .cons h (r.take k)
theorem evnew_slice {v : Expr} {lo hi : Option Expr} {p pos : Pos} {d l klo khi} (hv : Ev W A hid env vars mu v d) (hl : AsList mu d l) (hn : l.length ≤ 100000) (plo : Part W A hid env vars mu lo klo) (phi : Part W A hid env vars mu hi khi) :
    EvNew W A hid env vars mu (.Subscript v (.Slice lo hi none p) pos) (sliceP l klo khi) := fun g h t Q E R k =>
  Subscript_ (hv g h t _ E R fun u g1 h1 t1 l1 R1 i1 => wpAny_Slice (plo.run g1 h1 t1 _ E R1 fun x g2 h2 t2 l2 R2 p2 => phi.run g2 h2 t2 _ E R2 fun y g3 h3 t3 l3 R3 p3 => wpAny_pure (by
    obtain ⟨a, vs, rfl, q1, q2⟩ := hl.get R3 (i1.mono (l2.trans l3))
    have hlen : vs.size = l.length := by have := q2.length; simpa using this
    obtain ⟨ops, ho⟩ := sub_ops (.Slice lo hi none p) (.ref a) (.ref h3.objs.size)
    have hl2 : (h3.push { cls := .type "slice", data := .fields #[x, y, .none] }).IsList a vs := q1.push _
    refine tail_any (s := W.S (h3.push { cls := .type "slice", data := .fields #[x, y, .none] }) t3) hl2.typeIs slot_list_getitem.lookup (wpAny_getItem_list_slice (s := W.S (h3.push { cls := .type "slice", data := .fields #[x, y, .none] }) t3) hl2 (Heap.IsSliceOf.new ..) p2 p3 .none (by simp) ?_ (by rw [sizeLine_eq]; omega)) ho
    have R4 := R3.keeps (kept_push h3 { cls := .type "slice", data := .fields #[x, y, .none] })
    refine k _ g3 _ t3 ((l1.trans l2).trans l3) (R4.keeps (kept_push _ _)) (new_obj R4 Rep.fresh_size (kept_push _ _) (Heap.get?_push_size _ rfl) ?_)
    rw [slicePick_plain]
    unfold sliceP
    rw [hlen]
    exact (q2.drop _).take _)))
/-- an own list is changed -/
theorem Rep.mutate {g h h' a l l' m1 m2 vs' n'} (R : Rep W hid g env vars (m1 ++ (a, l) :: m2) h) (hs : Heap.SameBut a h h') (e : h'.get? a = some (lobj vs' n')) (i : Iss g l' vs'.toList) : Rep W hid g env vars (m1 ++ (a, l') :: m2) h' := by
  obtain ⟨vs, n, e0, i0, r2, r3, r4, r5⟩ := R.mus a l (by simp)
  have nodup := R.mnd
  rw [List.map_append, List.map_cons] at nodup
  have hne : ∀ b lb, (b, lb) ∈ m1 ∨ (b, lb) ∈ m2 → b ≠ a := by
    rintro b lb hm rfl
    have hh := List.nodup_append.mp nodup
    rcases hm with hm | hm
    · exact hh.2.2 b (List.mem_map.mpr ⟨_, hm, rfl⟩) b (List.mem_cons_self) rfl
    · exact (List.nodup_cons.mp hh.2.1).1 (List.mem_map.mpr ⟨_, hm, rfl⟩)
  refine ⟨R.bs, fun b o q => (hs.2 b (fun z => by rw [z, r2] at q; cases q)).trans (R.gs b o q), fun b o q => ?_, R.gh, ?_, fun x d q => ?_, R.gL, R.hL, fun x c q => ?_, R.cnd, fun b lb q => ?_, ?_⟩
  · obtain ⟨sl, e1, e2⟩ := R.hs b o q
    exact ⟨sl, (hs.2 b (fun z => by rw [z, r3] at q; cases q)).trans e1, e2⟩
  · obtain ⟨m, hn⟩ := R.ns; exact ⟨m, hn.sameBut hs (Ne.symm r4)⟩
  · obtain ⟨u, iu, hd, ⟨hl, m, hn, hm⟩ | ⟨c, hk, hc, hv⟩⟩ := R.vs x d q
    · exact ⟨u, iu, hd, .inl ⟨hl, m, hn.sameBut hs (Ne.symm r4), hm⟩⟩
    · exact ⟨u, iu, hd, .inr ⟨c, hk, hc, hv.sameBut hs (r5 x c hc)⟩⟩
  · obtain ⟨⟨v, hv⟩, k1, k2⟩ := R.cell x c q
    exact ⟨⟨v, hv.sameBut hs (r5 x c q)⟩, k1, k2⟩
  · by_cases z : b = a
    · subst z
      have : lb = l' := by
        rcases List.mem_append.mp q with q | q
        · exact absurd rfl (hne _ _ (.inl q))
        · rcases List.mem_cons.mp q with q | q
          · cases q; rfl
          · exact absurd rfl (hne _ _ (.inr q))
      subst this
      exact ⟨vs', n', e, i, r2, r3, r4, r5⟩
    · have q' : (b, lb) ∈ m1 ++ (a, l) :: m2 := by
        rcases List.mem_append.mp q with q | q
        · exact List.mem_append_left _ q
        · rcases List.mem_cons.mp q with q | q
          · cases q; exact absurd rfl z
          · exact List.mem_append_right _ (.tail _ q)
      obtain ⟨ws, m, k1, k2, k3⟩ := R.mus b lb q'
      exact ⟨ws, m, (hs.2 b z).trans k1, k2, k3⟩
  · rw [List.map_append, List.map_cons]; exact nodup

theorem setitem_K {h : Heap} {t : Nat} {a : Addr} {vs : Array Value} {n : Nat} {k : Int} {tk : Tok} {x : Value} {Q : Unit → Shared → Prop} {E} (e : h.get? a = some (lobj vs n)) (h0 : 0 ≤ k) (h1 : k < vs.size) (h2 : vs.size ≤ 100000)
    (kk : ∀ h' n', h'.get? a = some (lobj (vs.setIfInBounds k.toNat x) n') → Heap.SameBut a h h' → Q () (W.S h' t)) : wpAny W.M A (setItem (.ref a) (.int k tk) x) Q E (W.S h t) := by
  have T : (W.S h t).TypeIs (.ref a) "list" := ⟨_, e, rfl⟩
  unfold setItem
  first
    | refine wpAny_holding (wpAny_bind (wpAny_sequenceKey T (by decide) ?_))
    | refine wpAny_bind (wpAny_sequenceKey T (by decide) ?_)
  refine wpAny_bind (wpAny_callSpecial?_slot (name := Str.ofString "__setitem__") T slot_list_setitem (wpAny_call_entry slot_list_setitem T entry_list_setitem ?_ (args_list_setitem _ _ _)))
  have hfit : Builtin.List.listFitsIndex k = true := fitsIndex_of h0 (by omega)
  show wpAny _ _ (Builtin.List.listSubscript? (.int k tk) >>= _) _ _ _
  refine wpAny_bind (wpAny_listSubscript_int hfit ?_)
  clear hfit
  obtain ⟨j, rfl⟩ := Int.eq_ofNat_of_zero_le h0
  rw [Int.toNat_natCast] at kk
  have hx : vs[j]? = some (vs[j]'(by omega)) := Array.getElem?_eq_getElem _
  have up := IsL.update e (·.setIfInBounds j x)
  show wpAny _ _ ((seqItemAt a j >>= fun r => pure (r.map (j, ·))) >>= _) _ _ _
  refine wpAny_bind (wpAny_bind (wpAny_seqItemAt (s := W.S h t) e rfl (wpAny_pure ?_)))
  rw [hx]
  show wpAny _ _ (setSeqItemAt a j x >>= _) _ _ _
  refine wpAny_bind (wpAny_setSeqItemAt (s := W.S h t) e rfl ?_)
  first
    | exact wpAny_bind (wpAny_pure (wpAny_pure ⟨.none, rfl, wpAny_pure (kk _ _ up (Heap.SameBut.update ..))⟩))
    | exact wpAny_pure ⟨.none, rfl, wpAny_pure (kk _ _ up (Heap.SameBut.update ..))⟩

/-- o[i] op= e -/
theorem ex_augitem {o i e : Expr} {p pos : Pos} {op : Operator} {a l k b c d m1 m2} (ho : Ev W A hid env vars (m1 ++ (a, l) :: m2) o (.loc a)) (hi : Ev W A hid env vars (m1 ++ (a, l) :: m2) i (.int k)) (he : Ev W A hid env vars (m1 ++ (a, l) :: m2) e b)
    (h0 : 0 ≤ k) (h1 : k < l.length) (h2 : l.length ≤ 100000) (hc : l[k.toNat]? = some c) (hop : Op W A hid env vars (m1 ++ (a, l) :: m2) [c, b] (fun us => inplaceOp op (us.getD 0 .none) (us.getD 1 .none)) d)
    (ha : ∀ ov iv new, augStore i ov iv new = (do holding [new, ov, iv] (setItem ov iv new); release [new, ov, iv] []; pure .next)) :
    Ex1 W A hid env vars (m1 ++ (a, l) :: m2) (.AugAssign (.Subscript o i p) op e pos) (· = .next vars (m1 ++ (a, l.set k.toNat d) :: m2)) := fun g h t R =>
  wpAny_AugAssign_SubscriptAny (ho g h t _ _ R fun v g1 h1' t1 l1 R1 i1 => hi g1 h1' t1 _ _ R1 fun w g2 h2' t2 l2 R2 i2 => by
    cases i1; cases i2
    obtain ⟨vs, n, e0, i0, _⟩ := R2.mus a l (by simp)
    have hlen : vs.size = l.length := by have := i0.length; simpa using this
    obtain ⟨x, hx, ix⟩ := i0.get _ _ hc
    refine wpAny_getItem_list (s := W.S h2' t2) (items := vs) ⟨_, e0, rfl, _, rfl⟩ h0 (by omega) (by simpa using hx) (he g2 h2' t2 _ _ R2 fun y g3 h3 t3 l3 R3 i3 => ?_)
    refine hop g3 h3 t3 [x, y] _ _ R3 (.cons (ix.mono l3) (.cons i3 .nil)) fun z g4 h4 t4 l4 R4 i4 => ?_
    obtain ⟨vs', n', e1, i1', _⟩ := R4.mus a l (by simp)
    have hlen' : vs'.size = l.length := by have := i1'.length; simpa using this
    refine setitem_K e1 h0 (by omega) (by omega) fun h5 n5 e5 hs5 => ⟨_, _, g4, h5, t4, rfl, rfl, ((l1.trans l2).trans l3).trans l4, R4.mutate hs5 e5 ?_⟩
    rw [Array.toList_setIfInBounds]
    exact Iss.set i4 _ i1') ha

/-- o.append(e) -/
theorem ex_append {o e : Expr} {ap cp pos : Pos} {a l d m1 m2} (ho : Ev W A hid env vars (m1 ++ (a, l) :: m2) o (.loc a)) (he : Ev W A hid env vars (m1 ++ (a, l) :: m2) e d) (h2 : l.length ≤ 99999)
    (hbase : attributeBase o "append" env (eval o env) = eval o env) (hs : starEach [e] env = [(false, eval e env)]) (hline : (ap.endLine == cp.line) = true) (hi : interactive env = false)
    (hsw : swapsWith (.Call (.Attribute o "append" ap) [e] [] cp) none pos.line env = pure false) :
    Ex1 W A hid env vars (m1 ++ (a, l) :: m2) (.Expr (.Call (.Attribute o "append" ap) [e] [] cp) pos) (· = .next vars (m1 ++ (a, l ++ [d]) :: m2)) := fun g h t R =>
  wpAny_Expr (wpAny_Call_append hbase (by rw [hs]; rfl) hline (by rw [hs]; rfl) (ho g h t _ _ R fun v g1 h1 t1 l1 R1 i1 => by
    cases i1
    obtain ⟨vs, n, e0, i0, _⟩ := R1.mus a l (by simp)
    refine ⟨a, vs, rfl, ⟨_, n, e0, rfl, rfl, rfl⟩, he g1 h1 t1 _ _ R1 fun y g2 h2' t2 l2 R2 i2 => ?_⟩
    obtain ⟨vs', n', e1, i1', _⟩ := R2.mus a l (by simp)
    have hlen' : vs'.size = l.length := by have := i1'.length; simpa using this
    refine append_K e1 (by omega) fun h3 n3 e3 hs3 => ⟨_, _, g2, h3, t2, rfl, rfl, l1.trans l2, R2.mutate hs3 e3 ?_⟩
    simpa using i1'.append (.cons i2 .nil))) hi hsw

/-- several names at once, out of a tuple -/
inductive TgtAll (hid : PMap) (env : Env) : List Expr → List PV → Vars → Vars → Prop where
  | nil {v} : TgtAll hid env [] [] v v
  | cons {x p es d ds v v'} : Sto hid env x → (x == ("__debug__" : Str)) = false → TgtAll hid env es ds ((x, d) :: v) v' → TgtAll hid env (.Name x p :: es) (d :: ds) v v'
theorem TgtAll.len {es ds v v'} (x : TgtAll hid env es ds v v') : (assignEach es env).length = ds.length ∧ (assignEach es env).findIdx? (·.1) = none := by
  induction x with
  | nil => exact ⟨rfl, rfl⟩
  | @cons x p es d ds v v' h1 h2 _ ih =>
    refine ⟨by show (assignEach es env).length + 1 = _; rw [ih.1]; rfl, ?_⟩
    show (((false, assign (.Name x p) env) :: assignEach es env).findIdx? (·.1)) = none
    rw [List.findIdx?_cons]
    simp [ih.2]
theorem TgtAll.run {es ds v v'} (x : TgtAll hid env es ds v v') (hk : env.scope.kind = .function) : ∀ g h t us (Q : Unit → Shared → Prop) (E : Value → Shared → Prop), Rep W hid g env v mu h → Iss g ds us →
    (∀ h' t', Rep W hid g env v' mu h' → Q () (W.S h' t')) → wpAny W.M A (assignInOrder ((assignEach es env).map (·.2)) us) Q E (W.S h t) := by
  induction x with
  | nil => intro g h t us Q E R i k; exact assignInOrder_nil (k h t R)
  | @cons x p es d ds v v' h1 h2 _ ih =>
    intro g h t us Q E R i k
    cases i with
    | cons i is =>
      exact assignInOrder_cons (wpAny_assign_Name (store_K h1 hk h2 R i fun h' t' R' => ih g h' t' _ Q E R' is k))
theorem tgt_tuple {es : List Expr} {n pos ds v'} (hh : A.handled = none) (hk : env.scope.kind = .function) (x : TgtAll hid env es ds vars v') : Tgt W A hid env vars mu (.Tuple es n pos) (.tup ds) v' := fun g h t v Q E R i k => by
  cases i with
  | tup e q =>
    rename_i a vs m
    have hlen : vs.size = ds.length := by have := q.length; simpa using this
    refine assign_Tuple_tuple (s := W.S h t) hh ⟨_, R.gs _ _ e, rfl, m, rfl⟩ (by rw [x.len.1, hlen]) x.len.2 fun h' he => ?_
    have hk' : Kept h h' := fun b o q => he b o (fun z => by rw [z, Rep.fresh_size] at q; cases q) q
    exact x.run hk g h' t _ Q E (R.keeps hk') q k
theorem ex_unpack {es : List Expr} {n : Nat} {tp pos : Pos} {e : Expr} {ds v'} (hh : A.handled = none) (hk : env.scope.kind = .function) (he : Ev W A hid env vars mu e (.tup ds)) (x : TgtAll hid env es ds vars v')
    (hs : swapsWithSole [.Tuple es n tp] e pos.line env = pure false) (hw : swappedStores [.Tuple es n tp] e env = pure none) :
    Ex1 W A hid env vars mu (.Assign [.Tuple es n tp] e pos) (· = .next v' mu) := fun g h t R =>
  PyProof.Rows.Assign_Tuple (he g h t _ _ R fun u g1 h1 t1 l1 R1 i1 => tgt_tuple hh hk x g1 h1 t1 u _ _ R1 i1 fun h2 t2 R2 => ⟨_, _, g1, h2, t2, rfl, rfl, l1, R2⟩) hs hw
end
end Mine
end

section
open PySem PySem.W PyProof.Rows PySem.Calls PySem.SeqAt
set_option linter.unusedVariables false
set_option maxRecDepth 100000
namespace Mine
section
variable {W : Wk} {A : Around} {hid : PMap} {env : Env} {vars : Vars} {mu : Mu} {K K' : Out → Prop}

/-- one turn at the inner of two clauses -/
theorem turn_inner (elt : Expr) (g0 : Comprehension) (target iter : Expr) (ifs : List Expr) (scope : Scope) (pos : Pos) (it acc : Value) (env : Env) :
    compTurn (.ListComp elt [g0, ⟨target, iter, ifs, 0⟩] scope pos) 1 it acc env = (do
      standAt iter.pos
      match ← pyNext it with
      | none => pure (.done .next)
      | some v =>
        letOwnedTupleGo target it v
        assign target env v
        let mut ok := true
        for c in ifs do
          if ok then ok ← isTrue c env (eval c env)
        if ok then
          (do let _ ← call (.builtin "list.append") [acc, ← eval elt env])
        again (.compLoop (.ListComp elt [g0, ⟨target, iter, ifs, 0⟩] scope pos) 1 it acc env)) := by rfl
/-- one turn at the outer of two clauses -/
theorem turn_outer (elt : Expr) (target iter : Expr) (ifs : List Expr) (t1 i1 : Expr) (ifs1 : List Expr) (scope : Scope) (pos : Pos) (it acc : Value) (env : Env) :
    compTurn (.ListComp elt [⟨target, iter, ifs, 0⟩, ⟨t1, i1, ifs1, 0⟩] scope pos) 0 it acc env = (do
      standAt iter.pos
      match ← pyNext it with
      | none => pure (.done .next)
      | some v =>
        letOwnedTupleGo target it v
        assign target env v
        let mut ok := true
        for c in ifs do
          if ok then ok ← isTrue c env (eval c env)
        if ok then
          let x ← eval i1 env
          standAt i1.pos
          let x ← foldedSetIterable i1 env x
          let _ ← runOwn (.compStart (.ListComp elt [⟨target, iter, ifs, 0⟩, ⟨t1, i1, ifs1, 0⟩] scope pos) 1 (← holding [x] (pyIter x)) acc env) env
        again (.compLoop (.ListComp elt [⟨target, iter, ifs, 0⟩, ⟨t1, i1, ifs1, 0⟩] scope pos) 0 it acc env)) := by rfl

theorem loop_inner {elt target iter : Expr} {g0 : Comprehension} {ifs : List Expr} {scope : Scope} {pos : Pos} {it acc : Value} {env : Env} {R : Result → Shared → Prop} {s : Shared} (I : Nat → Shared → Prop)
    (turn : ∀ n s, I n s → wpAny W.M A (pyNext it) (fun r s₁ => match r with
      | none => R (.ok .next) s₁
      | some v => wpAny W.M A (assign target env v) (fun _ s₂ =>
          wpAny W.M A (forIn ifs true fun c r => if r = true then do let ok ← isTrue c env (eval c env); pure (ForInStep.yield ok) else pure (ForInStep.yield r)) (fun ok s₃ =>
            if ok = true then wpAny W.M A (eval elt env) (fun x s₄ =>
              wpAny W.M A (call (.builtin "list.append") [acc, x]) (fun _ s₅ => ∃ m, m < n ∧ I m s₅) (notedBy W.M A env fun e s' => R (.error e) s') s₄) (notedBy W.M A env fun e s' => R (.error e) s') s₃
            else ∃ m, m < n ∧ I m s₃) (notedBy W.M A env fun e s' => R (.error e) s') s₂) (notedBy W.M A env fun e s' => R (.error e) s') s₁) (notedBy W.M A env fun e s' => R (.error e) s') s)
    (n : Nat) (h : I n s) (ht : ∀ v, letOwnedTupleGo target it v = pure ()) :
    codeAny W.M A (.compLoop (.ListComp elt [g0, ⟨target, iter, ifs, 0⟩] scope pos) 1 it acc env) R s := by
  refine codeAny_loop rfl I (fun n s hI => ?_) n h
  show wpAny _ A ((compTurn (.ListComp elt [g0, ⟨target, iter, ifs, 0⟩] scope pos) 1 it acc env).onRaise (fun x => do noteFrame x env; theTreesLotGoes x)) _ _ s
  refine wpAny_noted ?_
  rw [turn_inner]
  refine wpAny_bind (wpAny_standAt (wpAny_bind (wpAny_mono (turn n s hI) (fun r s₁ h₁ => ?_) fun _ _ h' => h')))
  cases r with
  | none => exact wpAny_pure h₁
  | some v =>
    refine wpAny_bind (wpAny_of_eq (ht v) ?_)
    refine wpAny_bind (wpAny_mono h₁ (fun _ s₂ h₂ => wpAny_bind (wpAny_mono h₂ (fun ok s₃ h₃ => ?_) fun _ _ h' => h')) fun _ _ h' => h')
    cases ok with
    | false => exact wpAny_pure ⟨rfl, h₃⟩
    | true => exact wpAny_bind (wpAny_bind (wpAny_mono h₃ (fun x s₄ h₄ => wpAny_bind (wpAny_mono h₄ (fun _ s₅ h₅ => wpAny_pure (wpAny_pure ⟨rfl, h₅⟩)) fun _ _ h' => h')) fun _ _ h' => h'))

theorem loop_outer {elt target iter t1 i1 : Expr} {ifs ifs1 : List Expr} {scope : Scope} {pos : Pos} {it acc : Value} {env : Env} {R : Result → Shared → Prop} {s : Shared} (I : Nat → Shared → Prop)
    (turn : ∀ n s, I n s → wpAny W.M A (pyNext it) (fun r s₁ => match r with
      | none => R (.ok .next) s₁
      | some v => wpAny W.M A (assign target env v) (fun _ s₂ =>
          wpAny W.M A (forIn ifs true fun c r => if r = true then do let ok ← isTrue c env (eval c env); pure (ForInStep.yield ok) else pure (ForInStep.yield r)) (fun ok s₃ =>
            if ok = true then wpAny W.M A (eval i1 env) (fun x s₄ => wpAny W.M A (pyIter x) (fun it2 s₅ =>
              codeAny W.M A (.compStart (.ListComp elt [⟨target, iter, ifs, 0⟩, ⟨t1, i1, ifs1, 0⟩] scope pos) 1 it2 acc env) (fun r s' => match r with | .ok f => ∃ m, m < n ∧ I m s' | .error e => cameBackBy W.M A env (notedBy W.M A env fun e s' => R (.error e) s') e s') s₅) (notedBy W.M A env fun e s' => R (.error e) s') s₄) (notedBy W.M A env fun e s' => R (.error e) s') s₃
            else ∃ m, m < n ∧ I m s₃) (notedBy W.M A env fun e s' => R (.error e) s') s₂) (notedBy W.M A env fun e s' => R (.error e) s') s₁) (notedBy W.M A env fun e s' => R (.error e) s') s)
    (n : Nat) (h : I n s) (ht : ∀ v, letOwnedTupleGo target it v = pure ()) (hf : ∀ x, foldedSetIterable i1 env x = pure x) :
    codeAny W.M A (.compLoop (.ListComp elt [⟨target, iter, ifs, 0⟩, ⟨t1, i1, ifs1, 0⟩] scope pos) 0 it acc env) R s := by
  refine codeAny_loop rfl I (fun n s hI => ?_) n h
  show wpAny _ A ((compTurn (.ListComp elt [⟨target, iter, ifs, 0⟩, ⟨t1, i1, ifs1, 0⟩] scope pos) 0 it acc env).onRaise (fun x => do noteFrame x env; theTreesLotGoes x)) _ _ s
  refine wpAny_noted ?_
  rw [turn_outer]
  refine wpAny_bind (wpAny_standAt (wpAny_bind (wpAny_mono (turn n s hI) (fun r s₁ h₁ => ?_) fun _ _ h' => h')))
  cases r with
  | none => exact wpAny_pure h₁
  | some v =>
    refine wpAny_bind (wpAny_of_eq (ht v) ?_)
    refine wpAny_bind (wpAny_mono h₁ (fun _ s₂ h₂ => wpAny_bind (wpAny_mono h₂ (fun ok s₃ h₃ => ?_) fun _ _ h' => h')) fun _ _ h' => h')
    cases ok with
    | false => exact wpAny_pure ⟨rfl, h₃⟩
    | true =>
      refine wpAny_bind (wpAny_mono h₃ (fun x s₄ h₄ => wpAny_bind (wpAny_standAt (wpAny_bind (wpAny_of_eq (hf x) ?_)))) fun _ _ h' => h')
      refine wpAny_bind (wpAny_holding (wpAny_mono h₄ (fun it2 s₅ h₅ => wpAny_bind (wpAny_runOwn (codeAny_mono h₅ fun r s' hr => ?_))) fun _ _ h' => h'))
      cases r with
      | ok f => exact wpAny_pure ⟨rfl, hr⟩
      | error e => exact hr

theorem start_inner {elt target iter g0 ifs rest scope pos it acc env} {R : Result → Shared → Prop} {s : Shared}
    (h0 : codeAny W.M A (.compLoop (.ListComp elt (g0 :: ⟨target, iter, ifs, 0⟩ :: rest) scope pos) 1 it acc env) R s)
    (h : wpAny W.M A (pyIter it) (fun it' s' => codeAny W.M A (.compLoop (.ListComp elt (g0 :: ⟨target, iter, ifs, 0⟩ :: rest) scope pos) 1 it' acc env) R s')
      (notedBy W.M A env fun x s' => R (.error x) s') s) :
    codeAny W.M A (.compStart (.ListComp elt (g0 :: ⟨target, iter, ifs, 0⟩ :: rest) scope pos) 1 it acc env) R s := by
  refine codeAny_of_tree ?_
  show wpAny _ _ ((compStart (.ListComp elt (g0 :: ⟨target, iter, ifs, 0⟩ :: rest) scope pos) 1 it acc env).onRaise (fun x => do noteFrame x env; standAt theWindowsPlace)) _ _ s
  refine wpAny_notedAt ?_
  unfold compStart
  show wpAny _ _ (ask >>= _) _ _ s
  refine wpAny_bind (wpAny_askSetting (wpAny_ite ?_))
  split
  · first
      | exact wpAny_bind (wpAny_pure (wpAny_pure (And.intro rfl h0)))
      | exact wpAny_pure (And.intro rfl h0)
  · first
      | exact wpAny_bind (wpAny_rule (wpAny_bind (wpAny_standAt (wpAny_bind (wpAny_mono h (fun it' s' h' => wpAny_pure (And.intro rfl h')) fun _ _ x => x)))))
      | (refine wpAny_bind (wpAny_rule ?_); show wpAny _ _ (standAt iter.pos >>= _) _ _ s; exact wpAny_bind (wpAny_standAt (wpAny_bind (wpAny_mono h (fun it' s' h' => wpAny_pure (And.intro rfl h')) fun _ _ x => x))))

/-- the inner loop of two, whole -/
theorem inner_loop {elt target iter : Expr} {g0 : Comprehension} {ifs : List Expr} {scope : Scope} {pos : Pos} {cenv : Env} {hid0 g : PMap} {vv : Vars} {h : Heap} {t : Nat} {D I : Addr} {oI : Obj} {vs : Array Value} {nn : Nat} {d : PV} {u : Value} {its ds0 : List PV} {p : PV → Bool} {f : PV → PV} {tv : PV → Vars} {RR : Result → Shared → Prop}
    (hh : A.handled = none) (R : Rep W (ins (ins hid0 D (lobj vs nn)) I oI) g cenv vv mu h) (hI0 : hid0 I = none) (hD0 : hid0 D = none) (hDI : D ≠ I) (eI : h.get? I = some oI) (hof : ∃ vs, oI.data = .fields vs) (hsrc : Src mu d its) (i1 : Is g d u) (hit : ItAt u d 0 I h) (eD : h.get? D = some (lobj vs nn))
    (iss0 : Iss g ds0 vs.toList) (hlen : ds0.length + its.length ≤ 100000) (hlo : ∀ v it, letOwnedTupleGo target it v = pure ())
    (htgt : ∀ hid' a, a ∈ its → Tgt W A hid' cenv vv mu target a (tv a)) (htest : ∀ hid' a, a ∈ its → Tests W A hid' cenv (tv a) mu ifs (p a)) (helt : ∀ hid' a, a ∈ its → p a = true → Ev W A hid' cenv (tv a) mu elt (f a)) (hsub : ∀ a, a ∈ its → Sub vv (tv a))
    (fin : ∀ g' h' t' vs' nn', Le g g' → Rep W (ins hid0 D (lobj vs' nn')) g' cenv vv mu h' → h'.get? D = some (lobj vs' nn') → Iss g' (ds0 ++ (its.filter p).map f) vs'.toList → RR (.ok .next) (W.S h' t')) :
    codeAny W.M A (.compLoop (.ListComp elt [g0, ⟨target, iter, ifs, 0⟩] scope pos) 1 (.ref I) (.ref D) cenv) RR (W.S h t) := by
  have hrI : ∀ oD, ins hid0 D oD I = none := fun oD => by rw [ins_other (Ne.symm hDI)]; exact hI0
  have hrD : ∀ oI, ins hid0 I oI D = none := fun oI => by rw [ins_other hDI]; exact hD0
  refine loop_inner (fun n s => ∃ i g' h' t' oI vs nn, n = its.length + 1 - i ∧ i ≤ its.length ∧ s = W.S h' t' ∧ Le g g' ∧ h'.get? I = some oI ∧ (∃ vs, oI.data = .fields vs) ∧ ItAt u d i I h' ∧
      h'.get? D = some (lobj vs nn) ∧ Iss g' (ds0 ++ ((its.take i).filter p).map f) vs.toList ∧ Rep W (ins (ins hid0 D (lobj vs nn)) I oI) g' cenv vv mu h') ?_ (its.length + 1)
      ⟨0, g, h, t, oI, vs, nn, rfl, Nat.zero_le _, rfl, Le.refl g, eI, hof, hit, eD, by simpa using iss0, R⟩ (fun v => hlo v _)
  clear R eI hof eD iss0 hit
  rintro n s ⟨i, g', h', t', oI, vs, nn, rfl, hile, rfl, lg, eIh, hoI, hita, eDh, iss, R'⟩
  refine iter_next hh R' hsrc (i1.mono lg) hita (fun a w h2 t2 ha iw hsb hit2 => ?_) fun hge h2 t2 hext => ?_
  · have hlt : i < its.length := by
      rcases Nat.lt_or_ge i its.length with q | q
      · exact q
      · rw [List.getElem?_eq_none q] at ha; cases ha
    have hmem : a ∈ its := List.mem_of_getElem? ha
    obtain ⟨o2, vs2, eo2, ef2⟩ := hit2.fields
    have R4 := R'.rehide (hrI _) (nocell_of hoI) hsb eo2
    refine htgt _ a hmem g' h2 t2 w _ _ R4 iw fun h3 t3 R5 => ?_
    refine htest _ a hmem g' h3 t3 _ _ R5 fun g4 h4 t4 l4 R6 => ?_
    have take : (its.take (i + 1)).filter p = (its.take i).filter p ++ (if p a then [a] else []) := take_succ_filter p its i a ha
    have fin2 : ∀ {gg hh tt vs' nn'}, Le g' gg → hh.get? D = some (lobj vs' nn') → Iss gg (ds0 ++ ((its.take (i + 1)).filter p).map f) vs'.toList →
        Rep W (ins (ins hid0 D (lobj vs' nn')) I o2) gg cenv (tv a) mu hh →
        ∃ m, m < its.length + 1 - i ∧ ∃ i g' h' t' oI vs nn, m = its.length + 1 - i ∧ i ≤ its.length ∧ W.S hh tt = W.S h' t' ∧ Le g g' ∧ h'.get? I = some oI ∧ (∃ vs, oI.data = .fields vs) ∧ ItAt u d i I h' ∧
          h'.get? D = some (lobj vs nn) ∧ Iss g' (ds0 ++ ((its.take i).filter p).map f) vs.toList ∧ Rep W (ins (ins hid0 D (lobj vs nn)) I oI) g' cenv vv mu h' := by
      intro gg hh tt vs' nn' ll eD' is' RR
      obtain ⟨sl2, q1, q2⟩ := RR.hs I o2 (ins_same _ _ _)
      have q3 : hh.get? I = some o2 := by rw [q1, q2 (fun es ep z => by rw [ef2] at z; cases z)]
      exact ⟨its.length + 1 - (i + 1), by omega, i + 1, gg, hh, tt, o2, vs', nn', rfl, by omega, rfl, lg.trans ll, q3, ⟨vs2, ef2⟩, hit2.at fun o q => by rw [eo2] at q; cases q; exact q3, eD', is', RR.forget (hsub a hmem) (List.Sublist.refl _)⟩
    have getD : ∀ {gg hh vv}, Rep W (ins (ins hid0 D (lobj vs nn)) I o2) gg cenv vv mu hh → hh.get? D = some (lobj vs nn) := fun RR => by
      obtain ⟨sl', q1, q2⟩ := RR.hs D _ (by rw [ins_other hDI, ins_same])
      rw [q1, q2 (fun es ep z => nomatch (show Data.seq vs nn = Data.dict es ep from z))]
    have redo : ∀ {gg hh vv vs' nn'}, Rep W (ins (ins hid0 D (lobj vs nn)) I o2) gg cenv vv mu hh → hh.get? D = some (lobj vs' nn') → Rep W (ins (ins hid0 D (lobj vs' nn')) I o2) gg cenv vv mu hh := fun RR q => by
      rw [ins_comm hDI] at RR ⊢
      exact RR.rehide (hrD _) (fun v z => by cases z) (Heap.SameBut.refl _ _) q
    cases hp : p a with
    | false =>
      simp only [Bool.false_eq_true, if_false]
      have q := getD R6
      refine fin2 l4 q ?_ (redo R6 q)
      rw [take, hp]; simpa using iss.mono l4
    | true =>
      simp only [if_true]
      refine helt _ a hmem hp g4 h4 t4 _ _ R6 fun y g5 h5 t5 l5 R7 iy => ?_
      have q := getD R7
      have hvs : vs.size ≤ 100000 := by
        have := iss.length
        have h3 : (((its.take i).filter p).map f).length ≤ (its.take i).length := by rw [List.length_map]; exact List.length_filter_le _ _
        simp at this h3
        omega
      refine append_K q (by omega) fun h6 n6 e6 hs6 => ?_
      refine fin2 (l4.trans l5) e6 ?_ ?_
      · rw [take, hp, List.map_append]
        simpa using ((iss.mono (l4.trans l5)).append (.cons iy .nil))
      · have R8 := R7
        rw [ins_comm hDI] at R8 ⊢
        exact R8.rehide (hrD _) (fun v z => by cases z) hs6 e6
  · have e : i = its.length := by omega
    subst e
    have R4 := R'.letgo (hrI _) (nocell_of hoI) hext
    rw [List.take_length] at iss
    exact fin g' h2 t2 vs nn lg R4 (hext _ _ hDI eDh) iss
end
end Mine
end

section
open PySem PySem.W PyProof.Rows PySem.Calls PySem.SeqAt
set_option linter.unusedVariables false
set_option maxRecDepth 100000
namespace Mine
section
variable {W : Wk} {A : Around} {hid : PMap} {env : Env} {vars : Vars} {mu : Mu} {K K' : Out → Prop}
/-- a comprehension with two clauses, up to what is done with its list -/
theorem comp2_core {elt target iter t1 i1 : Expr} {ifs ifs1 : List Expr} {scope : Scope} {pos cpos : Pos} {use : Option (Value → Sem Unit)} {d : PV} {its : List PV} {vars' : Vars} {p : PV → Bool} {d1 : PV → PV} {its1 : PV → List PV} {p1 : PV → PV → Bool} {f : PV → PV → PV} {tv : PV → Vars} {tv1 : PV → PV → Vars} {N : Nat}
    {g h t} {Q : Value → Shared → Prop} {E : Value → Shared → Prop}
    (hh : A.handled = none) (he : Ev W A hid env vars mu iter d) (hsrc : Src mu d its) (B : BlockOk scope env) (hk : env.scope.kind = .function) (hv : Over scope env vars' vars) (hf : ∀ x, foldedSetIterable iter env x = pure x)
    (hlo : ∀ v it, letOwnedTupleGo target it v = pure ()) (hlen : its.length * N ≤ 100000)
    (hnc : ∀ x, scope.names.lookup x ≠ some .cell) (hlo1 : ∀ v it, letOwnedTupleGo t1 it v = pure ()) (hlen1 : ∀ a, a ∈ its → (its1 a).length ≤ N) (hf1 : ∀ C x, foldedSetIterable i1 (cEnv scope C env) x = pure x) (hsrc1 : ∀ a, a ∈ its → Src mu (d1 a) (its1 a))
    (htgt : ∀ hid' C a, a ∈ its → Tgt W A hid' (cEnv scope C env) vars' mu target a (tv a))
    (htest : ∀ hid' C a, a ∈ its → Tests W A hid' (cEnv scope C env) (tv a) mu ifs (p a))
    (hit1 : ∀ hid' C a, a ∈ its → p a = true → Ev W A hid' (cEnv scope C env) (tv a) mu i1 (d1 a))
    (htgt1 : ∀ hid' C a b, a ∈ its → b ∈ its1 a → Tgt W A hid' (cEnv scope C env) (tv a) mu t1 b (tv1 a b))
    (htest1 : ∀ hid' C a b, a ∈ its → b ∈ its1 a → Tests W A hid' (cEnv scope C env) (tv1 a b) mu ifs1 (p1 a b))
    (helt : ∀ hid' C a b, a ∈ its → b ∈ its1 a → p1 a b = true → Ev W A hid' (cEnv scope C env) (tv1 a b) mu elt (f a b))
    (hsub1 : ∀ a b, a ∈ its → b ∈ its1 a → Sub (tv a) (tv1 a b))
    (hsub : ∀ a, a ∈ its → Sub vars' (tv a))
    (R : Rep W hid g env vars mu h)
    (fin : ∀ C D g' h' t' oC, Le g g' → Rep W (ins hid C oC) g' env vars mu h' → hid C = none → (∀ v, oC.data ≠ .cell v) → (∀ h2, UpTo oC h2 C → ∃ m, h2.Ns C m) → NewL W (ins hid C oC) g' env mu h' D ((its.filter p).flatMap fun a => ((its1 a).filter (p1 a)).map (f a)) → compPost W.M A E use Q (.ref D) C (.ok .next) (W.S h' t')) :
    wpAny W.M A (comprehension (.ListComp elt [⟨target, iter, ifs, 0⟩, ⟨t1, i1, ifs1, 0⟩] scope pos) scope env cpos (newList []) false (eval iter env) use) Q E (W.S h t) := by
  refine wpAny_comprehension_free rfl hf (closure_is B.found) B.kind (fun x hx hl => ?_) (he g h t _ E R fun u g1 h1 t1 l1 R1 i1 => iter_start R1 hsrc i1 fun o ho hit => wpAny_newObj_type ?_)
  · obtain ⟨k, hk'⟩ : ∃ k, scope.names.lookup x.1 = some k := by
      cases q : scope.names.lookup x.1 with
      | some k => exact ⟨k, rfl⟩
      | none => exact absurd hx (fun hm => by
          have : ∀ {l : List (Str × NameKind)}, (x.1, x.2) ∈ l → l.lookup x.1 ≠ none := by
            intro l; induction l with
            | nil => intro h; cases h
            | cons p r ih =>
              obtain ⟨n, k⟩ := p
              intro h
              by_cases e : x.1 = n
              · subst e; rw [lookup_cons_eq]; simp
              · rw [lookup_cons_ne e]
                rcases List.mem_cons.mp h with z | z
                · cases z; exact absurd rfl e
                · exact ih z
          exact this hm q)
    rw [hk', ← lookup_mem_nodup B.nodup hk' hx, hl]
  refine wpAny_newCompEnv ?_
  -- the addresses
  have I1 : h1.get? h1.objs.size = none := Rep.fresh_size
  have eI : (h1.push o).get? h1.objs.size = some o := Heap.get?_push_size _ ho
  have hsz : (h1.push o).objs.size = h1.objs.size + 1 := Heap.size_push ..
  have D1 : h1.get? (h1.push o).objs.size = none := by
    cases q : h1.get? (h1.push o).objs.size with
    | none => rfl
    | some o' => have := Heap.lt_size q; rw [hsz] at this; exact absurd this (Nat.not_lt.mpr (Nat.le_succ _))
  have eD : ((h1.push o).push { cls := .type "list", data := .seq #[] }).get? (h1.push o).objs.size = some { cls := .type "list", data := .seq #[] } := Heap.get?_push_size _ rfl
  have hDI : (h1.push o).objs.size ≠ h1.objs.size := by rw [hsz]; exact Nat.succ_ne_self _
  generalize hH : (h1.push o).push { cls := .type "list", data := .seq #[] } = H at *
  have kH : Kept h1 H := hH ▸ kept_trans (kept_push h1 o) (kept_push _ _)
  have eI' : H.get? h1.objs.size = some o := hH ▸ Heap.get?_push_of_some _ eI
  have hit' : ItAt u d 0 h1.objs.size H := hit.at fun o' q => hH ▸ Heap.get?_push_of_some _ q
  have hIH : h1.objs.size < H.objs.size := Heap.lt_size eI'
  have hDH : (h1.push o).objs.size < H.objs.size := Heap.lt_size eD
  have RC := R1.comp B hk kH hv
  have lone : ∀ {a}, h1.get? a = none → a < H.objs.size → Lone W (rest g1 mu h1) g1 (cEnv scope H.objs.size env) mu a := fun {a} ha hlt =>
    ⟨R1.gnone ha, rest_none ha, fun z => Nat.lt_irrefl _ (show H.objs.size < H.objs.size from (show a = H.objs.size from z) ▸ hlt), fun x c e z => by
      rcases cEnv_cells B.found e with q | q
      · exact (R1.lone ha).cell x c q z
      · rw [z] at q; exact Nat.lt_irrefl _ (Nat.lt_trans q hlt), (R1.lone ha).mu⟩
  have kP : Kept H (pushCells (H.push { cls := .type "dict", data := .dict #[] }) scope.names) := fun b o e => pushCells_keeps _ _ b o (Heap.get?_push_of_some _ e)
  have hC1 : h1.get? H.objs.size = none := by
    cases q : h1.get? H.objs.size with
    | none => rfl
    | some o' => exact absurd (Heap.lt_size (kH _ _ q)) (Nat.lt_irrefl _)
  show codeAny _ _ (.compStart _ 0 _ _ (cEnv scope H.objs.size env)) (compPost W.M A E use Q (.ref (h1.push o).objs.size) H.objs.size) _
  generalize hP : pushCells (H.push { cls := .type "dict", data := .dict #[] }) scope.names = H4 at *
  have R2 := RC.hideAt (lone D1 hDH) (kP _ _ eD)
  have R3 := R2.hideAt (a := h1.objs.size) (by
    have L := lone I1 hIH
    exact ⟨L.g, by rw [ins_other (Ne.symm hDI)]; exact L.hid, L.loc, L.cell, L.mu⟩) (kP _ _ eI')
  generalize (h1.push o).objs.size = D at *
  generalize h1.objs.size = I at *
  have hit4 : ItAt u d 0 I H4 := hit'.at fun o' q => kP _ _ q
  have hrI : ∀ oD, ins (rest g1 mu h1) D oD I = none := fun oD => by rw [ins_other (Ne.symm hDI)]; exact rest_none I1
  have hrD : ∀ oI, ins (rest g1 mu h1) I oI D = none := fun oI => by rw [ins_other hDI]; exact rest_none D1
  have hof : ∃ vs, o.data = .fields vs := by obtain ⟨o', vs, e1, e2⟩ := hit4.fields; rw [kP _ _ eI'] at e1; cases e1; exact ⟨vs, e2⟩
  refine codeAny_compStart_list ?_ (iter_self hit4 ?_)
  all_goals
    refine loop_outer (fun n s => ∃ i g' h' t' oI vs nn, n = its.length + 1 - i ∧ i ≤ its.length ∧ s = W.S h' t' ∧ Le g1 g' ∧ h'.get? I = some oI ∧ (∃ vs, oI.data = .fields vs) ∧ ItAt u d i I h' ∧
      h'.get? D = some (lobj vs nn) ∧ Iss g' (((its.take i).filter p).flatMap fun a => ((its1 a).filter (p1 a)).map (f a)) vs.toList ∧ Rep W (ins (ins (rest g1 mu h1) D (lobj vs nn)) I oI) g' (cEnv scope H.objs.size env) vars' mu h') ?_ (its.length + 1)
      ⟨0, g1, H4, t1, o, #[], 0, rfl, Nat.zero_le _, rfl, Le.refl g1, kP _ _ eI', hof, hit4, kP _ _ eD, by simpa using Iss.nil, R3⟩ (fun v => hlo v _) (hf1 _)
    rintro n s ⟨i, g', h', t', oI, vs, nn, rfl, hile, rfl, lg, eIh, hoI, hita, eDh, iss, R'⟩
    refine iter_next hh R' hsrc (i1.mono lg) hita (fun a w h2 t2 ha iw hsb hit2 => ?_) fun hge h2 t2 hext => ?_
    · have hlt : i < its.length := by
        rcases Nat.lt_or_ge i its.length with q | q
        · exact q
        · rw [List.getElem?_eq_none q] at ha; cases ha
      have hmem : a ∈ its := List.mem_of_getElem? ha
      obtain ⟨o2, vs2, eo2, ef2⟩ := hit2.fields
      have R4 := R'.rehide (hrI _) (nocell_of hoI) hsb eo2
      refine htgt _ _ a hmem g' h2 t2 w _ _ R4 iw fun h3 t3 R5 => ?_
      refine htest _ _ a hmem g' h3 t3 _ _ R5 fun g4 h4 t4 l4 R6 => ?_
      have take : (its.take (i + 1)).filter p = (its.take i).filter p ++ (if p a then [a] else []) := take_succ_filter p its i a ha
      have fin2 : ∀ {gg hh tt vs' nn'}, Le g' gg → hh.get? D = some (lobj vs' nn') → Iss gg (((its.take (i + 1)).filter p).flatMap fun a => ((its1 a).filter (p1 a)).map (f a)) vs'.toList →
          Rep W (ins (ins (rest g1 mu h1) D (lobj vs' nn')) I o2) gg (cEnv scope H.objs.size env) (tv a) mu hh →
          ∃ m, m < its.length + 1 - i ∧ ∃ i g' h' t' oI vs nn, m = its.length + 1 - i ∧ i ≤ its.length ∧ W.S hh tt = W.S h' t' ∧ Le g1 g' ∧ h'.get? I = some oI ∧ (∃ vs, oI.data = .fields vs) ∧ ItAt u d i I h' ∧
            h'.get? D = some (lobj vs nn) ∧ Iss g' (((its.take i).filter p).flatMap fun a => ((its1 a).filter (p1 a)).map (f a)) vs.toList ∧ Rep W (ins (ins (rest g1 mu h1) D (lobj vs nn)) I oI) g' (cEnv scope H.objs.size env) vars' mu h' := by
        intro gg hh tt vs' nn' ll eD' is' RR
        obtain ⟨sl2, q1, q2⟩ := RR.hs I o2 (ins_same _ _ _)
        have q3 : hh.get? I = some o2 := by rw [q1, q2 (fun es ep z => by rw [ef2] at z; cases z)]
        exact ⟨its.length + 1 - (i + 1), by omega, i + 1, gg, hh, tt, o2, vs', nn', rfl, by omega, rfl, lg.trans ll, q3, ⟨vs2, ef2⟩, hit2.at fun o q => by rw [eo2] at q; cases q; exact q3, eD', is', RR.forget (hsub a hmem) (List.Sublist.refl _)⟩
      have getD : ∀ {gg hh vv}, Rep W (ins (ins (rest g1 mu h1) D (lobj vs nn)) I o2) gg (cEnv scope H.objs.size env) vv mu hh → hh.get? D = some (lobj vs nn) := fun RR => by
        obtain ⟨sl', q1, q2⟩ := RR.hs D _ (by rw [ins_other hDI, ins_same])
        rw [q1, q2 (fun es ep z => nomatch (show Data.seq vs nn = Data.dict es ep from z))]
      have redo : ∀ {gg hh vv vs' nn'}, Rep W (ins (ins (rest g1 mu h1) D (lobj vs nn)) I o2) gg (cEnv scope H.objs.size env) vv mu hh → hh.get? D = some (lobj vs' nn') →
          Rep W (ins (ins (rest g1 mu h1) D (lobj vs' nn')) I o2) gg (cEnv scope H.objs.size env) vv mu hh := fun RR q => by
        rw [ins_comm hDI] at RR ⊢
        exact RR.rehide (hrD _) (fun v z => by cases z) (Heap.SameBut.refl _ _) q
      cases hp : p a with
      | false =>
        simp only [Bool.false_eq_true, if_false]
        have q := getD R6
        refine fin2 l4 q ?_ (redo R6 q)
        rw [take, hp]; simpa using iss.mono l4
      | true =>
        simp only [if_true]
        refine hit1 _ _ a hmem hp g4 h4 t4 _ _ R6 fun y g5 h5 t5 l5 R7 iy => iter_start R7 (hsrc1 a hmem) iy fun oJ hoJ hitJ => ?_
        have q := getD R7
        have hvs : vs.size ≤ i * N := by
          have h2 := iss.length
          have key : ∀ (l : List PV), (∀ a ∈ l, a ∈ its) → (l.flatMap fun a => ((its1 a).filter (p1 a)).map (f a)).length ≤ l.length * N := by
            intro l
            induction l with
            | nil => intro _; simp
            | cons x r ih =>
              intro hx
              rw [List.flatMap_cons, List.length_append, List.length_map, List.length_cons, Nat.succ_mul]
              have h4 := ih (fun a ha => hx a (.tail _ ha))
              have h5 := hlen1 x (hx x (.head _))
              have h6 := List.length_filter_le (p1 x) (its1 x)
              omega
          have h3 := key ((its.take i).filter p) (fun a ha => List.mem_of_mem_take (List.mem_filter.mp ha).1)
          have h4 := List.length_filter_le p (its.take i)
          have h5 : ((its.take i).filter p).length * N ≤ i * N := Nat.mul_le_mul_right _ (by simp at h4; omega)
          rw [Array.length_toList] at h2
          omega
        have hJ5 : h5.get? h5.objs.size = none := Rep.fresh_size
        have eJ : (h5.push oJ).get? h5.objs.size = some oJ := Heap.get?_push_size _ hoJ
        have hsmall : ∀ {b o'}, h5.get? b = some o' → b ≠ h5.objs.size := fun e z => by rw [z, hJ5] at e; cases e
        have eI5 : h5.get? I = some o2 := by
          obtain ⟨sl2, q1, q2⟩ := R7.hs I o2 (ins_same _ _ _)
          rw [q1, q2 (fun es ep z => by rw [ef2] at z; cases z)]
        have hrestJ : ∀ oI', ins (rest g1 mu h1) I oI' h5.objs.size = none := fun oI' => by
          rw [ins_other (Ne.symm (hsmall eI5))]
          have := R7.hnone hJ5
          rw [ins_other (Ne.symm (hsmall eI5)), ins_other (Ne.symm (hsmall q))] at this
          exact this
        have R8 := (R7.keeps (kept_push h5 oJ)).hideAt (R7.lone hJ5) eJ
        have hofJ : ∃ vs, oJ.data = .fields vs := by obtain ⟨o', vs', e1, e2⟩ := hitJ.fields; rw [eJ] at e1; cases e1; exact ⟨vs', e2⟩
        have R9 : Rep W (ins (ins (ins (rest g1 mu h1) I o2) D (lobj vs nn)) h5.objs.size oJ) g5 (cEnv scope H.objs.size env) (tv a) mu (h5.push oJ) := by
          rw [ins_comm (Ne.symm hDI)]; exact R8
        have hl1 : ((((its.take i).filter p).flatMap fun a => ((its1 a).filter (p1 a)).map (f a))).length + (its1 a).length ≤ 100000 := by
          have h2 := iss.length
          have h3 := hlen1 a hmem
          have h4 : (i + 1) * N ≤ its.length * N := Nat.mul_le_mul_right _ hlt
          rw [Nat.succ_mul] at h4
          rw [Array.length_toList] at h2
          omega
        refine start_inner ?_ (iter_self hitJ ?_)
        all_goals
          refine inner_loop hh R9 (hrestJ _) (hrD _) (hsmall q) eJ hofJ (hsrc1 a hmem) iy hitJ (Heap.get?_push_of_some _ q) (iss.mono (l4.trans l5)) hl1 hlo1 (fun hid' b hb => htgt1 hid' _ a b hmem hb) (fun hid' b hb => htest1 hid' _ a b hmem hb) (fun hid' b hb hpb => helt hid' _ a b hmem hb hpb) (fun b hb => hsub1 a b hmem hb) fun g6 h6 t6 vs' nn' l6 R10 e10 iss6 => ?_
          refine fin2 ((l4.trans l5).trans l6) e10 ?_ ?_
          · rw [take, hp]
            simpa using iss6
          · rw [ins_comm hDI]; exact R10
    · have e : i = its.length := by omega
      subst e
      have R4 := R'.letgo (hrI _) (nocell_of hoI) hext
      obtain ⟨slD, qD, qD2⟩ := R4.hs D _ (ins_same _ _ _)
      have : slD = #[] := qD2 (fun es ep z => nomatch (show Data.seq vs nn = Data.dict es ep from z))
      subst this
      have gD : g' D = none := by
        cases q : g' D with
        | none => rfl
        | some x => have := R4.gh D x q; rw [ins_same] at this; cases this
      have R5 := R4.unhide (rest_none D1)
      have RO := R1.back lg R5.e (fun a h => h) (fun a l hm _ => by
        obtain ⟨vs, n, e1, r1, r2, _⟩ := R5.mus a l hm
        exact ⟨vs, n, e1, r1, r2⟩)
      obtain ⟨m, oC, es, ep, eC, eCd, hrest⟩ := R5.ns
      have eC' : h2.get? H.objs.size = some oC := eC
      have LC : Lone W hid g' env mu H.objs.size := ⟨R5.gL, R1.hnone hC1, (R1.lone hC1).loc, (R1.lone hC1).cell, (R1.lone hC1).mu⟩
      have hDC : D ≠ H.objs.size := Nat.ne_of_lt hDH
      refine fin H.objs.size D g' h2 t2 oC (l1.trans lg) (RO.hideAt LC eC') LC.hid (fun v z => by rw [eCd] at z; cases z) (fun h3 ⟨sl3, q3, _⟩ => ⟨m, _, es, ep, q3, eCd, hrest⟩) ⟨⟨gD, by rw [ins_other hDC]; exact R1.hnone D1, (R1.lone D1).loc, (R1.lone D1).cell, (R1.lone D1).mu⟩, vs, nn, qD, ?_⟩
      have := iss
      rw [List.take_length] at this
      exact this


structure Comp2Ok (W : Wk) (A : Around) (hid : PMap) (env : Env) (vars : Vars) (mu : Mu) (elt target iter : Expr) (ifs : List Expr) (t1 i1 : Expr) (ifs1 : List Expr) (scope : Scope) (its : List PV) (p : PV → Bool) (its1 : PV → List PV) (p1 : PV → PV → Bool) (f : PV → PV → PV) : Prop where
  run : ∃ (d : PV) (vars' : Vars) (tv : PV → Vars) (d1 : PV → PV) (tv1 : PV → PV → Vars) (N : Nat), Ev W A hid env vars mu iter d ∧ Src mu d its ∧ BlockOk scope env ∧ Over scope env vars' vars ∧ (∀ x, foldedSetIterable iter env x = pure x) ∧ (∀ v it, letOwnedTupleGo target it v = pure ()) ∧ its.length * N ≤ 100000 ∧
    (∀ x, scope.names.lookup x ≠ some .cell) ∧ (∀ v it, letOwnedTupleGo t1 it v = pure ()) ∧ (∀ a, a ∈ its → (its1 a).length ≤ N) ∧ (∀ C x, foldedSetIterable i1 (cEnv scope C env) x = pure x) ∧ (∀ a, a ∈ its → Src mu (d1 a) (its1 a)) ∧
    (∀ hid' C a, a ∈ its → Tgt W A hid' (cEnv scope C env) vars' mu target a (tv a)) ∧
    (∀ hid' C a, a ∈ its → Tests W A hid' (cEnv scope C env) (tv a) mu ifs (p a)) ∧
    (∀ hid' C a, a ∈ its → p a = true → Ev W A hid' (cEnv scope C env) (tv a) mu i1 (d1 a)) ∧
    (∀ hid' C a b, a ∈ its → b ∈ its1 a → Tgt W A hid' (cEnv scope C env) (tv a) mu t1 b (tv1 a b)) ∧
    (∀ hid' C a b, a ∈ its → b ∈ its1 a → Tests W A hid' (cEnv scope C env) (tv1 a b) mu ifs1 (p1 a b)) ∧
    (∀ hid' C a b, a ∈ its → b ∈ its1 a → p1 a b = true → Ev W A hid' (cEnv scope C env) (tv1 a b) mu elt (f a b)) ∧
    (∀ a b, a ∈ its → b ∈ its1 a → Sub (tv a) (tv1 a b)) ∧ (∀ a, a ∈ its → Sub vars' (tv a))
  hh : A.handled = none
  hk : env.scope.kind = .function
theorem evnew_comp2 {elt target iter t1 i1 : Expr} {ifs ifs1 : List Expr} {scope : Scope} {pos : Pos} {its p its1 p1 f} (c : Comp2Ok W A hid env vars mu elt target iter ifs t1 i1 ifs1 scope its p its1 p1 f) :
    EvNew W A hid env vars mu (.ListComp elt [⟨target, iter, ifs, 0⟩, ⟨t1, i1, ifs1, 0⟩] scope pos) ((its.filter p).flatMap fun a => ((its1 a).filter (p1 a)).map (f a)) := fun g h t Q E R k => by
  obtain ⟨⟨d, vars', tv, d1, tv1, N, he, hsrc, B, hv, hf, hlo, hlen, hnc, hlo1, hlen1, hf1, hsrc1, htgt, htest, hit1, htgt1, htest1, helt, hsub1, hsub⟩, hh, hk⟩ := c
  rw [eval_ListComp]
  refine comp2_core hh he hsrc B hk hv hf hlo hlen hnc hlo1 hlen1 hf1 hsrc1 htgt htest hit1 htgt1 htest1 helt hsub1 hsub R fun C D g' h' t' oC l R' hC hnc hns N => ?_
  refine compPost_ok (hns _ (R'.hs C oC (ins_same _ _ _))) fun h2 hs2 => ?_
  have R2 := R'.letgo hC hnc hs2.extBut
  obtain ⟨L, vs, n, e, i⟩ := N
  have hDC : D ≠ C := fun z => by have := L.hid; rw [z, ins_same] at this; cases this
  refine k D g' h2 t' l R2 ⟨⟨L.g, by have := L.hid; rw [ins_other hDC] at this; exact this, L.loc, L.cell, L.mu⟩, vs, n, (hs2.2 D hDC).trans e, i⟩
end
end Mine
end

section
open PySem PySem.W PyProof.Rows PySem.Calls PySem.SeqAt
set_option linter.unusedVariables false
set_option maxRecDepth 100000
namespace Mine

/-- the built-in names are nobody's in the text -/
structure Names (W : Wk) : Prop where
  ok : W.Ok
  len : W.mg "len" = none
  sum : W.mg "sum" = none
  range : W.mg "range" = none
  sorted : W.mg "sorted" = none
  abs : W.mg "abs" = none
  int : W.mg "int" = none
  min : W.mg "min" = none
  max : W.mg "max" = none
  isinstance : W.mg "isinstance" = none
  list : W.mg "list" = none

theorem boot_len : bootBuiltins "len" = some (.builtin "len") := by decide +kernel
theorem boot_sum : bootBuiltins "sum" = some (.builtin "sum") := by decide +kernel
theorem boot_range : bootBuiltins "range" = some (.type "range") := by decide +kernel
theorem boot_sorted : bootBuiltins "sorted" = some (.builtin "sorted") := by decide +kernel
theorem boot_abs : bootBuiltins "abs" = some (.builtin "abs") := by decide +kernel
theorem boot_int : bootBuiltins "int" = some (.type "int") := by decide +kernel
/-- an environment of the text's -/
structure EnvOk (env : Env) : Prop where
  kind : env.scope.kind = .function
  glob : env.globals = mainGlobals
  bn : env.builtins = builtinsNs

section
variable {W : Wk} {A : Around} {hid : PMap} {env : Env} {vars : Vars} {mu : Mu} {K K' : Out → Prop}

theorem gname_b {x : Str} {v : Value} (E : EnvOk env) (hm : W.mg x = none) (hn : x ≠ "__name__") (hb : bootBuiltins x = some v) (hx : env.kindOf x = some .globalImplicit) (hd : (x == ("__debug__" : Str)) = false) : GName W env x v :=
  ⟨E.kind, E.glob, E.bn, hx, hd, .inr ⟨hm, hn, hb⟩⟩
theorem gname_g {x : Str} {v : Value} (E : EnvOk env) (hm : W.mg x = some v) (hx : env.kindOf x = some .globalImplicit) (hd : (x == ("__debug__" : Str)) = false) : GName W env x v :=
  ⟨E.kind, E.glob, E.bn, hx, hd, .inl hm⟩

theorem args1 {e : Expr} {d} (he : Ev W A hid env vars mu e d) (hs : starEach [e] env = [(false, eval e env)]) : EvArgs W A hid env vars mu [e] [d] := evargs_cons he evargs_nil hs

theorem ev_len {e : Expr} {np pos : Pos} {d l} (N : Names W) (E : EnvOk env) (he : Ev W A hid env vars mu e d) (hl : AsList mu d l) (hf : l.length < 2 ^ 62) (hx : env.kindOf "len" = some .globalImplicit) (hs : starEach [e] env = [(false, eval e env)]) :
    Ev W A hid env vars mu (.Call (.Name "len" np) [e] [] pos) (.int l.length) := ev_call_builtin N.ok (gname_b E N.len (by decide) boot_len hx (by decide)) (args1 he hs) (op_len hl hf) hs rfl
theorem ev_sum {e : Expr} {np pos : Pos} {d} {ns : List Int} (N : Names W) (E : EnvOk env) (hh : A.handled = none) (he : Ev W A hid env vars mu e d) (hl : AsList mu d (ns.map .int)) (hx : env.kindOf "sum" = some .globalImplicit) (hs : starEach [e] env = [(false, eval e env)]) :
    Ev W A hid env vars mu (.Call (.Name "sum" np) [e] [] pos) (.int ns.sum) := ev_call_builtin N.ok (gname_b E N.sum (by decide) boot_sum hx (by decide)) (args1 he hs) (op_sum hh hl) hs rfl
theorem ev_sorted {e : Expr} {np pos : Pos} {d} {ns : List Int} (N : Names W) (E : EnvOk env) (he : Ev W A hid env vars mu e d) (hl : AsList mu d (ns.map .int)) (h64 : ns.length < 64) (hx : env.kindOf "sorted" = some .globalImplicit) (hs : starEach [e] env = [(false, eval e env)]) :
    Ev W A hid env vars mu (.Call (.Name "sorted" np) [e] [] pos) (.list ((sortI ns).map .int)) := ev_call_builtin N.ok (gname_b E N.sorted (by decide) boot_sorted hx (by decide)) (args1 he hs) (op_sorted hl h64) hs rfl
theorem ev_abs {e : Expr} {np pos : Pos} {n : Int} (N : Names W) (E : EnvOk env) (he : Ev W A hid env vars mu e (.int n)) (hx : env.kindOf "abs" = some .globalImplicit) (hs : starEach [e] env = [(false, eval e env)]) :
    Ev W A hid env vars mu (.Call (.Name "abs" np) [e] [] pos) (.int (n.natAbs : Int)) := ev_call_builtin N.ok (gname_b E N.abs (by decide) boot_abs hx (by decide)) (args1 he hs) op_abs hs rfl
theorem ev_toint {e : Expr} {np pos : Pos} {n : Int} (N : Names W) (E : EnvOk env) (he : Ev W A hid env vars mu e (.int n)) (hx : env.kindOf "int" = some .globalImplicit) (hs : starEach [e] env = [(false, eval e env)]) :
    Ev W A hid env vars mu (.Call (.Name "int" np) [e] [] pos) (.int n) := ev_call_type N.ok (gname_b E N.int (by decide) boot_int hx (by decide)) (args1 he hs) op_int hs rfl
theorem ev_range1 {e : Expr} {np pos : Pos} {n : Int} (N : Names W) (E : EnvOk env) (he : Ev W A hid env vars mu e (.int n)) (hx : env.kindOf "range" = some .globalImplicit) (hs : starEach [e] env = [(false, eval e env)]) :
    Ev W A hid env vars mu (.Call (.Name "range" np) [e] [] pos) (.rng 0 n) := ev_call_type N.ok (gname_b E N.range (by decide) boot_range hx (by decide)) (args1 he hs) op_range1 hs rfl
theorem ev_range2 {e f : Expr} {np pos : Pos} {n m : Int} (N : Names W) (E : EnvOk env) (he : Ev W A hid env vars mu e (.int n)) (hf : Ev W A hid env vars mu f (.int m)) (hx : env.kindOf "range" = some .globalImplicit) (hs : starEach [e, f] env = [(false, eval e env), (false, eval f env)]) (hs2 : starEach [f] env = [(false, eval f env)]) :
    Ev W A hid env vars mu (.Call (.Name "range" np) [e, f] [] pos) (.rng n m) := ev_call_type N.ok (gname_b E N.range (by decide) boot_range hx (by decide)) (evargs_cons he (args1 hf hs2) (by rw [hs, hs2])) op_range2 (by rw [hs, hs2]) (by rw [hs2]; rfl)
end

/-- sizes -/
theorem bits_of_lt {a : Int} {k : Nat} (h : a.natAbs < 2 ^ k) : Builtin.Int.intBits a ≤ k := by
  unfold Builtin.Int.intBits
  split
  · exact Nat.zero_le _
  · rename_i h0
    have hn : a.natAbs ≠ 0 := by
      intro z; apply h0; simp; omega
    exact (Nat.log2_lt hn).mpr h
theorem mulOk {a b : Int} {j k : Nat} (ha : a.natAbs < 2 ^ j) (hb : b.natAbs < 2 ^ k) (h : j + k ≤ 134217728) : IntMulOk a b := by
  have h1 := bits_of_lt ha
  have h2 := bits_of_lt hb
  unfold IntMulOk
  have : Builtin.Int.intTooBig ((Builtin.Int.intBits a : Int) + (Builtin.Int.intBits b : Int)) = false := by
    unfold Builtin.Int.intTooBig
    rw [bitsLine_eq]
    simp only [gt_iff_lt, decide_eq_false_iff_not, Int.not_lt]
    omega
  rw [this]; simp
end Mine
end

section
open PySem PySem.W PyProof.Rows PySem.Calls PySem.SeqAt
set_option linter.unusedVariables false
set_option maxRecDepth 100000
namespace Mine
section
variable {W : Wk} {A : Around} {hid : PMap} {env : Env} {vars : Vars} {mu : Mu} {K K' : Out → Prop}

open Classical in
noncomputable def unmk {α β : Type} (mk : α → PV) (f : α → β) (z : β) (v : PV) : β := if h : ∃ a, mk a = v then f h.choose else z
theorem unmk_eq {α β : Type} {mk : α → PV} (inj : ∀ a b, mk a = mk b → a = b) {f : α → β} {z : β} (a : α) : unmk mk f z (mk a) = f a := by
  unfold unmk
  have h : ∃ b, mk b = mk a := ⟨a, rfl⟩
  rw [dif_pos h]
  exact congrArg f (inj _ _ h.choose_spec)

/-- a comprehension over items that are data of one kind -/
structure CompM (W : Wk) (A : Around) (hid : PMap) (env : Env) (vars : Vars) (mu : Mu) (elt target iter : Expr) (ifs : List Expr) (scope : Scope) {α : Type} (mk : α → PV) (xs : List α) (p : α → Bool) (f : α → PV) (d : PV) (vars' : Vars) (tv : α → Vars) : Prop where
  inj : ∀ a b, mk a = mk b → a = b
  hh : A.handled = none
  hk : env.scope.kind = .function
  it : Ev W A hid env vars mu iter d
  src : Src mu d (xs.map mk)
  blk : BlockOk scope env
  over : Over scope env vars' vars
  fold : ∀ x, foldedSetIterable iter env x = pure x
  lo : LoOk mu target d (xs.map mk)
  len : xs.length ≤ 100000
  tgt : ∀ hid' C a, a ∈ xs → OwnFree hid' scope C env → Tgt W A hid' (cEnv scope C env) vars' mu target (mk a) (tv a)
  test : ∀ hid' C a, a ∈ xs → Tests W A hid' (cEnv scope C env) (tv a) mu ifs (p a)
  elt : ∀ hid' C a, a ∈ xs → p a = true → Ev W A hid' (cEnv scope C env) (tv a) mu elt (f a)
  sub : ∀ a, a ∈ xs → Sub vars' (tv a)

theorem CompM.ok {elt target iter : Expr} {ifs : List Expr} {scope : Scope} {α : Type} {mk : α → PV} {xs : List α} {p : α → Bool} {f : α → PV} {d vars' tv} (c : CompM W A hid env vars mu elt target iter ifs scope mk xs p f d vars' tv) :
    CompOk W A hid env vars mu elt target iter ifs scope (xs.map mk) (unmk mk p false) (unmk mk f .none) ∧ (((xs.map mk).filter (unmk mk p false)).map (unmk mk f .none)) = (xs.filter p).map f := by
  have e : ∀ {β : Type} {g : α → β} {z : β} (a : α), unmk mk g z (mk a) = g a := fun a => unmk_eq c.inj a
  refine ⟨⟨⟨d, vars', unmk mk tv [], c.it, c.src, c.blk, c.over, c.fold, c.lo, by rw [List.length_map]; exact c.len, fun hid' C v hv o => ?_, fun hid' C v hv => ?_, fun hid' C v hv hp => ?_, fun v hv => ?_⟩, c.hh, c.hk⟩, ?_⟩
  · obtain ⟨a, ha, rfl⟩ := List.mem_map.mp hv; rw [e]; exact c.tgt hid' C a ha o
  · obtain ⟨a, ha, rfl⟩ := List.mem_map.mp hv; rw [e, e]; exact c.test hid' C a ha
  · obtain ⟨a, ha, rfl⟩ := List.mem_map.mp hv; rw [e] at hp; rw [e, e]; exact c.elt hid' C a ha hp
  · obtain ⟨a, ha, rfl⟩ := List.mem_map.mp hv; rw [e]; exact c.sub a ha
  · rw [List.filter_map, List.map_map]
    have h1 : (unmk mk p false ∘ mk) = p := funext fun a => e a
    have h2 : (unmk mk f PV.none ∘ mk) = f := funext fun a => e a
    rw [h1, h2]
theorem evnew_compM {elt target iter : Expr} {ifs : List Expr} {scope : Scope} {pos : Pos} {α : Type} {mk : α → PV} {xs : List α} {p : α → Bool} {f : α → PV} {d vars' tv} (c : CompM W A hid env vars mu elt target iter ifs scope mk xs p f d vars' tv) :
    EvNew W A hid env vars mu (.ListComp elt [⟨target, iter, ifs, 0⟩] scope pos) ((xs.filter p).map f) := by
  have := evnew_comp (pos := pos) c.ok.1
  rw [c.ok.2] at this; exact this
theorem ex_compM {x : Str} {px spos : Pos} {elt target iter : Expr} {ifs : List Expr} {scope : Scope} {pos : Pos} {α : Type} {mk : α → PV} {xs : List α} {p : α → Bool} {f : α → PV} {d vars' tv} (c : CompM W A hid env vars mu elt target iter ifs scope mk xs p f d vars' tv)
    (hsw : swapsWith (.ListComp elt [⟨target, iter, ifs, 0⟩] scope pos) (some (.Name x px)) spos.line env = pure true) (hl : env.kindOf x = some .local) (hd : (x == ("__debug__" : Str)) = false) :
    Ex1 W A hid env vars mu (.Assign [.Name x px] (.ListComp elt [⟨target, iter, ifs, 0⟩] scope pos) spos) (· = .next ((x, .list ((xs.filter p).map f)) :: vars) mu) := by
  have := ex_comp c.ok.1 hsw hl hd
  rw [c.ok.2] at this; exact this

theorem src_rng {n : Nat} (h : n < 2 ^ 61) : Src mu (.rng 0 n) ((List.range n).map fun (i : Nat) => PV.int (i : Int)) := by
  have e : rngL 0 (n : Int) = (List.range n).map fun (i : Nat) => PV.int (i : Int) := by
    unfold rngL
    have : ((n : Int) - 0).toNat = n := by omega
    rw [this]
    simp
  rw [← e]
  exact .rng (by omega) (by omega) (by omega) (by omega)
theorem inj_nat : ∀ a b : Nat, PV.int (a : Int) = PV.int (b : Int) → a = b := fun a b h => by injection h with h; omega
theorem inj_int : ∀ a b : Int, PV.int a = PV.int b → a = b := fun a b h => by injection h

/-- the same over two clauses -/
theorem evnew_comp2M {elt target iter t1 i1 : Expr} {scope : Scope} {pos : Pos} {α β : Type} {mk : α → PV} {mk1 : β → PV} {xs : List α} {ys : α → List β} {f : α → β → PV} {d : PV} {d1 : α → PV} {vars' : Vars} {tv : α → Vars} {tv1 : α → β → Vars} {N : Nat}
    (inj : ∀ a b, mk a = mk b → a = b) (inj1 : ∀ a b, mk1 a = mk1 b → a = b) (hh : A.handled = none) (hk : env.scope.kind = .function) (it : Ev W A hid env vars mu iter d) (src : Src mu d (xs.map mk)) (blk : BlockOk scope env) (over : Over scope env vars' vars)
    (fold : ∀ x, foldedSetIterable iter env x = pure x) (lo : ∀ v it, letOwnedTupleGo target it v = pure ()) (hlen : xs.length * N ≤ 100000) (hnc : ∀ x, scope.names.lookup x ≠ some .cell) (lo1 : ∀ v it, letOwnedTupleGo t1 it v = pure ())
    (hlen1 : ∀ a, a ∈ xs → (ys a).length ≤ N) (fold1 : ∀ C x, foldedSetIterable i1 (cEnv scope C env) x = pure x) (src1 : ∀ a, a ∈ xs → Src mu (d1 a) ((ys a).map mk1))
    (tgt : ∀ hid' C a, a ∈ xs → Tgt W A hid' (cEnv scope C env) vars' mu target (mk a) (tv a)) (it1 : ∀ hid' C a, a ∈ xs → Ev W A hid' (cEnv scope C env) (tv a) mu i1 (d1 a))
    (tgt1 : ∀ hid' C a b, a ∈ xs → b ∈ ys a → Tgt W A hid' (cEnv scope C env) (tv a) mu t1 (mk1 b) (tv1 a b)) (helt : ∀ hid' C a b, a ∈ xs → b ∈ ys a → Ev W A hid' (cEnv scope C env) (tv1 a b) mu elt (f a b))
    (sub1 : ∀ a b, a ∈ xs → b ∈ ys a → Sub (tv a) (tv1 a b)) (sub : ∀ a, a ∈ xs → Sub vars' (tv a)) :
    EvNew W A hid env vars mu (.ListComp elt [⟨target, iter, [], 0⟩, ⟨t1, i1, [], 0⟩] scope pos) (xs.flatMap fun a => (ys a).map (f a)) := by
  have e : ∀ {γ : Type} {g : α → γ} {z : γ} (a : α), unmk mk g z (mk a) = g a := fun a => unmk_eq inj a
  have e1 : ∀ {γ : Type} {g : β → γ} {z : γ} (a : β), unmk mk1 g z (mk1 a) = g a := fun a => unmk_eq inj1 a
  have := evnew_comp2 (W := W) (A := A) (hid := hid) (env := env) (vars := vars) (mu := mu) (elt := elt) (target := target) (iter := iter) (ifs := []) (t1 := t1) (i1 := i1) (ifs1 := []) (scope := scope) (pos := pos) (its := xs.map mk) (p := fun _ => true)
    (its1 := unmk mk (fun a => (ys a).map mk1) []) (p1 := fun _ _ => true) (f := unmk mk (fun a => unmk mk1 (f a) .none) (fun _ => .none)) ⟨⟨d, vars', unmk mk tv [], unmk mk d1 .none, unmk mk (fun a => unmk mk1 (tv1 a) []) (fun _ => []), N, it, src, blk, over, fold, lo, by rw [List.length_map]; exact hlen, hnc, lo1, fun v hv => ?_, fold1, fun v hv => ?_, fun hid' C v hv => ?_, fun hid' C v hv => tests_nil, fun hid' C v hv _ => ?_, fun hid' C v w hv hw => ?_, fun hid' C v w hv hw => tests_nil, fun hid' C v w hv hw _ => ?_, fun v w hv hw => ?_, fun v hv => ?_⟩, hh, hk⟩
  · have key : (((xs.map mk).filter fun _ => true).flatMap fun a => ((unmk mk (fun a => (ys a).map mk1) [] a).filter fun _ => true).map (unmk mk (fun a => unmk mk1 (f a) PV.none) (fun _ => PV.none) a)) = xs.flatMap fun a => (ys a).map (f a) := by
      simp only [PySem.W.filter_tt, List.flatMap_map]
      congr 1
      funext a
      rw [e, e, List.map_map]
      congr 1
      funext b
      exact e1 b
    rw [key] at this; exact this
  · obtain ⟨a, ha, rfl⟩ := List.mem_map.mp hv; rw [e, List.length_map]; exact hlen1 a ha
  · obtain ⟨a, ha, rfl⟩ := List.mem_map.mp hv; rw [e, e]; exact src1 a ha
  · obtain ⟨a, ha, rfl⟩ := List.mem_map.mp hv; rw [e]; exact tgt hid' C a ha
  · obtain ⟨a, ha, rfl⟩ := List.mem_map.mp hv; rw [e, e]; exact it1 hid' C a ha
  · obtain ⟨a, ha, rfl⟩ := List.mem_map.mp hv; rw [e] at hw; obtain ⟨b, hb, rfl⟩ := List.mem_map.mp hw; rw [e, e, e1]; exact tgt1 hid' C a b ha hb
  · obtain ⟨a, ha, rfl⟩ := List.mem_map.mp hv; rw [e] at hw; obtain ⟨b, hb, rfl⟩ := List.mem_map.mp hw; rw [e, e1, e, e1]; exact helt hid' C a b ha hb
  · obtain ⟨a, ha, rfl⟩ := List.mem_map.mp hv; rw [e] at hw; obtain ⟨b, hb, rfl⟩ := List.mem_map.mp hw; rw [e, e, e1]; exact sub1 a b ha hb
  · obtain ⟨a, ha, rfl⟩ := List.mem_map.mp hv; rw [e]; exact sub a ha
end
end Mine
end

section
open PySem PySem.W PyProof.Rows PySem.Calls PySem.SeqAt
set_option linter.unusedVariables false
set_option maxRecDepth 100000
namespace Mine

/-- a tree of questions, answered -/
def runT {α : Type} : KasT α → (Nat → Nat → Bool) → α
  | .ret a, _ => a
  | .ask i j k, c => runT (k (c i j)) c
def asksOk {α : Type} (n : Nat) : KasT α → Bool
  | .ret _ => true
  | .ask i j k => decide (i < n) && decide (j < n) && asksOk n (k true) && asksOk n (k false)
theorem kasWp_run {α : Type} {cmp : Nat → Nat → (Bool → Shared → Prop) → Shared → Prop} {c : Nat → Nat → Bool} {n : Nat} {G : α → Shared → Prop} {s : Shared} (hc : ∀ i j (C : Bool → Shared → Prop), i < n → j < n → C (c i j) s → cmp i j C s) :
    ∀ t : KasT α, asksOk n t = true → G (runT t c) s → t.kasWp cmp G s
  | .ret a, _, g => g
  | .ask i j k, h, g => by
    have h' : (decide (i < n) && decide (j < n) && asksOk n (k true) && asksOk n (k false)) = true := h
    simp only [Bool.and_eq_true, decide_eq_true_eq] at h'
    obtain ⟨⟨⟨h1, h2⟩, h3⟩, h4⟩ := h'
    refine hc i j _ h1 h2 ?_
    show (k (c i j)).kasWp cmp G s
    have : asksOk n (k (c i j)) = true := by cases c i j; exact h4; exact h3
    exact kasWp_run hc (k (c i j)) this g

def lexlt (x y : Int × Int) : Bool := if x.1 == y.1 then (if x.2 == y.2 then false else decide (x.2 < y.2)) else decide (x.1 < y.1)
abbrev pairI (d : Int × Int) : PV := .tup [.int d.1, .int d.2]
def askP (ps : List (Int × Int)) (i j : Nat) : Bool := lexlt (ps.getD i (0, 0)) (ps.getD j (0, 0))
/-- where each item of the sorted list comes from -/
def permP (ps : List (Int × Int)) : List Nat := if ps.length < 2 then List.range ps.length else (runT (kas_sort ps.length) (askP ps)).toList
def sortP (ps : List (Int × Int)) : List (Int × Int) := (permP ps).map fun i => ps.getD i (0, 0)

section
variable {W : Wk} {A : Around} {hid : PMap} {env : Env} {vars : Vars} {mu : Mu} {K : Out → Prop}

theorem sort_general {s : Shared} {E : Value → Shared → Prop} {a : Addr} {vs : List Value} {n : Nat} {P : Fin → Shared → Prop} {out : List Value} (ho : s.heap.get? a = some (seqObj "list" vs.toArray n)) (h64 : vs.length < 64) (ho2 : out.length = vs.length)
    (h1 : vs.length < 2 → out = vs)
    (h2 : ¬ vs.length < 2 → ∀ h', (∀ b o, b ≠ a → s.heap.get? b = some o → h'.get? b = some o) → wpAny W.M A (keyKind' vs.toArray) (fun κ s' => s' = { s with heap := h' } ∧ (kas_sort vs.length).kasWp (kas_ask W.prog W.w A κ vs) (fun p s'' => s'' = { s with heap := h' } ∧ (p.toList.map fun i => vs.getD i Value.none) = out) s') (fun _ _ => False) { s with heap := h' })
    (h : P (.done (.ret .none)) { s with heap := sortedHeap s.heap a vs out.toArray }) : wpAny W.M A (Builtin.«list.sort» ⟨[.ref a], []⟩) P E s := by
  rw [list_sort_plain]
  have ha : a < s.heap.objs.size := Heap.lt_size ho
  refine wpAny_bind (listItems_at ho rfl ?_)
  refine wpAny_bind (listUpdate_at ho rfl ?_ (by rw [List.size_toArray, sizeLine_eq]; omega) (Nat.zero_le _))
  obtain ⟨e1, ho1⟩ : ∃ e1, (s.heap.update a (Obj.mapSeq fun _ => #[])).get? a = some (seqObj "list" #[] e1) := ⟨_, get?_update_seq ho (fun _ => #[])⟩
  refine wpAny_bind (seqEpoch_at ho1 rfl ?_)
  refine wpAny_bind (wpAny_newTuple ?_ (by show vs.length ≤ _; rw [sizeLine_eq]; omega))
  refine wpAny_bind (wpAny_newList ?_ (Nat.zero_le _))
  refine wpAny_holding ?_
  have keep : ∀ b o, b ≠ a → s.heap.get? b = some o → (((s.heap.update a (Obj.mapSeq fun _ => #[])).push (seqObj "tuple" vs.toArray 0)).push (seqObj "list" #[] 0)).get? b = some o := fun b o hb q => by
    refine Heap.get?_push_of_some _ (Heap.get?_push_of_some _ ?_)
    rw [Heap.get?_update_ne _ _ _ _ hb]; exact q
  have ho6 : (((s.heap.update a (Obj.mapSeq fun _ => #[])).push (seqObj "tuple" vs.toArray 0)).push (seqObj "list" #[] 0)).get? a = some (seqObj "list" #[] e1) := Heap.get?_push_of_some _ (Heap.get?_push_of_some _ ho1)
  show wpAny W.M A _ P E { s with heap := ((s.heap.update a (Obj.mapSeq fun _ => #[])).push (seqObj "tuple" vs.toArray 0)).push (seqObj "list" #[] 0) }
  have hfin : sortedHeap s.heap a vs out.toArray = (((s.heap.update a (Obj.mapSeq fun _ => #[])).push (seqObj "tuple" vs.toArray 0)).push (seqObj "list" #[] 0)).update a (Obj.mapSeq fun _ => out.toArray) := rfl
  rw [hfin] at h
  generalize ((s.heap.update a (Obj.mapSeq fun _ => #[])).push (seqObj "tuple" vs.toArray 0)).push (seqObj "list" #[] 0) = h6 at *
  dsimp only
  have fin : ∀ st' : SortSt, (arrOf st').map (·.2) = out.toArray → failedOf st' = none → wpAny W.M A (do
      let touched := (← seqEpoch a) != e1
      Builtin.List.listUpdate (.ref a) fun _ => (arrOf st').map (·.2)
      if let some e := failedOf st' then rule "list.sort.comparison-raised"; throw e
      if touched then rule "list.sort.modified"; raiseError "ValueError" "list modified during sort"
      ret .none) P E { s with heap := h6 } := by
    intro st' q1 q2
    rw [q1, q2]
    refine wpAny_bind (seqEpoch_at ho6 rfl ?_)
    refine wpAny_bind (listUpdate_at ho6 rfl ?_ (Nat.zero_le _) (by rw [List.size_toArray, ho2, sizeLine_eq]; omega))
    simp only [bne_self_eq_false, Bool.false_eq_true, if_false]
    exact wpAny_pure h
  by_cases q : vs.length < 2
  · have q' : vs.toArray.size < 2 := by rw [List.size_toArray]; exact q
    rw [if_pos q', if_pos q']
    refine wpAny_bind (wpAny_pure ?_)
    rw [StateT.run_pure]
    refine wpAny_bind (wpAny_pure ?_)
    refine fin (SortSt.mk' general' (vs.toArray.zip vs.toArray) #[] 7 none) ?_ rfl
    rw [h1 q]
    show (vs.toArray.zip vs.toArray).map (·.2) = vs.toArray
    apply Array.ext
    · simp
    · intro i h1 h2; simp
  · have q' : ¬ vs.toArray.size < 2 := by rw [List.size_toArray]; exact q
    rw [if_neg q', if_neg q']
    refine wpAny_bind (wpAny_mono (h2 q h6 keep) (fun κ s' hk => ?_) fun _ _ x => x.elim)
    obtain ⟨rfl, hk⟩ := hk
    refine wpAny_bind (wpAny_mono (kat_run (Q := fun st' s' => s' = { s with heap := h6 } ∧ (arrOf st').map (·.2) = out.toArray ∧ failedOf st' = none) rfl (by omega) h64 (fun p st' s' a1 a2 a3 a4 => ⟨a4.1, by rw [kat_snds rfl a2, a4.2], a3⟩) hk) ?_ fun _ _ e => e)
    rintro ⟨⟨⟩, st'⟩ s' ⟨rfl, b1, b2⟩
    exact fin st' b1 b2

theorem lt_pair {s : Shared} {E : Value → Shared → Prop} {x y : Addr} {ox oy : Obj} {a b a' b' : Int} {t1 t2 t3 t4 : Tok} {n k : Nat} {Q : Bool → Shared → Prop} (hx : s.heap.get? x = some ox) (dx : ox.data = .seq #[.int a t1, .int b t2] n) (hy : s.heap.get? y = some oy) (dy : oy.data = .seq #[.int a' t3, .int b' t4] k)
    (h : Q (lexlt (a, b) (a', b')) s) : wpAny W.M A (keyLt' (tuples' true) (.ref x) (.ref y)) Q E s := by
  refine kat_lt hx dx hy dy ?_
  unfold lexlt at h
  dsimp only at h
  refine kat_cons (wpAny_eqBool_int ?_)
  cases e : (a == a') with
  | true =>
    rw [e, if_pos rfl] at h
    refine kat_yes (kat_cons (wpAny_eqBool_int ?_))
    cases e2 : (b == b') with
    | true => rw [e2, if_pos rfl] at h; exact kat_yes (kat_nil h)
    | false => rw [e2, if_neg (by simp)] at h; exact kat_no (kat_one _ _ (P.lt_int h))
  | false => rw [e, if_neg (by simp)] at h; exact kat_no (oneLt_int h)

theorem tup2 {g : PMap} {d : Int × Int} {v : Value} (i : Is g (pairI d) v) : ∃ a n t u, v = .ref a ∧ g a = some (tobj #[.int d.1 t, .int d.2 u] n) := by
  cases i with
  | tup e r =>
    rename_i a vs n
    obtain ⟨vs⟩ := vs
    cases r with
    | cons i1 r => cases r with
      | cons i2 r => cases r; cases i1; cases i2; exact ⟨a, n, _, _, rfl, e⟩

theorem op_sortedP {d} {ps : List (Int × Int)} (hl : AsList mu d (ps.map pairI)) (h64 : ps.length < 64) (hok : ps.length < 2 ∨ asksOk ps.length (kas_sort ps.length) = true) (hpl : (permP ps).length = ps.length) (hpm : ∀ i ∈ permP ps, i < ps.length) :
    Op W A hid env vars mu [d] (fun us => call (.builtin "sorted") us) (.list ((sortP ps).map pairI)) := fun g h t us Q E R i k => by
  cases i with
  | cons i r =>
    cases r
    obtain ⟨a, vs, rfl, q1, q2⟩ := hl.get R i
    obtain ⟨vs⟩ := vs
    have q2 : Iss g (ps.map pairI) vs := q2
    have hlen : vs.length = ps.length := by have := q2.length; simpa using this
    have hitem : ∀ i, i < ps.length → ∃ b n t u, vs.getD i Value.none = .ref b ∧ g b = some (tobj #[.int (ps.getD i (0, 0)).1 t, .int (ps.getD i (0, 0)).2 u] n) ∧ Is g (pairI (ps.getD i (0, 0))) (vs.getD i Value.none) := by
      intro i hi
      obtain ⟨v, e1, iv⟩ := q2.get i (pairI (ps.getD i (0, 0))) (by rw [List.getElem?_map, List.getD, List.getElem?_eq_getElem hi]; rfl)
      have e2 : vs.getD i Value.none = v := by rw [List.getD, e1]; rfl
      obtain ⟨b, n, t, u, e3, e4⟩ := tup2 iv
      exact ⟨b, n, t, u, by rw [e2, e3], e4, by rw [e2]; exact iv⟩
    refine Calls.call_function_entry kind_sorted plain_sorted entry_sorted (args_sorted1 _) ?_
    unfold Builtin.«sorted»
    refine wpAny_bind (m := checkCount "sorted" 1 1 _) (wpAny_pure ?_)
    refine wpAny_bind (collect_list (vs := vs) (by simpa using q1) ?_ (by rw [sizeLine_eq]; omega))
    refine wpAny_bind (wpAny_newList ?_ (by rw [sizeLine_eq]; omega))
    have hsz : ((h.push (seqObj "list" #[] 0)).update h.objs.size (Obj.mapSeq (· ++ vs.toArray))).objs.size = h.objs.size + 1 := by rw [Heap.size_update, size_push']
    have hoL : (((h.push (seqObj "list" #[] 0)).update h.objs.size (Obj.mapSeq (· ++ vs.toArray))).push (seqObj "list" vs.toArray 0)).get? (h.objs.size + 1) = some (seqObj "list" vs.toArray 0) := by
      rw [← hsz]; exact Heap.get?_push_size _ rfl
    have keep : Kept h (((h.push (seqObj "list" #[] 0)).update h.objs.size (Obj.mapSeq (· ++ vs.toArray))).push (seqObj "list" vs.toArray 0)) := fun b o q => by
      refine Heap.get?_push_of_some _ ?_
      rw [Heap.get?_update_ne _ _ _ _ (Nat.ne_of_lt (Heap.lt_size q))]
      exact Heap.get?_push_of_some _ q
    show wpAny _ _ _ _ _ { W.S h t with heap := ((h.push (seqObj "list" #[] 0)).update h.objs.size (Obj.mapSeq (· ++ vs.toArray))).push (seqObj "list" vs.toArray 0) }
    rw [show (W.S h t).heap = h from rfl, hsz]
    have hout : ((permP ps).map fun i => vs.getD i Value.none).length = vs.length := by rw [List.length_map, hpl, hlen]
    refine wpAny_bind (wpAny_holding (wpAny_call_entry slot_list_sort ⟨_, hoL, rfl⟩ entry_list_sort (sort_general (W := W) (out := (permP ps).map fun i => vs.getD i Value.none) hoL (by omega) hout (fun hlt => ?_) (fun hge h' hk' => ?_) ?_) (args_list_sort _)))
    · have : permP ps = List.range ps.length := if_pos (by omega)
      rw [this, ← hlen]
      apply List.ext_getElem
      · simp
      · intro j h1 h2; simp [List.getElem?_eq_getElem h2]
    · have hgk : ∀ b o, g b = some o → h'.get? b = some o := fun b o e => by
        have e1 := R.gs b o e
        exact hk' b o (Nat.ne_of_lt (Nat.lt_succ_of_lt (Heap.lt_size e1))) (keep b o e1)
      have hkt : ∀ (ps : List (Int × Int)) (vs : List Value), Iss g (ps.map pairI) vs → ∃ fs, KatTups h' vs fs ∧ fs.length = vs.length ∧ ∀ v ∈ fs, ∃ x t, v = Value.int x t := by
        intro ps
        induction ps with
        | nil => intro vs i; cases i; exact ⟨[], .nil, rfl, fun v h => by cases h⟩
        | cons p r ih =>
          intro vs i
          cases i with
          | cons i1 i2 =>
            obtain ⟨fs, f1, f2, f3⟩ := ih _ i2
            obtain ⟨b, n, t, u, rfl, e⟩ := tup2 i1
            exact ⟨.int p.1 t :: fs, .cons (hgk _ _ e) rfl rfl rfl f1, by rw [List.length_cons, List.length_cons, f2], fun v hv => by
              rcases List.mem_cons.mp hv with rfl | hv
              · exact ⟨_, _, rfl⟩
              · exact f3 v hv⟩
      obtain ⟨fs, f1, f2, f3⟩ := hkt ps vs q2
      refine kat_kind (T := .type "int") f1 (by omega) (fun v hv => ?_) rfl ⟨rfl, ?_⟩
      · obtain ⟨x, t, rfl⟩ := f3 v hv
        exact Looks.now
      · have hperm : permP ps = (runT (kas_sort ps.length) (askP ps)).toList := if_neg (by omega)
        rw [hlen]
        refine kasWp_run (c := askP ps) (n := ps.length) (fun i j C hi hj hC => ?_) _ (hok.resolve_left (by omega)) ⟨rfl, by rw [hperm]⟩
        obtain ⟨b, n, t1, t2, e1, e2, _⟩ := hitem i hi
        obtain ⟨b', n', t3, t4, e3, e4, _⟩ := hitem j hj
        unfold kas_ask
        rw [e1, e3]
        exact lt_pair (s := { W.S h t with heap := h' }) (hgk _ _ e2) rfl (hgk _ _ e4) rfl hC
    · refine ⟨_, rfl, wpAny_pure ⟨_, rfl, ?_⟩⟩
      obtain ⟨e, he⟩ := sortedAll_at h vs ((permP ps).map fun i => vs.getD i Value.none).toArray
      obtain ⟨R', l⟩ := R.freeze (h' := sortedAll h vs ((permP ps).map fun i => vs.getD i Value.none).toArray) (fun _ _ => sortedAll_old) (a := h.objs.size + 1) (by
        cases q : h.get? (h.objs.size + 1) with
        | none => rfl
        | some o => exact absurd (Heap.lt_size q) (Nat.not_lt.mpr (Nat.le_succ _))) he
      refine k _ _ _ _ l R' (.list (ins_same _ _ _) ?_)
      have : Iss g ((sortP ps).map pairI) ((permP ps).map fun i => vs.getD i Value.none) := by
        unfold sortP
        rw [List.map_map]
        clear hout hpl
        revert hpm
        generalize permP ps = pp
        intro hpm
        induction pp with
        | nil => exact .nil
        | cons i r ih =>
          refine .cons ?_ (ih fun j hj => hpm j (List.mem_cons_of_mem _ hj))
          obtain ⟨_, _, _, _, _, _, x⟩ := hitem i (hpm i List.mem_cons_self)
          exact x
      exact (by simpa using this.mono l)
end
end Mine
end

section
open PySem PySem.W PyProof.Rows PySem.Calls PySem.SeqAt
set_option linter.unusedVariables false
set_option maxRecDepth 100000
namespace Mine

def fnOf? : List Stmt → Str → Option (Arguments × List Stmt × Scope)
  | [], _ => none
  | .FunctionDef name args body _ _ _ scope _ _ _ :: r, n => if name == n then some (args, body, scope) else fnOf? r n
  | _ :: r, n => fnOf? r n
def argsOf (p : Program) (n : Str) : Arguments := ((fnOf? p.main.body n).map (·.1)).getD { posonlyargs := [], args := [], vararg := none, kwonlyargs := [], kw_defaults := [], kwarg := none, defaults := [] }
def bodyOf (p : Program) (n : Str) : List Stmt := ((fnOf? p.main.body n).map (·.2.1)).getD []
def scopeOf (p : Program) (n : Str) : Scope := ((fnOf? p.main.body n).map (·.2.2)).getD { kind := .function, names := [], isGenerator := false, isCoroutine := false, more := [] }

/-- a def of the text p stands at a -/
def DefAt (W : Wk) (p : Program) (n : Str) (a : Addr) (dV : Value) : Prop :=
  W.mg n = some (.ref a) ∧ ∃ kV doc pm an cdv ct, FnAt W a (fnOf n n (argsOf p n) (bodyOf p n) (scopeOf p n) dV kV doc pm an cdv ct) (bodyOf p n)

abbrev p1 : Program := PySem.Challenge.pw_af0002_01

inductive Rule where
  | jeff | web | modi | hill | adams | dean
  deriving DecidableEq

def ruleNames : Rule → List Str
  | .jeff => ["dhondt", "jefferson", "greatestdivisors"]
  | .web => ["saintelague", "webster", "majorfractions"]
  | .modi => ["modified_saintelague"]
  | .hill => ["huntington", "hill", "equalproportions"]
  | .adams => ["adams", "smallestdivisor"]
  | .dean => ["dean", "harmonicmean"]
def RuleName (r : Rule) (x : Str) : Prop := ∀ q : Rule, (ruleNames q).any (· == x) = decide (q = r)

def divs : Rule → Nat → List (Int × Int)
  | .jeff, S => (List.range S).map fun (i : Nat) => ((i : Int) + 1, 1)
  | .web, S => (List.range S).map fun (i : Nat) => (2 * (i : Int) + 1, 1)
  | .modi, S => (7, 5) :: (List.range (S - 1)).map fun (i : Nat) => (2 * (1 + (i : Int)) + 1, 1)
  | .hill, S => (List.range S).map fun (i : Nat) => (((i : Int) + 1) * ((i : Int) + 2), 1)
  | .adams, S => (List.range S).map fun (i : Nat) => ((i : Int) + 1, 1)
  | .dean, S => (List.range S).map fun (i : Nat) => (2 * ((i : Int) + 1) * ((i : Int) + 2), 2 * ((i : Int) + 1) + 1)
def base : Rule → List Int → List Int
  | .jeff, v => v.map fun _ => 0
  | .web, v => v.map fun _ => 0
  | .modi, v => v.map fun _ => 0
  | _, v => v.map fun p => if p > 0 then 1 else 0
def common (ds : List (Int × Int)) : Int := ds.foldl (fun c d => c * d.1) 1
def isHill : Rule → Bool
  | .hill => true
  | _ => false
def wt (r : Rule) (c : Int) (p : Int) (d : Int × Int) : Int := if isHill r then (p * p * d.2 * c).fdiv d.1 else (p * d.2 * c).fdiv d.1
def pairV (d : Int × Int) : PV := .tup [.int d.1, .int d.2]

section
variable {W : Wk} {A : Around} {hid : PMap} {env : Env} {vars : Vars} {mu : Mu} {K : Out → Prop}


theorem ev_in {l r : Expr} {pos : Pos} {x : Str} {ns : List Str} {d} (hl : Ev W A hid env vars mu l (.str x)) (hr : Ev W A hid env vars mu r d) (hd : AsList mu d (ns.map .str)) (hm : behindInMarks .In r = false) : Tr W A hid env vars mu (.Compare l [.In] [r] pos) (ns.any (· == x)) :=
  tr_cmp hl hr hm (c_ins hd)

local macro_rules | `(tactic| walk_at "ev") => `(tactic| first
  | exact ev_int | exact ev_bool | exact ev_none | exact ev_str
  | exact ev_name rfl rfl
  | (refine ev_add ?_ ?_ <;> walk_at "ev")
  | (refine ev_sub ?_ ?_ <;> walk_at "ev")
  | (refine ev_neg ?_ <;> walk_at "ev"))
local macro_rules | `(tactic| walk_at "args") => `(tactic| first
  | exact evargs_nil
  | (refine evargs_cons ?_ ?_ rfl; (walk_at "ev"); (walk_at "args")))
abbrev dEnv (p : Program) (a L : Addr) (dV kV doc pm : Value) (an : Option Addr) (cdv ct : Value) : Env := fEnv (fnOf "divisor" "divisor" (argsOf p "divisor") (bodyOf p "divisor") (scopeOf p "divisor") dV kV doc pm an cdv ct) a L
abbrev dV2 (votes : List Int) (S : Nat) (nm : Str) (ta : Bool) (D : Addr) (ds : List (Int × Int)) : Vars := [("representatives", .loc D), ("divisors", .list (ds.map pairV)), ("votes", .list (votes.map .int)), ("seats", .int S), ("method", .str nm), ("tiesallowed", .bool ta)]


theorem filter_tt' {α : Type} (l : List α) : l.filter (fun _ => true) = l := by simp
/-- a comprehension without tests -/
structure CompA (W : Wk) (A : Around) (hid : PMap) (env : Env) (vars : Vars) (mu : Mu) (elt target iter : Expr) (scope : Scope) {α : Type} (mk : α → PV) (xs : List α) (f : α → PV) (d : PV) (vars' : Vars) (tv : α → Vars) : Prop where
  inj : ∀ a b, mk a = mk b → a = b
  hh : A.handled = none
  hk : env.scope.kind = .function
  it : Ev W A hid env vars mu iter d
  src : Src mu d (xs.map mk)
  blk : BlockOk scope env
  over : Over scope env vars' vars
  fold : ∀ x, foldedSetIterable iter env x = pure x
  lo : LoOk mu target d (xs.map mk)
  len : xs.length ≤ 100000
  tgt : ∀ hid' C a, a ∈ xs → OwnFree hid' scope C env → Tgt W A hid' (cEnv scope C env) vars' mu target (mk a) (tv a)
  elt : ∀ hid' C a, a ∈ xs → Ev W A hid' (cEnv scope C env) (tv a) mu elt (f a)
  sub : ∀ a, a ∈ xs → Sub vars' (tv a)
theorem CompA.m {elt target iter : Expr} {scope : Scope} {α : Type} {mk : α → PV} {xs : List α} {f : α → PV} {d vars' tv} (c : CompA W A hid env vars mu elt target iter scope mk xs f d vars' tv) :
    CompM W A hid env vars mu elt target iter [] scope mk xs (fun _ => true) f d vars' tv :=
  ⟨c.inj, c.hh, c.hk, c.it, c.src, c.blk, c.over, c.fold, c.lo, c.len, c.tgt, fun _ _ _ _ => tests_nil, fun hid' C a h _ => c.elt hid' C a h, c.sub⟩
theorem evnew_compA {elt target iter : Expr} {scope : Scope} {pos : Pos} {α : Type} {mk : α → PV} {xs : List α} {f : α → PV} {d vars' tv} (c : CompA W A hid env vars mu elt target iter scope mk xs f d vars' tv) :
    EvNew W A hid env vars mu (.ListComp elt [⟨target, iter, [], 0⟩] scope pos) (xs.map f) := by
  have := evnew_compM (pos := pos) c.m
  rw [filter_tt'] at this; exact this
theorem ex_compA {x : Str} {px spos : Pos} {elt target iter : Expr} {scope : Scope} {pos : Pos} {α : Type} {mk : α → PV} {xs : List α} {f : α → PV} {d vars' tv} (c : CompA W A hid env vars mu elt target iter scope mk xs f d vars' tv)
    (hsw : swapsWith (.ListComp elt [⟨target, iter, [], 0⟩] scope pos) (some (.Name x px)) spos.line env = pure true) (hl : env.kindOf x = some .local) (hd : (x == ("__debug__" : Str)) = false) :
    Ex1 W A hid env vars mu (.Assign [.Name x px] (.ListComp elt [⟨target, iter, [], 0⟩] scope pos) spos) (· = .next ((x, .list (xs.map f)) :: vars) mu) := by
  have := ex_compM c.m hsw hl hd
  rw [filter_tt'] at this; exact this
theorem exs_own {st : Stmt} {rest : List Stmt} {x : Str} {ds : List PV} (h : Ex1 W A hid env vars mu st (fun o => ∃ D, o = .next ((x, .loc D) :: vars) ((D, ds) :: mu))) (k : ∀ D, Exs W A hid env ((x, .loc D) :: vars) ((D, ds) :: mu) rest K) : Exs W A hid env vars mu (st :: rest) K :=
  exs_cons h (fun v m e => by obtain ⟨D, e⟩ := e; cases e; exact k D) fun o e hn => by obtain ⟨D, e⟩ := e; subst e; exact absurd rfl (hn _ _)

theorem mulOk20 {a b : Int} (ha : a.natAbs < 2 ^ 20) (hb : b.natAbs < 2 ^ 20) : IntMulOk a b := mulOk ha hb (by decide)

theorem ev_tup2 {e1 e2 : Expr} {n pos} {d1 d2} (h1 : Ev W A hid env vars mu e1 d1) (h2 : Ev W A hid env vars mu e2 d2) (hs : starEach [e1, e2] env = [(false, eval e1 env), (false, eval e2 env)]) (hs2 : starEach [e2] env = [(false, eval e2 env)]) : Ev W A hid env vars mu (.Tuple [e1, e2] n pos) (.tup [d1, d2]) :=
  ev_tuple (evargs_cons h1 (args1 h2 hs2) (by rw [hs, hs2])) (Nat.le_of_ble_eq_true rfl)
theorem src_rng1 {n : Nat} (h : n < 2 ^ 61) : Src mu (.rng 1 n) ((List.range (n - 1)).map fun (i : Nat) => PV.int (1 + (i : Int))) := by
  have e : rngL 1 (n : Int) = (List.range (n - 1)).map fun (i : Nat) => PV.int (1 + (i : Int)) := by
    unfold rngL
    have : ((n : Int) - 1).toNat = n - 1 := by omega
    rw [this]
  rw [← e]
  exact .rng (by omega) (by omega) (by omega) (by omega)
theorem natlt20 {i S : Nat} (h : i ∈ List.range S) (hS : S ≤ 60) : i < 60 := Nat.lt_of_lt_of_le (List.mem_range.mp h) hS


set_option maxHeartbeats 2000000 in
theorem div_part1 {a L : Addr} {dV kV doc pm an cdv ct} {votes : List Int} {S : Nat} {nm : Str} {ta : Bool} {r : Rule} {D : Addr} (N : Names W) (ao : AOk W A 0) (hS : S ≤ 60) (hn : 1 ≤ votes.length) (hv : votes.length ≤ 100) (hp : ∀ q : Rule, q = .hill ∨ q = .adams ∨ q = .dean → r = q → votes.length ≤ S) (hr : RuleName r nm)
    (hs : ∀ x, (scopeOf p1 "divisor").names.lookup x = some .local ∨ (scopeOf p1 "divisor").names.lookup x = some .cell → Sto hid (dEnv p1 a L dV kV doc pm an cdv ct) x) :
    Ex1 W A hid (dEnv p1 a L dV kV doc pm an cdv ct) [("representatives", .loc D), ("votes", .list (votes.map .int)), ("seats", .int S), ("method", .str nm), ("tiesallowed", .bool ta)] [(D, (votes.map fun _ => (0 : Int)).map .int)] ((bodyOf p1 "divisor").getD 1 (.Pass default))
      (fun o => ∃ D' v m, o = .next v m ∧ Sub (dV2 votes S nm ta D' (divs r S)) v ∧ [(D', (base r votes).map .int)].Sublist m) := by
  have E : EnvOk (dEnv p1 a L dV kV doc pm an cdv ct) := ⟨rfl, rfl, rfl⟩
  have tgti : ∀ {mu : Mu} {scope : Scope} {vars' : Vars} {x : Str} {p : Pos} {d : PV} (hid' : PMap) (C : Addr), scope.names.lookup x = some .local → (x == ("__debug__" : Str)) = false → scope.kind = .function → Tgt W A hid' (cEnv scope C (dEnv p1 a L dV kV doc pm an cdv ct)) vars' mu (.Name x p) d ((x, d) :: vars') :=
    fun hid' C h1 h2 h3 => tgt_name (store_own hid' h1) h3 h2
  refine ex_if (x := decide (Rule.jeff = r)) ?_ (fun e => ?_) (fun e => ?_)
  · rw [← hr .jeff]
    exact ev_in (ns := ruleNames .jeff) (ev_name rfl rfl) (ev_list (by walk_at "args") (by decide)) AsList.list rfl
  · have e : Rule.jeff = r := of_decide_eq_true e
    subst e
    refine exs_next (ex_assign (EvNew.ev (evnew_compA (α := Nat) (mk := fun i => .int (i : Int)) (xs := List.range S) (f := fun i => pairV ((i : Int) + 1, 1)) ⟨inj_nat, ao.handled, rfl, ev_range1 N E (ev_name rfl rfl) rfl rfl, src_rng (by omega), ⟨rfl, rfl, by decide⟩, .nil, fun _ => rfl, .any fun _ _ => rfl, by rw [List.length_range]; omega, fun hid' C a _ o => tgti hid' C rfl rfl rfl, fun hid' C a h => ev_tup2 (by walk_at "ev") (by walk_at "ev") rfl rfl, fun a _ => .nil⟩)) (hs _ (.inr rfl)) rfl rfl rfl) (exs_nil ⟨D, _, _, rfl, ?_, ?_⟩)
    · simp only [dV2, divs, List.map_map]; exact .cons rfl (.cons rfl (.cons rfl (.cons rfl (.cons rfl (.cons rfl .nil)))))
    · exact List.Sublist.refl _
  refine exs_cons (K' := fun o => ∃ D' v m, o = .next v m ∧ Sub (dV2 votes S nm ta D' (divs r S)) v ∧ [(D', (base r votes).map .int)].Sublist m) (ex_if (x := decide (Rule.web = r)) ?_ (fun e => ?_) (fun e => ?_)) (fun v m e => exs_nil e) (fun o e _ => e)
  · rw [← hr .web]
    exact ev_in (ns := ruleNames .web) (ev_name rfl rfl) (ev_list (by walk_at "args") (by decide)) AsList.list rfl
  · have e : Rule.web = r := of_decide_eq_true e
    subst e
    refine exs_next (ex_assign (EvNew.ev (evnew_compA (α := Nat) (mk := fun i => .int (i : Int)) (xs := List.range S) (f := fun i => pairV (2 * (i : Int) + 1, 1)) ⟨inj_nat, ao.handled, rfl, ev_range1 N E (ev_name rfl rfl) rfl rfl, src_rng (by omega), ⟨rfl, rfl, by decide⟩, .nil, fun _ => rfl, .any fun _ _ => rfl, by rw [List.length_range]; omega, fun hid' C a _ o => tgti hid' C rfl rfl rfl, fun hid' C a h => ev_tup2 (ev_add (ev_mul ev_int (ev_name rfl rfl) (mulOk20 (by decide) (by have := natlt20 h hS; omega))) ev_int) ev_int rfl rfl, fun a _ => .nil⟩)) (hs _ (.inr rfl)) rfl rfl rfl) (exs_nil ⟨D, _, _, rfl, ?_, ?_⟩)
    · simp only [dV2, divs, List.map_map]; exact .cons rfl (.cons rfl (.cons rfl (.cons rfl (.cons rfl (.cons rfl .nil)))))
    · exact List.Sublist.refl _
  refine exs_cons (K' := fun o => ∃ D' v m, o = .next v m ∧ Sub (dV2 votes S nm ta D' (divs r S)) v ∧ [(D', (base r votes).map .int)].Sublist m) (ex_if (x := decide (Rule.modi = r)) ?_ (fun e => ?_) (fun e => ?_)) (fun v m e => exs_nil e) (fun o e _ => e)
  · rw [← hr .modi]
    exact ev_in (ns := ruleNames .modi) (ev_name rfl rfl) (ev_list (by walk_at "args") (by decide)) AsList.list rfl
  · have e : Rule.modi = r := of_decide_eq_true e
    subst e
    refine exs_next (ex_assign (EvNew.ev (evnew_add (la := [pairV (7, 5)]) (ev_list (evargs_cons (ev_tup2 ev_int ev_int rfl rfl) evargs_nil rfl) (Nat.le_of_ble_eq_true rfl)) (EvNew.ev (evnew_compA (α := Nat) (mk := fun i => .int (1 + (i : Int))) (xs := List.range (S - 1)) (f := fun i => pairV (2 * (1 + (i : Int)) + 1, 1)) ⟨fun a b h => by injection h with h; omega, ao.handled, rfl, ev_range2 N E ev_int (ev_name rfl rfl) rfl rfl rfl, src_rng1 (by omega), ⟨rfl, rfl, by decide⟩, .nil, fun _ => rfl, .any fun _ _ => rfl, by rw [List.length_range]; omega, fun hid' C a _ o => tgti hid' C rfl rfl rfl, fun hid' C a h => ev_tup2 (ev_add (ev_mul ev_int (ev_name rfl rfl) (mulOk20 (by decide) (by have := natlt20 h (by omega); omega))) ev_int) ev_int rfl rfl, fun a _ => .nil⟩)) AsList.list AsList.list (by simp; omega))) (hs _ (.inr rfl)) rfl rfl rfl) (exs_nil ⟨D, _, _, rfl, ?_, ?_⟩)
    · simp only [dV2, divs, List.map_cons, List.map_map]; exact .cons rfl (.cons rfl (.cons rfl (.cons rfl (.cons rfl (.cons rfl .nil)))))
    · exact List.Sublist.refl _
  refine exs_cons (K' := fun o => ∃ D' v m, o = .next v m ∧ Sub (dV2 votes S nm ta D' (divs r S)) v ∧ [(D', (base r votes).map .int)].Sublist m) (ex_if (x := decide (Rule.hill = r)) ?_ (fun e => ?_) (fun e => ?_)) (fun v m e => exs_nil e) (fun o e _ => e)
  · rw [← hr .hill]
    exact ev_in (ns := ruleNames .hill) (ev_name rfl rfl) (ev_list (by walk_at "args") (by decide)) AsList.list rfl
  · have e : Rule.hill = r := of_decide_eq_true e
    have hle : votes.length ≤ S := hp .hill (by simp) e.symm
    subst e
    refine exs_cons (K' := fun o => ∃ D' v m, o = .next v m ∧ Sub (dV2 votes S nm ta D' (divs .hill S)) v ∧ [(D', (base .hill votes).map .int)].Sublist m) (ex_if (x := false) ?_ (fun e => nomatch e) (fun _ => ?_)) (fun v m e => exs_nil e) (fun o e _ => e)
    · rw [show false = decide ((S : Int) < ((votes.map PV.int).length : Nat)) by rw [List.length_map]; simp; omega]
      exact tr_cmp (ev_name rfl rfl) (ev_len N E (ev_name rfl rfl) AsList.list (by rw [List.length_map]; omega) rfl rfl) rfl c_lt
    · refine exs_own (ds := votes.map fun p => .int (if p > 0 then 1 else 0)) (ex_own (evnew_compA (α := Int) (mk := .int) (xs := votes) (f := fun p => .int (if p > 0 then 1 else 0)) ⟨inj_int, ao.handled, rfl, ev_name rfl rfl, .list AsList.list, ⟨rfl, rfl, by decide⟩, .nil, fun _ => rfl, .any fun _ _ => rfl, by omega, fun hid' C a _ o => tgti hid' C rfl rfl rfl, fun hid' C b h => ?_, fun a _ => .nil⟩) (hs _ (.inr rfl)) rfl rfl rfl) (fun D' => ?_)
      · refine ev_if (x := decide (b > 0)) (tr_cmp (ev_name rfl rfl) ev_int rfl c_gt) (fun e => ?_) (fun e => ?_)
        · rw [if_pos (of_decide_eq_true e)]; exact ev_int
        · rw [if_neg (of_decide_eq_false e)]; exact ev_int
      refine exs_next (ex_assign (EvNew.ev (evnew_compA (α := Nat) (mk := fun i => .int (i : Int)) (xs := List.range S) (f := fun i => pairV (((i : Int) + 1) * ((i : Int) + 2), 1)) ⟨inj_nat, ao.handled, rfl, ev_range1 N E (ev_name rfl rfl) rfl rfl, src_rng (by omega), ⟨rfl, rfl, by decide⟩, .nil, fun _ => rfl, .any fun _ _ => rfl, by rw [List.length_range]; omega, fun hid' C a _ o => tgti hid' C rfl rfl rfl, fun hid' C a h => ev_tup2 (ev_mul (ev_add (ev_name rfl rfl) ev_int) (ev_add (ev_name rfl rfl) ev_int) (mulOk20 (by have := natlt20 h hS; omega) (by have := natlt20 h hS; omega))) ev_int rfl rfl, fun a _ => .nil⟩)) (hs _ (.inr rfl)) rfl rfl rfl) (exs_nil ⟨D', _, _, rfl, ?_, ?_⟩)
      · simp only [dV2, divs, List.map_map]
        refine .cons rfl (.cons rfl (.cons rfl (.cons rfl (.cons rfl (.cons rfl .nil)))))
      · simp only [base, List.map_map]
        exact List.Sublist.cons_cons _ (List.nil_sublist _)
  refine exs_cons (K' := fun o => ∃ D' v m, o = .next v m ∧ Sub (dV2 votes S nm ta D' (divs r S)) v ∧ [(D', (base r votes).map .int)].Sublist m) (ex_if (x := decide (Rule.adams = r)) ?_ (fun e => ?_) (fun e => ?_)) (fun v m e => exs_nil e) (fun o e _ => e)
  · rw [← hr .adams]
    exact ev_in (ns := ruleNames .adams) (ev_name rfl rfl) (ev_list (by walk_at "args") (by decide)) AsList.list rfl
  · have e : Rule.adams = r := of_decide_eq_true e
    have hle : votes.length ≤ S := hp .adams (by simp) e.symm
    subst e
    refine exs_cons (K' := fun o => ∃ D' v m, o = .next v m ∧ Sub (dV2 votes S nm ta D' (divs .adams S)) v ∧ [(D', (base .adams votes).map .int)].Sublist m) (ex_if (x := false) ?_ (fun e => nomatch e) (fun _ => ?_)) (fun v m e => exs_nil e) (fun o e _ => e)
    · rw [show false = decide ((S : Int) < ((votes.map PV.int).length : Nat)) by rw [List.length_map]; simp; omega]
      exact tr_cmp (ev_name rfl rfl) (ev_len N E (ev_name rfl rfl) AsList.list (by rw [List.length_map]; omega) rfl rfl) rfl c_lt
    · refine exs_own (ds := votes.map fun p => .int (if p > 0 then 1 else 0)) (ex_own (evnew_compA (α := Int) (mk := .int) (xs := votes) (f := fun p => .int (if p > 0 then 1 else 0)) ⟨inj_int, ao.handled, rfl, ev_name rfl rfl, .list AsList.list, ⟨rfl, rfl, by decide⟩, .nil, fun _ => rfl, .any fun _ _ => rfl, by omega, fun hid' C a _ o => tgti hid' C rfl rfl rfl, fun hid' C b h => ?_, fun a _ => .nil⟩) (hs _ (.inr rfl)) rfl rfl rfl) (fun D' => ?_)
      · refine ev_if (x := decide (b > 0)) (tr_cmp (ev_name rfl rfl) ev_int rfl c_gt) (fun e => ?_) (fun e => ?_)
        · rw [if_pos (of_decide_eq_true e)]; exact ev_int
        · rw [if_neg (of_decide_eq_false e)]; exact ev_int
      refine exs_next (ex_assign (EvNew.ev (evnew_compA (α := Nat) (mk := fun i => .int (i : Int)) (xs := List.range S) (f := fun i => pairV ((i : Int) + 1, 1)) ⟨inj_nat, ao.handled, rfl, ev_range1 N E (ev_name rfl rfl) rfl rfl, src_rng (by omega), ⟨rfl, rfl, by decide⟩, .nil, fun _ => rfl, .any fun _ _ => rfl, by rw [List.length_range]; omega, fun hid' C a _ o => tgti hid' C rfl rfl rfl, fun hid' C a h => ev_tup2 (by walk_at "ev") ev_int rfl rfl, fun a _ => .nil⟩)) (hs _ (.inr rfl)) rfl rfl rfl) (exs_nil ⟨D', _, _, rfl, ?_, ?_⟩)
      · simp only [dV2, divs, List.map_map]
        refine .cons rfl (.cons rfl (.cons rfl (.cons rfl (.cons rfl (.cons rfl .nil)))))
      · simp only [base, List.map_map]
        exact List.Sublist.cons_cons _ (List.nil_sublist _)
  refine exs_cons (K' := fun o => ∃ D' v m, o = .next v m ∧ Sub (dV2 votes S nm ta D' (divs r S)) v ∧ [(D', (base r votes).map .int)].Sublist m) (ex_if (x := decide (Rule.dean = r)) ?_ (fun e => ?_) (fun e => ?_)) (fun v m e => exs_nil e) (fun o e _ => e)
  · rw [← hr .dean]
    exact ev_in (ns := ruleNames .dean) (ev_name rfl rfl) (ev_list (by walk_at "args") (by decide)) AsList.list rfl
  · have e : Rule.dean = r := of_decide_eq_true e
    have hle : votes.length ≤ S := hp .dean (by simp) e.symm
    subst e
    refine exs_cons (K' := fun o => ∃ D' v m, o = .next v m ∧ Sub (dV2 votes S nm ta D' (divs .dean S)) v ∧ [(D', (base .dean votes).map .int)].Sublist m) (ex_if (x := false) ?_ (fun e => nomatch e) (fun _ => ?_)) (fun v m e => exs_nil e) (fun o e _ => e)
    · rw [show false = decide ((S : Int) < ((votes.map PV.int).length : Nat)) by rw [List.length_map]; simp; omega]
      exact tr_cmp (ev_name rfl rfl) (ev_len N E (ev_name rfl rfl) AsList.list (by rw [List.length_map]; omega) rfl rfl) rfl c_lt
    · refine exs_own (ds := votes.map fun p => .int (if p > 0 then 1 else 0)) (ex_own (evnew_compA (α := Int) (mk := .int) (xs := votes) (f := fun p => .int (if p > 0 then 1 else 0)) ⟨inj_int, ao.handled, rfl, ev_name rfl rfl, .list AsList.list, ⟨rfl, rfl, by decide⟩, .nil, fun _ => rfl, .any fun _ _ => rfl, by omega, fun hid' C a _ o => tgti hid' C rfl rfl rfl, fun hid' C b h => ?_, fun a _ => .nil⟩) (hs _ (.inr rfl)) rfl rfl rfl) (fun D' => ?_)
      · refine ev_if (x := decide (b > 0)) (tr_cmp (ev_name rfl rfl) ev_int rfl c_gt) (fun e => ?_) (fun e => ?_)
        · rw [if_pos (of_decide_eq_true e)]; exact ev_int
        · rw [if_neg (of_decide_eq_false e)]; exact ev_int
      refine exs_next (ex_assign (EvNew.ev (evnew_compA (α := Nat) (mk := fun i => .int (i : Int)) (xs := List.range S) (f := fun i => pairV (2 * ((i : Int) + 1) * ((i : Int) + 2), 2 * ((i : Int) + 1) + 1)) ⟨inj_nat, ao.handled, rfl, ev_range1 N E (ev_name rfl rfl) rfl rfl, src_rng (by omega), ⟨rfl, rfl, by decide⟩, .nil, fun _ => rfl, .any fun _ _ => rfl, by rw [List.length_range]; omega, fun hid' C a _ o => tgti hid' C rfl rfl rfl, fun hid' C a h => ev_tup2 (ev_mul (ev_mul ev_int (ev_add (ev_name rfl rfl) ev_int) (mulOk20 (by decide) (by have := natlt20 h hS; omega))) (ev_add (ev_name rfl rfl) ev_int) (mulOk20 (by have := natlt20 h hS; omega) (by have := natlt20 h hS; omega))) (ev_add (ev_mul ev_int (ev_add (ev_name rfl rfl) ev_int) (mulOk20 (by decide) (by have := natlt20 h hS; omega))) ev_int) rfl rfl, fun a _ => .nil⟩)) (hs _ (.inr rfl)) rfl rfl rfl) (exs_nil ⟨D', _, _, rfl, ?_, ?_⟩)
      · simp only [dV2, divs, List.map_map]
        refine .cons rfl (.cons rfl (.cons rfl (.cons rfl (.cons rfl (.cons rfl .nil)))))
      · simp only [base, List.map_map]
        exact List.Sublist.cons_cons _ (List.nil_sublist _)
  · rename_i e1 e2 e3 e4 e5
    exact absurd e (by clear e; revert e1 e2 e3 e4 e5; cases r <;> decide)
end
end Mine
end

section
open PySem PySem.W PyProof.Rows PySem.Calls PySem.SeqAt
set_option linter.unusedVariables false
set_option maxRecDepth 100000
namespace Mine

local macro_rules | `(tactic| walk_at "ev") => `(tactic| first
  | exact ev_int | exact ev_bool | exact ev_none | exact ev_str
  | exact ev_name rfl rfl
  | (refine ev_add ?_ ?_ <;> walk_at "ev")
  | (refine ev_sub ?_ ?_ <;> walk_at "ev")
  | (refine ev_neg ?_ <;> walk_at "ev"))
local macro_rules | `(tactic| walk_at "args") => `(tactic| first
  | exact evargs_nil
  | (refine evargs_cons ?_ ?_ rfl; (walk_at "ev"); (walk_at "args")))

/-- the divisors are small and over nought -/
def DivsOk (ds : List (Int × Int)) : Prop := ∀ d ∈ ds, 0 < d.1 ∧ d.1.natAbs < 2 ^ 13 ∧ 0 < d.2 ∧ d.2.natAbs < 2 ^ 13
theorem natAbs_mul_lt {a b : Int} {j k : Nat} (ha : a.natAbs < 2 ^ j) (hb : b.natAbs < 2 ^ k) : (a * b).natAbs < 2 ^ (j + k) := by
  rw [Int.natAbs_mul, Nat.pow_add]
  exact Nat.mul_lt_mul'' ha hb
theorem common_foldl (ds : List (Int × Int)) (h : DivsOk ds) : ∀ c : Int, 0 < c → ∀ k, c.natAbs < 2 ^ k → 0 < ds.foldl (fun c d => c * d.1) c ∧ (ds.foldl (fun c d => c * d.1) c).natAbs < 2 ^ (k + 13 * ds.length) := by
  induction ds with
  | nil => intro c hc k hk; exact ⟨hc, by simpa using hk⟩
  | cons d r ih =>
    intro c hc k hk
    have hd := h d List.mem_cons_self
    have := ih (fun e he => h e (List.mem_cons_of_mem _ he)) (c * d.1) (Int.mul_pos hc hd.1) (k + 13) (natAbs_mul_lt hk hd.2.1)
    rw [List.foldl_cons, List.length_cons]
    refine ⟨this.1, ?_⟩
    have e : k + 13 * (r.length + 1) = k + 13 + 13 * r.length := by omega
    rw [e]; exact this.2
theorem common_ok {ds : List (Int × Int)} (h : DivsOk ds) : 0 < common ds ∧ (common ds).natAbs < 2 ^ (1 + 13 * ds.length) := common_foldl ds h 1 (by decide) 1 (by decide)
theorem common_take {ds : List (Int × Int)} (i : Nat) (d) (h : ds[i]? = some d) : common (ds.take (i + 1)) = common (ds.take i) * d.1 := by
  unfold common
  have hlt : i < ds.length := by
    rcases Nat.lt_or_ge i ds.length with q | q
    · exact q
    · rw [List.getElem?_eq_none q] at h; cases h
  rw [List.take_add_one, h]
  simp
theorem lt_of_get {α : Type} {l : List α} {i : Nat} {a : α} (h : l[i]? = some a) : i < l.length := by
  rcases Nat.lt_or_ge i l.length with q | q
  · exact q
  · rw [List.getElem?_eq_none q] at h; cases h
theorem divsOk (r : Rule) (S : Nat) (hS : S ≤ 60) : DivsOk (divs r S) := by
  have key : ∀ i : Nat, i < 60 → (∀ x : Nat, x ∈ [i + 1, 2 * i + 1, (i + 1) * (i + 2), 2 * (i + 1) * (i + 2), 2 * (i + 1) + 1] → 0 < x ∧ x < 2 ^ 13) := by
    intro i hi
    have : (i + 1) * (i + 2) ≤ 60 * 61 := Nat.mul_le_mul (by omega) (by omega)
    have : 0 < (i + 1) * (i + 2) := Nat.mul_pos (by omega) (by omega)
    have e : 2 * (i + 1) * (i + 2) = 2 * ((i + 1) * (i + 2)) := by rw [Nat.mul_assoc]
    intro x hx
    simp only [List.mem_cons, List.not_mem_nil, or_false] at hx
    rcases hx with rfl | rfl | rfl | rfl | rfl <;> omega
  have cst : ∀ {n : Nat} {z : Int}, z = (n : Int) → 0 < n ∧ n < 2 ^ 13 → 0 < z ∧ z.natAbs < 2 ^ 13 := by intro n z e h; omega
  intro d hd
  cases r <;> simp only [divs, List.mem_cons, List.mem_map, List.mem_range] at hd
  · obtain ⟨i, hi, rfl⟩ := hd
    exact ⟨by show (0 : Int) < (i : Int) + 1; omega, by show ((i : Int) + 1).natAbs < _; omega, Int.one_pos, (by decide : (1 : Int).natAbs < 2 ^ 13)⟩
  · obtain ⟨i, hi, rfl⟩ := hd
    exact ⟨by show (0 : Int) < 2 * (i : Int) + 1; omega, by show (2 * (i : Int) + 1).natAbs < _; omega, Int.one_pos, (by decide : (1 : Int).natAbs < 2 ^ 13)⟩
  · rcases hd with rfl | ⟨i, hi, rfl⟩
    · decide
    exact ⟨by show (0 : Int) < 2 * (1 + (i : Int)) + 1; omega, by show (2 * (1 + (i : Int)) + 1).natAbs < _; omega, Int.one_pos, (by decide : (1 : Int).natAbs < 2 ^ 13)⟩
  · obtain ⟨i, hi, rfl⟩ := hd
    have h1 := cst (z := ((i : Int) + 1) * ((i : Int) + 2)) (by simp) (key i (by omega) ((i + 1) * (i + 2)) (by simp))
    exact ⟨h1.1, h1.2, Int.one_pos, (by decide : (1 : Int).natAbs < 2 ^ 13)⟩
  · obtain ⟨i, hi, rfl⟩ := hd
    exact ⟨by show (0 : Int) < (i : Int) + 1; omega, by show ((i : Int) + 1).natAbs < _; omega, Int.one_pos, (by decide : (1 : Int).natAbs < 2 ^ 13)⟩
  · obtain ⟨i, hi, rfl⟩ := hd
    have h1 := cst (z := 2 * ((i : Int) + 1) * ((i : Int) + 2)) (by simp) (key i (by omega) (2 * (i + 1) * (i + 2)) (by simp))
    exact ⟨h1.1, h1.2, by show (0 : Int) < 2 * ((i : Int) + 1) + 1; omega, by show (2 * ((i : Int) + 1) + 1).natAbs < _; omega⟩
theorem divs_len (r : Rule) (S : Nat) (h : 1 ≤ S) : (divs r S).length = S := by
  cases r <;> simp [divs]
  omega

section
variable {W : Wk} {A : Around} {hid : PMap} {env : Env} {vars : Vars} {mu : Mu} {K : Out → Prop}
theorem ev_pair0 {v s : Expr} {pos x y} (hv : Ev W A hid env vars mu v (.tup [x, y])) (hs : Ev W A hid env vars mu s (.int 0)) : Ev W A hid env vars mu (.Subscript v s pos) x :=
  ev_tidx hv hs (by decide) (by show (0 : Int) < ((2 : Nat) : Int); decide) (by show 2 < 2 ^ 62; decide) rfl
theorem ev_pair1 {v s : Expr} {pos x y} (hv : Ev W A hid env vars mu v (.tup [x, y])) (hs : Ev W A hid env vars mu s (.int 1)) : Ev W A hid env vars mu (.Subscript v s pos) y :=
  ev_tidx hv hs (by decide) (by show (1 : Int) < ((2 : Nat) : Int); decide) (by show 2 < 2 ^ 62; decide) rfl

abbrev cm0 (p : Program) : List Stmt := match (bodyOf p "divisor").getD 2 (.Pass default) with | .If _ b _ _ => b | _ => []

theorem div_common {a L : Addr} {dV kV doc pm an cdv ct} {votes : List Int} {S : Nat} {nm : Str} {ta : Bool} {ds : List (Int × Int)} {D : Addr} {r0 : List PV} (N : Names W) (ao : AOk W A 0) (hd : DivsOk ds) (hl : ds.length ≤ 60)
    (hs : ∀ x, (scopeOf p1 "divisor").names.lookup x = some .local ∨ (scopeOf p1 "divisor").names.lookup x = some .cell → Sto hid (dEnv p1 a L dV kV doc pm an cdv ct) x) :
    Ex1 W A hid (dEnv p1 a L dV kV doc pm an cdv ct) ((("common" : Str), PV.int 1) :: dV2 votes S nm ta D ds) [(D, r0)] ((cm0 p1).getD 1 (.Pass default)) (· = .next ((("common" : Str), PV.int (common ds)) :: dV2 votes S nm ta D ds) [(D, r0)]) := by
  refine ex_for (d := .list (ds.map pairV)) (its := ds.map pairV) (fun i v m => v = (("common" : Str), PV.int (common (ds.take i))) :: dV2 votes S nm ta D ds ∧ m = [(D, r0)]) ao.handled (ev_name rfl rfl) (fun _ _ _ _ => .list AsList.list) ⟨rfl, rfl⟩ (hs _ (.inl rfl)) rfl rfl (fun _ => rfl) ?_ ?_
  · rintro hid' i v m x hsto hx ⟨rfl, rfl⟩
    rw [List.getElem?_map] at hx
    obtain ⟨d, hd1, rfl⟩ := Option.map_eq_some_iff.mp hx
    have hdo := hd d (List.mem_of_getElem? hd1)
    have hc := common_ok (ds := ds.take i) (fun e he => hd e (List.mem_of_mem_take he))
    have hlt := lt_of_get hd1
    refine exs_next (ex_assign (ev_mul (ev_name rfl rfl) (ev_pair0 (ev_name rfl rfl) ev_int) (mulOk hc.2 hdo.2.1 ?_)) (hsto _ (hs _ (.inr rfl))) rfl rfl rfl) (exs_nil ⟨_, _, ?_, List.Sublist.refl _, rfl, rfl⟩)
    · rw [List.length_take]; omega
    · rw [common_take i d hd1]
      exact .cons rfl (.cons rfl (.cons rfl (.cons rfl (.cons rfl (.cons rfl (.cons rfl .nil))))))
  · rintro v m ⟨rfl, rfl⟩
    rw [List.length_map, List.take_length]
end
end Mine
end

section
open PySem PySem.W PyProof.Rows PySem.Calls PySem.SeqAt
set_option linter.unusedVariables false
set_option maxRecDepth 100000
namespace Mine

local macro_rules | `(tactic| walk_at "ev") => `(tactic| first
  | exact ev_int | exact ev_bool | exact ev_none | exact ev_str
  | exact ev_name rfl rfl
  | (refine ev_add ?_ ?_ <;> walk_at "ev")
  | (refine ev_sub ?_ ?_ <;> walk_at "ev")
  | (refine ev_neg ?_ <;> walk_at "ev"))
local macro_rules | `(tactic| walk_at "args") => `(tactic| first
  | exact evargs_nil
  | (refine evargs_cons ?_ ?_ rfl; (walk_at "ev"); (walk_at "args")))
local macro_rules | `(tactic| walk_at "sub") => `(tactic| repeat (first | exact .nil | refine .cons rfl ?_))
local macro_rules | `(tactic| walk_at "over") => `(tactic| repeat (first | exact .nil | refine .cons rfl rfl rfl ?_))

section
variable {W : Wk} {A : Around} {hid : PMap} {env : Env} {vars : Vars} {mu : Mu} {K : Out → Prop}

abbrev listI (l : List Int) : PV := .list (l.map .int)
theorem inj_listI : ∀ a b : List Int, listI a = listI b → a = b := fun a b h => by
  injection h with h
  exact (List.map_inj_right (fun a b h => by injection h)).mp h
def wsOf (r : Rule) (c : Int) (ds : List (Int × Int)) (votes : List Int) : List (List Int) := votes.map fun p => ds.map (wt r c p)

theorem div_weights {a L : Addr} {dV kV doc pm an cdv ct} {votes : List Int} {S : Nat} {nm : Str} {ta : Bool} {r : Rule} {c : Int} {ds : List (Int × Int)} {D : Addr} {r0 : List PV} {B : Nat} (N : Names W) (ao : AOk W A 0) (hd : DivsOk ds) (hl : ds.length ≤ 60) (hr : RuleName r nm)
    (hv : votes.length ≤ 100) (hB : ∀ p ∈ votes, p.natAbs < 2 ^ B) (hB2 : B ≤ 10 ^ 7) (hc : c.natAbs < 2 ^ 800)
    (hs : ∀ x, (scopeOf p1 "divisor").names.lookup x = some .local ∨ (scopeOf p1 "divisor").names.lookup x = some .cell → Sto hid (dEnv p1 a L dV kV doc pm an cdv ct) x) :
    Ex1 W A hid (dEnv p1 a L dV kV doc pm an cdv ct) ((("common" : Str), PV.int c) :: dV2 votes S nm ta D ds) [(D, r0)] ((cm0 p1).getD 2 (.Pass default)) (· = .next (("weights", .list ((wsOf r c ds votes).map listI)) :: ("common", PV.int c) :: dV2 votes S nm ta D ds) [(D, r0)]) := by
  have hinj : ∀ a b : Int × Int, pairV a = pairV b → a = b := fun a b h => by
    injection h with h; injection h with h1 h2; injection h2 with h2; injection h1 with h1; injection h2 with h2; exact Prod.ext h1 h2
  have e : (PV.list ((wsOf r c ds votes).map listI)) = .list (votes.map fun p => listI (ds.map (wt r c p))) := by
    unfold wsOf; rw [List.map_map]; rfl
  rw [e]
  refine ex_if (x := decide (Rule.hill = r)) ?_ (fun e => ?_) (fun e => ?_)
  · rw [← hr .hill]
    exact ev_in (ns := ruleNames .hill) (ev_name rfl rfl) (ev_list (by walk_at "args") (by decide)) AsList.list rfl
  all_goals
    have hw : ∀ hid' hid'' : PMap, True := fun _ _ => trivial
  · have e : Rule.hill = r := of_decide_eq_true e
    subst e
    refine exs_next (ex_assign (EvNew.ev (evnew_compA (α := Int) (mk := .int) (xs := votes) (f := fun p => listI (ds.map (wt .hill c p))) (vars' := [("divisors", .list (ds.map pairV)), ("common", .int c)]) (tv := fun p => [("p", .int p), ("divisors", .list (ds.map pairV)), ("common", .int c)])
      ⟨inj_int, ao.handled, rfl, ev_name rfl rfl, .list AsList.list, ⟨rfl, rfl, by decide⟩, by walk_at "over", fun _ => rfl, .any fun _ _ => rfl, by omega, fun hid' C p hp o => tgt_name (sto_cell (by decide) rfl o) rfl rfl, fun hid' C p hp => ?_, fun p _ => by walk_at "sub"⟩)) (hs _ (.inr rfl)) rfl rfl rfl) (exs_nil rfl)
    show Ev _ _ _ _ _ _ _ (.list ((ds.map (wt .hill c p)).map .int))
    rw [List.map_map]
    refine EvNew.ev (evnew_compA (α := Int × Int) (mk := pairV) (xs := ds) (f := PV.int ∘ wt .hill c p) (vars' := [("p", .int p), ("common", .int c)]) (tv := fun d => [("d", pairV d), ("p", .int p), ("common", .int c)])
      ⟨hinj, ao.handled, rfl, ev_name rfl rfl, .list AsList.list, ⟨rfl, rfl, by decide⟩, by walk_at "over", fun _ => rfl, .any fun _ _ => rfl, by omega, fun hid' C d hd o => tgt_name (store_own hid' rfl) rfl rfl, fun hid' C d hdm => ?_, fun d _ => by walk_at "sub"⟩)
    have hdo := hd d hdm
    have hpB := hB p hp
    have e1 := natAbs_mul_lt hpB hpB
    have e2 := natAbs_mul_lt e1 hdo.2.2.2
    exact ev_fdiv N.ok ao (ev_mul (ev_mul (ev_mul (ev_toint N ⟨rfl, rfl, rfl⟩ (ev_name rfl rfl) rfl rfl) (ev_toint N ⟨rfl, rfl, rfl⟩ (ev_name rfl rfl) rfl rfl) (mulOk hpB hpB (by omega))) (ev_pair1 (ev_name rfl rfl) ev_int) (mulOk e1 hdo.2.2.2 (by omega))) (ev_name rfl rfl) (mulOk e2 hc (by omega))) (ev_pair0 (ev_name rfl rfl) ev_int) (by have := hdo.1; omega)
  · refine exs_next (ex_assign (EvNew.ev (evnew_compA (α := Int) (mk := .int) (xs := votes) (f := fun p => listI (ds.map (wt r c p))) (vars' := [("divisors", .list (ds.map pairV)), ("common", .int c)]) (tv := fun p => [("p", .int p), ("divisors", .list (ds.map pairV)), ("common", .int c)])
      ⟨inj_int, ao.handled, rfl, ev_name rfl rfl, .list AsList.list, ⟨rfl, rfl, by decide⟩, by walk_at "over", fun _ => rfl, .any fun _ _ => rfl, by omega, fun hid' C p hp o => tgt_name (sto_cell (by decide) rfl o) rfl rfl, fun hid' C p hp => ?_, fun p _ => by walk_at "sub"⟩)) (hs _ (.inr rfl)) rfl rfl rfl) (exs_nil rfl)
    show Ev _ _ _ _ _ _ _ (.list ((ds.map (wt r c p)).map .int))
    rw [List.map_map]
    refine EvNew.ev (evnew_compA (α := Int × Int) (mk := pairV) (xs := ds) (f := PV.int ∘ wt r c p) (vars' := [("p", .int p), ("common", .int c)]) (tv := fun d => [("d", pairV d), ("p", .int p), ("common", .int c)])
      ⟨hinj, ao.handled, rfl, ev_name rfl rfl, .list AsList.list, ⟨rfl, rfl, by decide⟩, by walk_at "over", fun _ => rfl, .any fun _ _ => rfl, by omega, fun hid' C d hd o => tgt_name (store_own hid' rfl) rfl rfl, fun hid' C d hdm => ?_, fun d _ => by walk_at "sub"⟩)
    have hdo := hd d hdm
    have hpB := hB p hp
    have e2 := natAbs_mul_lt hpB hdo.2.2.2
    have e3 : (PV.int ∘ wt r c p) d = .int ((p * d.2 * c).fdiv d.1) := by
      cases r <;> first | exact absurd e (by decide) | rfl
    rw [e3]
    exact ev_fdiv N.ok ao (ev_mul (ev_mul (ev_toint N ⟨rfl, rfl, rfl⟩ (ev_name rfl rfl) rfl rfl) (ev_pair1 (ev_name rfl rfl) ev_int) (mulOk hpB hdo.2.2.2 (by omega))) (ev_name rfl rfl) (mulOk e2 hc (by omega))) (ev_pair0 (ev_name rfl rfl) ev_int) (by have := hdo.1; omega)

theorem noCell {names : List (Str × NameKind)} (h : names.all (fun p => p.2 != .cell) = true) : ∀ x, names.lookup x ≠ some .cell := fun x hx => by
  have := List.all_eq_true.mp h _ (mem_of_lookup hx)
  exact absurd this (by show ¬ ((NameKind.cell != NameKind.cell) = true); decide)
theorem flat_map_int (ws : List (List Int)) : (ws.flatMap fun l => l.map PV.int) = ws.flatten.map PV.int := by
  induction ws with
  | nil => rfl
  | cons l r ih => rw [List.flatMap_cons, ih, List.flatten_cons, List.map_append]
abbrev vW (votes : List Int) (S : Nat) (nm : Str) (ta : Bool) (D : Addr) (ds : List (Int × Int)) (c : Int) (ws : List (List Int)) : Vars := ("weights", .list (ws.map listI)) :: ("common", PV.int c) :: dV2 votes S nm ta D ds

theorem div_flat {a L : Addr} {dV kV doc pm an cdv ct} {votes : List Int} {S : Nat} {nm : Str} {ta : Bool} {c : Int} {ds : List (Int × Int)} {ws : List (List Int)} {D : Addr} {r0 : List PV} {M : Nat} (N : Names W) (ao : AOk W A 0)
    (hM : ∀ l ∈ ws, l.length ≤ M) (hwM : ws.length * M ≤ 100000) (h64 : ws.flatten.length < 64)
    (hs : ∀ x, (scopeOf p1 "divisor").names.lookup x = some .local ∨ (scopeOf p1 "divisor").names.lookup x = some .cell → Sto hid (dEnv p1 a L dV kV doc pm an cdv ct) x) :
    Ex1 W A hid (dEnv p1 a L dV kV doc pm an cdv ct) (vW votes S nm ta D ds c ws) [(D, r0)] ((cm0 p1).getD 3 (.Pass default)) (· = .next (("flatweights", listI (sortI ws.flatten)) :: vW votes S nm ta D ds c ws) [(D, r0)]) := by
  refine ex_assign (ev_sorted N ⟨rfl, rfl, rfl⟩ (EvNew.ev ?_) AsList.list h64 rfl rfl) (hs _ (.inl rfl)) rfl rfl rfl
  rw [← flat_map_int]
  exact evnew_comp2M (α := List Int) (β := Int) (mk := listI) (mk1 := .int) (xs := ws) (ys := fun l => l) (f := fun _ w => .int w) (vars' := []) (tv := fun l => [("l", listI l)]) (tv1 := fun l w => [("w", .int w), ("l", listI l)]) (d1 := listI) (N := M) inj_listI inj_int ao.handled rfl (ev_name rfl rfl) (.list AsList.list) ⟨rfl, rfl, by decide⟩ .nil
    (fun _ => rfl) (fun _ _ => rfl) hwM (noCell rfl) (fun _ _ => rfl) hM (fun _ _ => rfl) (fun l _ => .list AsList.list) (fun hid' C l _ => tgt_name (store_own hid' rfl) rfl rfl) (fun hid' C l _ => ev_name rfl rfl) (fun hid' C l w _ _ => tgt_name (store_own hid' rfl) rfl rfl) (fun hid' C l w _ _ => ev_name rfl rfl)
    (fun l w _ _ => by walk_at "sub") (fun l _ => .nil)

theorem div_min {a L : Addr} {dV kV doc pm an cdv ct} {votes : List Int} {S : Nat} {nm : Str} {ta : Bool} {c : Int} {ds : List (Int × Int)} {ws : List (List Int)} {D : Addr} {r0 fl : List Int} (N : Names W) (ao : AOk W A 0)
    (h1 : -(fl.length : Int) ≤ -(S : Int) + r0.sum) (h2 : -(S : Int) + r0.sum < fl.length) (h64 : fl.length < 64)
    (hs : ∀ x, (scopeOf p1 "divisor").names.lookup x = some .local ∨ (scopeOf p1 "divisor").names.lookup x = some .cell → Sto hid (dEnv p1 a L dV kV doc pm an cdv ct) x) :
    Ex1 W A hid (dEnv p1 a L dV kV doc pm an cdv ct) ((("flatweights" : Str), listI fl) :: vW votes S nm ta D ds c ws) [(D, r0.map .int)] ((cm0 p1).getD 4 (.Pass default))
      (· = .next (("minweight", .int (fl.getD (idx (-(S : Int) + r0.sum) fl.length) 0)) :: ("flatweights", listI fl) :: vW votes S nm ta D ds c ws) [(D, r0.map .int)]) := by
  have hi : idx (-(S : Int) + r0.sum) fl.length < fl.length := by unfold idx; split <;> omega
  refine ex_assign (ev_idx (l := fl.map .int) (ev_name rfl rfl) (ev_add (ev_neg (ev_name rfl rfl)) (ev_sum N ⟨rfl, rfl, rfl⟩ ao.handled (ev_name rfl rfl) (.inr ⟨D, rfl, .head _⟩) rfl rfl)) AsList.list (by rw [List.length_map]; exact h1) (by rw [List.length_map]; exact h2) (by rw [List.length_map]; omega) ?_) (hs _ (.inr rfl)) rfl rfl rfl
  rw [List.length_map, List.getElem?_map, List.getD, List.getElem?_eq_getElem hi]; rfl

def topI (m : Int) (l : List Int) : Int := ((l.filter fun w => decide (w > m)).length : Nat)
def r1Of (r0 : List Int) (ws : List (List Int)) (m : Int) (n : Nat) : List Int := (List.range n).map fun i => r0.getD i 0 + topI m (ws.getD i [])

theorem getD_map_int (l : List Int) (i : Nat) (h : i < l.length) : (l.map PV.int)[i]? = some (.int (l.getD i 0)) := by
  rw [List.getElem?_map, List.getD, List.getElem?_eq_getElem h]; rfl
theorem getD_map_listI (l : List (List Int)) (i : Nat) (h : i < l.length) : (l.map listI)[i]? = some (listI (l.getD i [])) := by
  rw [List.getElem?_map, List.getD, List.getElem?_eq_getElem h]; rfl
theorem idx_nat (i n : Nat) : idx (i : Int) n = i := by unfold idx; rw [if_pos (by omega)]; omega

theorem ev_nidx {v s : Expr} {pos d l} {k : Nat} {r} (hv : Ev W A hid env vars mu v d) (hs : Ev W A hid env vars mu s (.int (k : Int))) (hl : AsList mu d l) (hn : l.length ≤ 100000) (hr : l[k]? = some r) : Ev W A hid env vars mu (.Subscript v s pos) r := by
  have hk := lt_of_get hr
  exact ev_idx hv hs hl (by omega) (by omega) (by omega) (by rw [idx_nat]; exact hr)
theorem ev_iidx {v s : Expr} {pos d} {xs : List Int} {k : Nat} (hv : Ev W A hid env vars mu v d) (hs : Ev W A hid env vars mu s (.int (k : Int))) (hl : AsList mu d (xs.map .int)) (hk : k < xs.length) (hn : xs.length ≤ 100000) : Ev W A hid env vars mu (.Subscript v s pos) (.int (xs.getD k 0)) :=
  ev_nidx hv hs hl (by rw [List.length_map]; exact hn) (getD_map_int _ _ hk)
theorem ev_lidx {v s : Expr} {pos d} {xs : List (List Int)} {k : Nat} (hv : Ev W A hid env vars mu v d) (hs : Ev W A hid env vars mu s (.int (k : Int))) (hl : AsList mu d (xs.map listI)) (hk : k < xs.length) (hn : xs.length ≤ 100000) : Ev W A hid env vars mu (.Subscript v s pos) (listI (xs.getD k [])) :=
  ev_nidx hv hs hl (by rw [List.length_map]; exact hn) (getD_map_listI _ _ hk)
theorem div_reps {a L : Addr} {dV kV doc pm an cdv ct} {votes : List Int} {S : Nat} {nm : Str} {ta : Bool} {c : Int} {ds : List (Int × Int)} {ws : List (List Int)} {D : Addr} {r0 fl : List Int} {m : Int} (N : Names W) (ao : AOk W A 0)
    (hv : votes.length ≤ 100) (hr0 : r0.length = votes.length) (hws : ws.length = votes.length) (hM : ∀ l ∈ ws, l.length ≤ 1000)
    (hs : ∀ x, (scopeOf p1 "divisor").names.lookup x = some .local ∨ (scopeOf p1 "divisor").names.lookup x = some .cell → Sto hid (dEnv p1 a L dV kV doc pm an cdv ct) x) :
    Ex1 W A hid (dEnv p1 a L dV kV doc pm an cdv ct) ((("minweight" : Str), PV.int m) :: ("flatweights", listI fl) :: vW votes S nm ta D ds c ws) [(D, r0.map .int)] ((cm0 p1).getD 5 (.Pass default))
      (fun o => ∃ D', o = .next (("representatives", .loc D') :: ("minweight", .int m) :: ("flatweights", listI fl) :: vW votes S nm ta D ds c ws) [(D', (r1Of r0 ws m votes.length).map .int), (D, r0.map .int)]) := by
  unfold r1Of
  rw [List.map_map]
  refine ex_own (evnew_compA (α := Nat) (mk := fun i => .int (i : Int)) (xs := List.range votes.length) (vars' := [("representatives", .loc D), ("minweight", .int m), ("weights", .list (ws.map listI))]) (tv := fun i => [("i", .int (i : Int)), ("representatives", .loc D), ("minweight", .int m), ("weights", .list (ws.map listI))])
    ⟨inj_nat, ao.handled, rfl, ?_, src_rng (by omega), ⟨rfl, rfl, by decide⟩, by walk_at "over", fun _ => rfl, .any fun _ _ => rfl, by rw [List.length_range]; omega, fun hid' C i hi o => tgt_name (store_own hid' rfl) rfl rfl, fun hid' C i hi => ?_, fun i _ => by walk_at "sub"⟩) (hs _ (.inr rfl)) rfl rfl rfl
  · have := ev_range1 (W := W) (A := A) (hid := hid) (vars := (("minweight" : Str), PV.int m) :: ("flatweights", listI fl) :: vW votes S nm ta D ds c ws) (mu := [(D, r0.map .int)]) (env := dEnv p1 a L dV kV doc pm an cdv ct) (np := default) (pos := default) (e := .Constant (.int 0) 0 default) (n := 0) N ⟨rfl, rfl, rfl⟩ ev_int rfl rfl
    rw [show ((votes.length : Nat) : Int) = ((votes.map PV.int).length : Nat) by rw [List.length_map]]
    exact ev_range1 N ⟨rfl, rfl, rfl⟩ (ev_len N ⟨rfl, rfl, rfl⟩ (ev_name rfl rfl) AsList.list (by rw [List.length_map]; omega) rfl rfl) rfl rfl
  · have hi' := List.mem_range.mp hi
    have hwi : (ws.getD i []).length ≤ 1000 := by
      rw [List.getD, List.getElem?_eq_getElem (by omega)]; exact hM _ (List.getElem_mem _)
    have e1 : (PV.int ∘ fun i => r0.getD i 0 + topI m (ws.getD i [])) i = .int (r0.getD i 0 + ((((ws.getD i []).filter fun w => decide (w > m)).map PV.int).length : Nat)) := by
      show PV.int (r0.getD i 0 + topI m (ws.getD i [])) = _
      unfold topI; rw [List.length_map]
    rw [e1]
    refine ev_add (ev_iidx (xs := r0) (ev_name rfl rfl) (ev_name rfl rfl) (.inr ⟨D, rfl, .head _⟩) (by omega) (by omega)) ?_
    refine ev_len N ⟨rfl, rfl, rfl⟩ (EvNew.ev (evnew_compM (α := Int) (mk := .int) (xs := ws.getD i []) (p := fun w => decide (w > m)) (f := .int) (vars' := [("minweight", .int m)]) (tv := fun w => [("w", .int w), ("minweight", .int m)])
      ⟨inj_int, ao.handled, rfl, ev_lidx (xs := ws) (ev_name rfl rfl) (ev_name rfl rfl) AsList.list (by omega) (by omega), .list AsList.list, ⟨rfl, rfl, by decide⟩, by walk_at "over", fun _ => rfl, .any fun _ _ => rfl, by omega, fun hid' C w hw o => tgt_name (store_own hid' rfl) rfl rfl, fun hid' C w hw => ?_, fun hid' C w hw _ => ev_name rfl rfl, fun w _ => by walk_at "sub"⟩)) AsList.list ?_ rfl rfl
    · exact tests_one (tr_cmp (ev_name rfl rfl) (ev_name rfl rfl) rfl c_gt)
    · rw [List.length_map]
      have := List.length_filter_le (fun w => decide (w > m)) (ws.getD i [])
      omega
end
end Mine
end

section
open PySem PySem.W PyProof.Rows PySem.Calls PySem.SeqAt
set_option linter.unusedVariables false
set_option maxRecDepth 100000
namespace Mine

local macro_rules | `(tactic| walk_at "sub") => `(tactic| repeat (first | exact .nil | refine .cons rfl ?_))

def has (m : Int) (l : List Int) : Bool := l.any (· == m)
def tieStep (S : Nat) (ws : List (List Int)) (m : Int) (r : List Int) (i : Nat) : List Int := if decide (r.sum < (S : Int)) && has m (ws.getD i []) then r.set i (r.getD i 0 + 1) else r
def tieFold (S : Nat) (ws : List (List Int)) (m : Int) (r : List Int) (n : Nat) : List Int := (List.range n).foldl (tieStep S ws m) r
def tieSeen (S : Nat) (ws : List (List Int)) (m : Int) (r : List Int) (n : Nat) : Bool := (List.range n).any fun i => (tieFold S ws m r i).sum == (S : Int) && has m (ws.getD i [])
theorem tieStep_len {S ws m r i} : (tieStep S ws m r i).length = r.length := by unfold tieStep; split <;> simp
theorem tieFold_succ {S ws m r n} : tieFold S ws m r (n + 1) = tieStep S ws m (tieFold S ws m r n) n := by
  unfold tieFold; rw [List.range_succ, List.foldl_append]; rfl
theorem tieFold_len {S ws m r} : ∀ {n}, (tieFold S ws m r n).length = r.length
  | 0 => rfl
  | n + 1 => by rw [tieFold_succ, tieStep_len, tieFold_len]
theorem tieFold_full {S : Nat} {ws m r} (h : ¬ r.sum < (S : Int)) : ∀ {n}, tieFold S ws m r n = r
  | 0 => rfl
  | n + 1 => by rw [tieFold_succ, tieFold_full h]; unfold tieStep; simp [h]

section
variable {W : Wk} {A : Around} {hid : PMap} {env : Env} {vars : Vars} {mu : Mu} {K : Out → Prop}

theorem tr_and2 {a b : Expr} {pos x y} (ha : Tr W A hid env vars mu a x) (hb : x = true → Tr W A hid env vars mu b y) : Tr W A hid env vars mu (.BoolOp .And [a, b] pos) (x && y) := by
  cases x
  · exact tr_bool (.stop ha rfl)
  · have := hb rfl
    cases y
    · exact tr_bool (.more ha rfl (.stop this rfl))
    · exact tr_bool (.more ha rfl (.more this rfl .nil))
theorem tr_or2 {a b : Expr} {pos x y} (ha : Tr W A hid env vars mu a x) (hb : x = false → Tr W A hid env vars mu b y) : Tr W A hid env vars mu (.BoolOp .Or [a, b] pos) (x || y) := by
  cases x
  · have := hb rfl
    cases y
    · exact tr_bool (.more ha rfl (.more this rfl .nil))
    · exact tr_bool (.more ha rfl (.stop this rfl))
  · exact tr_bool (.stop ha rfl)
theorem tr_name_bool {x : Str} {p b} (h : vars.lookup x = some (.bool b)) (hk : env.scope.kind = .function) (hf : ∀ v : Sem Value, isTrue (.Name x p) env v = (do let x ← v; standAt p; holding [x] (truthy x))) : Tr W A hid env vars mu (.Name x p) b :=
  tr_of (ev_name h hk) (show b = b from rfl) hf

abbrev vE (votes : List Int) (S : Nat) (ta b : Bool) (D : Addr) (ws : List (List Int)) (m : Int) : Vars := [("ties", .bool b), ("representatives", .loc D), ("minweight", .int m), ("weights", .list (ws.map listI)), ("votes", listI votes), ("seats", .int S), ("tiesallowed", .bool ta)]

theorem div_loop {a L : Addr} {dV kV doc pm an cdv ct} {votes : List Int} {S : Nat} {ws : List (List Int)} {D : Addr} {r1 : List Int} {m : Int} (N : Names W) (ao : AOk W A 0)
    (hv : votes.length ≤ 100) (hr1 : r1.length = votes.length) (hws : ws.length = votes.length)
    (hs : ∀ x, (scopeOf p1 "divisor").names.lookup x = some .local ∨ (scopeOf p1 "divisor").names.lookup x = some .cell → Sto hid (dEnv p1 a L dV kV doc pm an cdv ct) x) :
    Ex1 W A hid (dEnv p1 a L dV kV doc pm an cdv ct) (vE votes S true false D ws m) [(D, r1.map .int)] ((bodyOf p1 "divisor").getD 4 (.Pass default))
      (fun o => ∃ b, o = .next (vE votes S true b D ws m) [(D, (tieFold S ws m r1 votes.length).map .int)]) := by
  have E : EnvOk (dEnv p1 a L dV kV doc pm an cdv ct) := ⟨rfl, rfl, rfl⟩
  have loc : ∀ {D : Addr} {r : List PV} {mm : Mu}, AsList ((D, r) :: mm) (.loc D) r := fun {D r mm} => .inr ⟨D, rfl, .head _⟩
  refine ex_if (x := decide ((S : Int) > r1.sum)) (tr_cmp (ev_name rfl rfl) (ev_sum N E ao.handled (ev_name rfl rfl) loc rfl rfl) rfl c_gt) (fun e => ?_) (fun e => exs_nil ⟨false, by rw [tieFold_full (by have := of_decide_eq_false e; omega)]⟩)
  refine exs_cons (ex_for (K := fun o => ∃ b, o = .next (vE votes S true b D ws m) [(D, (tieFold S ws m r1 votes.length).map .int)]) (d := .rng 0 (votes.length : Int)) (its := (List.range votes.length).map fun (i : Nat) => PV.int (i : Int)) (fun i v mm => ∃ b, v = vE votes S true b D ws m ∧ mm = [(D, (tieFold S ws m r1 i).map .int)]) ao.handled ?_ (fun _ _ _ _ => src_rng (by omega)) ⟨false, rfl, rfl⟩ (hs _ (.inl rfl)) rfl rfl (fun _ => rfl) ?_ ?_) (fun v m ⟨b, e⟩ => exs_nil ⟨b, e⟩) (fun o e hn => e)
  · rw [show ((votes.length : Nat) : Int) = ((votes.map PV.int).length : Nat) by rw [List.length_map]]
    exact ev_range1 N E (ev_len N E (ev_name rfl rfl) AsList.list (by rw [List.length_map]; omega) rfl rfl) rfl rfl
  · rintro hid' i v mm x hsto hx ⟨b, rfl, rfl⟩
    rw [List.getElem?_map] at hx
    obtain ⟨i', hi1, rfl⟩ := Option.map_eq_some_iff.mp hx
    have hlt := lt_of_get hi1
    rw [List.length_range] at hlt
    rw [List.getElem?_range hlt] at hi1
    cases hi1
    have hin : ∀ {b : Bool}, Ev W A hid' (dEnv p1 a L dV kV doc pm an cdv ct) (("i", .int (i : Int)) :: vE votes S true b D ws m) [(D, (tieFold S ws m r1 i).map .int)] (.Name "weights" default) (.list (ws.map listI)) := ev_name rfl rfl
    have hlen : (tieFold S ws m r1 i).length = votes.length := by rw [tieFold_len, hr1]
    refine exs_cons (K' := fun o => ∃ b v', o = .next v' [(D, (tieFold S ws m r1 i).map .int)] ∧ Sub (("i", .int (i : Int)) :: vE votes S true b D ws m) v') (ex_if (x := ((tieFold S ws m r1 i).sum == (S : Int)) && has m (ws.getD i [])) ?_ (fun e => ?_) (fun e => exs_nil ⟨b, _, rfl, fun x d h => h⟩)) ?_ (fun o ⟨b, v', e, _⟩ hn => absurd e (hn _ _))
    · refine tr_and2 (tr_cmp (ev_sum N E ao.handled (ev_name rfl rfl) loc rfl rfl) (ev_name rfl rfl) rfl c_eq) fun _ => ?_
      exact tr_cmp (ev_name rfl rfl) (ev_lidx (xs := ws) (ev_name rfl rfl) (ev_name rfl rfl) AsList.list (by omega) (by omega)) rfl (c_ini AsList.list)
    · refine exs_cons (K' := fun o => ∃ b v', o = .next v' [(D, (tieFold S ws m r1 i).map .int)] ∧ Sub (("i", .int (i : Int)) :: vE votes S true b D ws m) v') (ex_if (x := !b) (tr_not (tr_name_bool rfl rfl fun _ => rfl)) (fun e => ?_) (fun e => exs_nil ⟨b, _, rfl, fun x d h => h⟩)) (fun v m e => exs_nil e) (fun o e _ => e)
      refine exs_next (ex_if (x := !true) (tr_not (tr_name_bool rfl rfl fun _ => rfl)) (fun e => nomatch e) (fun e => exs_nil rfl)) ?_
      exact exs_next (ex_assign ev_bool (hsto _ (hs _ (.inl rfl))) rfl rfl rfl) (exs_nil ⟨true, _, rfl, by walk_at "sub"⟩)
    · rintro v mm ⟨b, v', e, hsub⟩
      cases e
      refine run_forget hsub (List.Sublist.refl _) ?_
      refine exs_cons (K' := TurnK (fun v mm => ∃ b, v = vE votes S true b D ws m ∧ mm = [(D, (tieFold S ws m r1 (i + 1)).map .int)]) fun o => ∃ b, o = .next (vE votes S true b D ws m) [(D, (tieFold S ws m r1 votes.length).map .int)]) (ex_if (x := (decide ((tieFold S ws m r1 i).sum < (S : Int))) && has m (ws.getD i [])) ?_ (fun e => ?_) (fun e => ?_)) (fun v m e => exs_nil e) (fun o e _ => e)
      · refine tr_and2 (tr_cmp (ev_sum N E ao.handled (ev_name rfl rfl) loc rfl rfl) (ev_name rfl rfl) rfl c_lt) fun _ => ?_
        exact tr_cmp (ev_name rfl rfl) (ev_lidx (xs := ws) (ev_name rfl rfl) (ev_name rfl rfl) AsList.list (by omega) (by omega)) rfl (c_ini AsList.list)
      · have e2 : tieFold S ws m r1 (i + 1) = (tieFold S ws m r1 i).set i ((tieFold S ws m r1 i).getD i 0 + 1) := by
          rw [tieFold_succ]; unfold tieStep; rw [e]; rfl
        refine exs_next (ex_augitem (m1 := []) (m2 := []) (a := D) (k := (i : Int)) (ev_name rfl rfl) (ev_name rfl rfl) ev_int (by omega) (by rw [List.length_map]; omega) (by rw [List.length_map]; omega) (by rw [Int.toNat_natCast]; exact getD_map_int _ _ (by omega)) a_add (fun _ _ _ => rfl)) (exs_nil ⟨vE votes S true b D ws m, _, by walk_at "sub", List.Sublist.refl _, b, rfl, ?_⟩)
        rw [e2, Int.toNat_natCast, List.map_set]; rfl
      · have e2 : tieFold S ws m r1 (i + 1) = tieFold S ws m r1 i := by
          rw [tieFold_succ]; unfold tieStep; rw [e]; rfl
        refine exs_nil ⟨vE votes S true b D ws m, _, by walk_at "sub", List.Sublist.refl _, b, rfl, by rw [e2]⟩
  · rintro v mm ⟨b, rfl, rfl⟩
    rw [List.length_map, List.length_range]
    exact ⟨b, rfl⟩
end
end Mine
end

section
open PySem PySem.W PyProof.Rows PySem.Calls PySem.SeqAt
set_option linter.unusedVariables false
set_option maxRecDepth 100000
namespace Mine

local macro_rules | `(tactic| walk_at "sub") => `(tactic| repeat (first | exact .nil | refine .cons rfl ?_))

def cutOf (r0 fl : List Int) (S : Nat) : Int := fl.getD (idx (-(S : Int) + r0.sum) fl.length) 0
def divW (r : Rule) (votes : List Int) (S : Nat) : List (List Int) := wsOf r (common (divs r S)) (divs r S) votes
def divM (r : Rule) (votes : List Int) (S : Nat) : Int := cutOf (base r votes) (sortI (divW r votes S).flatten) S
def divR1 (r : Rule) (votes : List Int) (S : Nat) : List Int := if (S : Int) > (base r votes).sum then r1Of (base r votes) (divW r votes S) (divM r votes S) votes.length else base r votes
/-- what the divisor methods answer, ties allowed -/
def divF (r : Rule) (votes : List Int) (S : Nat) : List Int := tieFold S (divW r votes S) (divM r votes S) (divR1 r votes S) votes.length
def divTie (r : Rule) (votes : List Int) (S : Nat) : Bool := decide ((S : Int) > (base r votes).sum) && tieSeen S (divW r votes S) (divM r votes S) (divR1 r votes S) votes.length

theorem base_len (r : Rule) (v : List Int) : (base r v).length = v.length := by cases r <;> simp [base]
theorem sum_map_bound (v : List Int) (f : Int → Int) (h : ∀ p, 0 ≤ f p ∧ f p ≤ 1) : 0 ≤ (v.map f).sum ∧ (v.map f).sum ≤ v.length := by
  induction v with
  | nil => exact ⟨Int.le_refl _, Int.le_refl _⟩
  | cons p r ih =>
    have := h p
    rw [List.map_cons, List.sum_cons, List.length_cons]
    omega
theorem base_sum (r : Rule) (v : List Int) : 0 ≤ (base r v).sum ∧ (base r v).sum ≤ v.length := by
  cases r <;> exact sum_map_bound v _ (fun p => by first | (constructor <;> decide) | (split <;> decide))
theorem flat_len (r : Rule) (c : Int) (ds : List (Int × Int)) (votes : List Int) : (wsOf r c ds votes).flatten.length = votes.length * ds.length := by
  unfold wsOf
  induction votes with
  | nil => simp
  | cons p q ih => rw [List.map_cons, List.flatten_cons, List.length_append, ih, List.length_map, List.length_cons, Nat.succ_mul]; omega
theorem sortI_len (l : List Int) : (sortI l).length = l.length := (sortI_perm l).length_eq

structure DivPre (r : Rule) (votes : List Int) (S B : Nat) (nm : Str) : Prop where
  hS : S ≤ 60
  hn : 1 ≤ votes.length
  hv : votes.length ≤ 100
  free : ∀ q : Rule, q = .hill ∨ q = .adams ∨ q = .dean → r = q → votes.length ≤ S
  name : RuleName r nm
  size : votes.length * S < 64
  hB : ∀ p ∈ votes, p.natAbs < 2 ^ B
  hB2 : B ≤ 10 ^ 7

section
variable {W : Wk} {A : Around} {hid : PMap} {env : Env} {vars : Vars} {mu : Mu} {K : Out → Prop}

abbrev vT (votes : List Int) (S : Nat) (nm : Str) (ta : Bool) (D : Addr) (r : Rule) : Vars := [("representatives", .loc D), ("minweight", .int (divM r votes S)), ("weights", .list ((divW r votes S).map listI)), ("votes", listI votes), ("seats", .int S), ("tiesallowed", .bool ta)]
abbrev vT0 (votes : List Int) (S : Nat) (ta : Bool) (D : Addr) : Vars := [("representatives", .loc D), ("votes", listI votes), ("seats", .int S), ("tiesallowed", .bool ta)]

/-- up to the first deal -/
theorem div_deal {a L : Addr} {dV kV doc pm an cdv ct} {votes : List Int} {S B : Nat} {nm : Str} {ta : Bool} {r : Rule} (N : Names W) (ao : AOk W A 0) (P : DivPre r votes S B nm)
    (hs : ∀ x, (scopeOf p1 "divisor").names.lookup x = some .local ∨ (scopeOf p1 "divisor").names.lookup x = some .cell → Sto hid (dEnv p1 a L dV kV doc pm an cdv ct) x) {rest : List Stmt} {K}
    (kt : (S : Int) > (base r votes).sum → ∀ D, Exs W A hid (dEnv p1 a L dV kV doc pm an cdv ct) (vT votes S nm ta D r) [(D, (divR1 r votes S).map .int)] rest K)
    (ke : ¬ (S : Int) > (base r votes).sum → ∀ D, Exs W A hid (dEnv p1 a L dV kV doc pm an cdv ct) (vT0 votes S ta D) [(D, (divR1 r votes S).map .int)] rest K) :
    Exs W A hid (dEnv p1 a L dV kV doc pm an cdv ct) [("votes", listI votes), ("seats", .int S), ("method", .str nm), ("tiesallowed", .bool ta)] [] ((bodyOf p1 "divisor").take 3 ++ rest) K := by
  have E : EnvOk (dEnv p1 a L dV kV doc pm an cdv ct) := ⟨rfl, rfl, rfl⟩
  have hv := P.hv
  have hn := P.hn
  have hbl := base_len r votes
  have hbs := base_sum r votes
  show Exs _ _ _ _ _ _ ((bodyOf p1 "divisor").getD 0 (.Pass default) :: (bodyOf p1 "divisor").getD 1 (.Pass default) :: (bodyOf p1 "divisor").getD 2 (.Pass default) :: rest) K
  refine exs_own (ds := (votes.map fun _ => (0 : Int)).map .int) (ex_own ?_ (hs _ (.inr rfl)) rfl rfl rfl) (fun D => ?_)
  · have e : (votes.map fun _ => (0 : Int)).map PV.int = List.replicate (((votes.map PV.int).length : Nat) : Int).toNat (.int 0) := by
      rw [List.map_map, Int.toNat_natCast, List.length_map]
      exact List.map_const' ..
    rw [e]
    exact evnew_rep (evargs_cons ev_int evargs_nil rfl) (ev_len N E (ev_name rfl rfl) AsList.list (by rw [List.length_map]; omega) rfl rfl) (by omega) (by rw [List.length_map]; omega)
  refine exs_cons (div_part1 N ao P.hS hn hv P.free P.name hs) ?_ (fun o ⟨D', v, m, e, _⟩ hn => absurd e (hn _ _))
  rintro v m ⟨D', v', m', e, hsub, hmu⟩
  cases e
  refine run_forget hsub hmu ?_
  by_cases hgt : (S : Int) > (base r votes).sum
  · have hS1 : 1 ≤ S := by omega
    have hdl := divs_len r S hS1
    have hdo := divsOk r S P.hS
    have hco := common_ok hdo
    have hfl : (divW r votes S).flatten.length = votes.length * S := by unfold divW; rw [flat_len, hdl]
    have hsl := sortI_len (divW r votes S).flatten
    have hwl : (divW r votes S).length = votes.length := by unfold divW wsOf; rw [List.length_map]
    have hin : ∀ l ∈ divW r votes S, l.length ≤ S := by
      intro l hl
      unfold divW wsOf at hl
      obtain ⟨p, _, rfl⟩ := List.mem_map.mp hl
      rw [List.length_map, hdl]; exact Nat.le_refl _
    have hsz := P.size
    have hle : S ≤ votes.length * S := Nat.le_mul_of_pos_left _ hn
    refine exs_cons (K' := fun o => ∃ D v m, o = .next v m ∧ Sub (vT votes S nm ta D r) v ∧ [(D, (divR1 r votes S).map .int)].Sublist m) (ex_if (x := decide ((S : Int) > (base r votes).sum)) (tr_cmp (ev_name rfl rfl) (ev_sum N E ao.handled (ev_name rfl rfl) (.inr ⟨D', rfl, .head _⟩) rfl rfl) rfl c_gt) (fun _ => ?_) (fun e => absurd hgt (of_decide_eq_false e))) ?_ (fun o ⟨D', v, m, e, _⟩ hn => absurd e (hn _ _))
    · refine exs_next (ex_assign ev_int (hs _ (.inr rfl)) rfl rfl rfl) ?_
      refine exs_next (div_common N ao hdo (by rw [hdl]; exact P.hS) hs) ?_
      refine exs_next (div_weights N ao hdo (by rw [hdl]; exact P.hS) P.name hv P.hB P.hB2 (Nat.lt_of_lt_of_le hco.2 (Nat.pow_le_pow_right (by decide) (by rw [hdl]; have := P.hS; omega))) hs) ?_
      refine exs_next (div_flat (ws := divW r votes S) (M := S) N ao hin (by rw [hwl]; omega) (by rw [hfl]; exact hsz) hs) ?_
      refine exs_next (div_min N ao (by rw [hsl, hfl]; omega) (by omega) (by rw [hsl, hfl]; exact hsz) hs) ?_
      refine exs_own (div_reps N ao hv hbl hwl (fun l hl => by have := hin l hl; have := P.hS; omega) hs) (fun D2 => exs_nil ⟨D2, _, _, rfl, by walk_at "sub", ?_⟩)
      have e : divR1 r votes S = r1Of (base r votes) (divW r votes S) (divM r votes S) votes.length := if_pos hgt
      rw [e]
      exact List.Sublist.cons_cons _ (List.nil_sublist _)
    · rintro v m ⟨D2, v2, m2, e, hsub2, hmu2⟩
      cases e
      exact run_forget hsub2 hmu2 (kt hgt D2)
  · refine exs_next (ex_if (x := decide ((S : Int) > (base r votes).sum)) (tr_cmp (ev_name rfl rfl) (ev_sum N E ao.handled (ev_name rfl rfl) (.inr ⟨D', rfl, .head _⟩) rfl rfl) rfl c_gt) (fun e => absurd (of_decide_eq_true e) hgt) (fun _ => exs_nil rfl)) ?_
    have e : divR1 r votes S = base r votes := if_neg hgt
    have := ke hgt D'
    rw [e] at this
    exact run_forget (by walk_at "sub") (List.Sublist.refl _) this

theorem div_spec {a : Addr} {T : Addr} {oT : Obj} {dv : Value} {nT : Nat} {votes : List Int} {S B : Nat} {nm : Str} {r : Rule} (N : Names W) (DA : DefAt W p1 "divisor" a (.ref T)) (hT : W.base.get? T = some oT) (hTd : oT.data = .seq #[dv] nT) (P : DivPre r votes S B nm) :
    Fn W (.ref a) 1 [listI votes, .int S, .str nm, .bool true] (listI (divF r votes S)) := by
  obtain ⟨hm, kV, doc, pm, an, cdv, ct, F⟩ := DA
  refine fn_intro N.ok F [("votes", listI votes), ("seats", .int S), ("method", .str nm), ("tiesallowed", .bool true)] ["votes", "seats", "method", "tiesallowed"] rfl (by show paramsOk (scopeOf p1 "divisor") _ = true; decide +kernel) (by decide +kernel) ?_ ?_
  · intro g h t us kb kg is
    cases is with
    | cons i1 is => cases is with
      | cons i2 is => cases is with
        | cons i3 is => cases is with
          | cons i4 is =>
            cases is
            exact ⟨_, BindsTo.of_defaults rfl (kb _ _ hT) hTd rfl rfl, .cons i1 (.cons i2 (.cons i3 (.cons i4 .nil)))⟩
  · intro A hid L ao hs
    have E : EnvOk (dEnv p1 a L (.ref T) kV doc pm an cdv ct) := ⟨rfl, rfl, rfl⟩
    show Exs _ _ _ _ _ _ ((bodyOf p1 "divisor").take 3 ++ (bodyOf p1 "divisor").drop 3) _
    have hbl := base_len r votes
    have hl1 : (divR1 r votes S).length = votes.length := by unfold divR1 r1Of; split <;> simp [hbl]
    have hwl : (divW r votes S).length = votes.length := by unfold divW wsOf; rw [List.length_map]
    refine div_deal N ao P hs (fun hgt D => ?_) (fun hgt D => ?_)
    · refine exs_next (ex_assign ev_bool (hs _ (.inl rfl)) rfl rfl rfl) ?_
      refine exs_cons (K' := fun o => ∃ b, o = .next (vE votes S true b D (divW r votes S) (divM r votes S)) [(D, (divF r votes S).map .int)]) (div_loop N ao P.hv hl1 hwl hs) ?_ (fun o ⟨b, e⟩ hn => absurd e (hn _ _))
      rintro v m ⟨b, e⟩
      cases e
      refine exs_next (ex_if (x := (b && !true)) (tr_and2 (tr_name_bool rfl rfl fun _ => rfl) fun _ => tr_not (tr_name_bool rfl rfl fun _ => rfl)) (fun e => by cases b <;> cases e) (fun _ => exs_nil rfl)) ?_
      exact exs_cons (ex_retloc (ev_name rfl rfl) (.head _)) (fun v m e => nomatch e) (fun o e _ => .inl e)
    · refine exs_next (ex_assign ev_bool (hs _ (.inl rfl)) rfl rfl rfl) ?_
      have e : divR1 r votes S = base r votes := if_neg hgt
      have e2 : divF r votes S = divR1 r votes S := by unfold divF; rw [tieFold_full (by rw [e]; omega)]
      refine exs_next (ex_if (x := false) ?_ (fun e => nomatch e) (fun _ => exs_nil rfl)) ?_
      · rw [show false = decide ((S : Int) > (divR1 r votes S).sum) by rw [e]; simpa using hgt]
        exact tr_cmp (ev_name rfl rfl) (ev_sum N E ao.handled (ev_name rfl rfl) (.inr ⟨D, rfl, .head _⟩) rfl rfl) rfl c_gt
      refine exs_next (ex_if (x := (false && !true)) (tr_and2 (tr_name_bool rfl rfl fun _ => rfl) fun _ => tr_not (tr_name_bool rfl rfl fun _ => rfl)) (fun e => nomatch e) (fun _ => exs_nil rfl)) ?_
      rw [e2]
      exact exs_cons (ex_retloc (ev_name rfl rfl) (.head _)) (fun v m e => nomatch e) (fun o e _ => .inl e)
end
end Mine
end

section
open PySem PySem.W PyProof.Rows PySem.Calls PySem.SeqAt
set_option linter.unusedVariables false
set_option maxRecDepth 100000
namespace Mine

local macro_rules | `(tactic| walk_at "ev") => `(tactic| first
  | exact ev_int | exact ev_bool | exact ev_none | exact ev_str
  | exact ev_name rfl rfl
  | (refine ev_add ?_ ?_ <;> walk_at "ev")
  | (refine ev_sub ?_ ?_ <;> walk_at "ev")
  | (refine ev_neg ?_ <;> walk_at "ev"))
local macro_rules | `(tactic| walk_at "args") => `(tactic| first
  | exact evargs_nil
  | (refine evargs_cons ?_ ?_ rfl; (walk_at "ev"); (walk_at "args")))

theorem evargs_str {W : Wk} {A : Around} {hid : PMap} {env : Env} {vars : Vars} {mu : Mu} {x : Str} {k : Nat} {p : Pos} {es ds} (h : EvArgs W A hid env vars mu es ds) : EvArgs W A hid env vars mu (.Constant (.str x) k p :: es) (.str x :: ds) := evargs_cons ev_str h rfl
def allNames : List Str := ["dhondt", "jefferson", "saintelague", "webster", "modified_saintelague", "huntington", "hill", "adams", "dean", "smallestdivisor", "harmonicmean", "equalproportions", "majorfractions", "greatestdivisors"]
def lrNames : List Str := ["lrm", "hamilton", "largest_remainder"]
def allR : List Rule := [.jeff, .web, .modi, .hill, .adams, .dean]
theorem mem_allR : ∀ r : Rule, r ∈ allR := by intro r; cases r <;> decide
def nameOk (r : Rule) (x : Str) : Bool := !(x == ("quota" : Str)) && !(lrNames.any (· == x)) && allNames.any (· == x) && allR.all fun q => (ruleNames q).any (· == x) == decide (q = r)
theorem nameOks : (allR.all fun r => (ruleNames r).all (nameOk r)) = true := by decide +kernel
theorem names_ok (r : Rule) (x : Str) (hx : x ∈ ruleNames r) : (x == ("quota" : Str)) = false ∧ lrNames.any (· == x) = false ∧ allNames.any (· == x) = true ∧ ∀ q : Rule, (ruleNames q).any (· == x) = decide (q = r) := by
  have h := List.all_eq_true.mp (List.all_eq_true.mp nameOks r (mem_allR r)) x hx
  unfold nameOk at h
  simp only [Bool.and_eq_true, Bool.not_eq_true'] at h
  obtain ⟨⟨⟨h1, h2⟩, h3⟩, h4⟩ := h
  exact ⟨h1, h2, h3, fun q => by simpa using List.all_eq_true.mp h4 q (mem_allR q)⟩

section
variable {W : Wk} {A : Around} {hid : PMap} {env : Env} {vars : Vars} {mu : Mu} {K : Out → Prop}

theorem ev_call_def {x : Str} {np pos : Pos} {a : Addr} {dV : Value} {n : Nat} {e : Expr} {es : List Expr} {ds : List PV} {d : PV} (N : Names W) (E : EnvOk env) (ao : AOk W A n) (DA : DefAt W p1 x a dV) (hx : env.kindOf x = some .globalImplicit) (hdb : (x == ("__debug__" : Str)) = false)
    (ha : EvArgs W A hid env vars mu (e :: es) ds) (hf : Fn W (.ref a) n ds d) (hs : starEach (e :: es) env = (false, eval e env) :: starEach es env) : Ev W A hid env vars mu (.Call (.Name x np) (e :: es) [] pos) d := by
  obtain ⟨hm, kV, doc, pm, an, cdv, ct, F⟩ := DA
  obtain ⟨o, ho, hd⟩ := F.obj
  exact ev_call_fn N.ok ao (gname_g E hm hx hdb) ho hd ha hf hs

/-- the defs of the text -/
structure Defs (W : Wk) where
  nm : Names W
  at_ : Addr
  hat : DefAt W p1 "apply_threshold" at_ .none
  dv : Addr
  dvT : Addr
  dvo : Obj
  dvv : Value
  dvn : Nat
  hdv : DefAt W p1 "divisor" dv (.ref dvT)
  hdvT : W.base.get? dvT = some dvo
  hdvd : dvo.data = .seq #[dvv] dvn
  cp : Addr
  cpT : Addr
  cpo : Obj
  cpn : Nat
  hcp : DefAt W p1 "compute" cp (.ref cpT)
  hcpT : W.base.get? cpT = some cpo
  hcpd : cpo.data = .seq #[.none, .bool true] cpn

theorem at_spec (D : Defs W) (l : List PV) : Fn W (.ref D.at_) 1 [.list l, .none] (.list l) := by
  obtain ⟨hm, kV, doc, pm, an, cdv, ct, F⟩ := D.hat
  refine fn_intro D.nm.ok F [("votes", .list l), ("threshold", .none)] ["votes", "threshold"] rfl (by show paramsOk (scopeOf p1 "apply_threshold") _ = true; decide +kernel) (by decide +kernel) ?_ ?_
  · intro g h t us kb kg is
    cases is with
    | cons i1 is => cases is with
      | cons i2 is =>
        cases is
        exact ⟨_, BindsTo.of_eq rfl, .cons i1 (.cons i2 .nil)⟩
  · intro A hid L ao hs
    refine exs_cons (K' := (· = .ret (.list l))) (ex_if (x := false) (tr_cmp (ev_name rfl rfl) ev_none rfl (c_isnn (by intro v e; cases e))) (fun e => by cases e) (fun _ => ?_)) (fun v m e => by cases e) (fun o e _ => .inl e)
    refine exs_cons (ex_ret (ev_name rfl rfl)) (fun v m e => by cases e) (fun o e _ => e)

set_option maxHeartbeats 400000 in
theorem cp_spec (D : Defs W) {votes : List Int} {S B : Nat} {nm : Str} {r : Rule} (hr : nm ∈ ruleNames r) (P : DivPre r votes S B nm) :
    Fn W (.ref D.cp) 2 [.str nm, listI votes, .int S] (listI (divF r votes S)) := by
  have N := D.nm
  obtain ⟨n1, n2, n3, n4⟩ := names_ok r nm hr
  obtain ⟨hm, kV, doc, pm, an, cdv, ct, F⟩ := D.hcp
  refine fn_intro N.ok F [("method", .str nm), ("votes", listI votes), ("seats", .int S), ("threshold", .none), ("tiesallowed", .bool true)] ["method", "votes", "seats", "threshold", "tiesallowed"] rfl (by show paramsOk (scopeOf p1 "compute") _ = true; decide +kernel) (by decide +kernel) ?_ ?_
  · intro g h t us kb kg is
    cases is with
    | cons i1 is => cases is with
      | cons i2 is => cases is with
        | cons i3 is =>
          cases is
          exact ⟨_, BindsTo.of_defaults rfl (kb _ _ D.hcpT) D.hcpd rfl rfl, .cons i1 (.cons i2 (.cons i3 (.cons .none (.cons .bool .nil))))⟩
  · intro A hid L ao hs
    refine exs_next (ex_assign (ev_call_def N ⟨rfl, rfl, rfl⟩ ao D.hat rfl (by decide +kernel) (by walk_at "args") (at_spec D _) rfl) (hs _ (.inl rfl)) rfl rfl rfl) ?_
    refine exs_cons (K' := (· = .ret (listI (divF r votes S)))) (ex_if (x := (nm == ("quota" : Str))) (tr_cmp (ev_name rfl rfl) ev_str rfl c_eqs) (fun e => by rw [n1] at e; cases e) (fun _ => ?_)) (fun v m e => by cases e) (fun o e _ => .inl e)
    refine exs_cons (K' := (· = .ret (listI (divF r votes S)))) (ex_if (x := lrNames.any (· == nm)) ?_ (fun e => by rw [n2] at e; cases e) (fun _ => ?_)) (fun v m e => by cases e) (fun o e _ => e)
    · refine ev_in (ns := lrNames) (d := .list (lrNames.map PV.str)) (ev_name rfl rfl) ?_ ?_ rfl
      · refine ev_list ?_ ?_
        · iterate 3 refine evargs_str ?_
          exact evargs_nil
        · exact Nat.le_of_ble_eq_true rfl
      · exact AsList.list
    refine exs_cons (K' := (· = .ret (listI (divF r votes S)))) (ex_if (x := allNames.any (· == nm)) ?_ (fun _ => ?_) (fun e => by rw [n3] at e; cases e)) (fun v m e => by cases e) (fun o e _ => e)
    · refine ev_in (ns := allNames) (d := .list (allNames.map PV.str)) (ev_name rfl rfl) ?_ ?_ rfl
      · refine ev_list ?_ ?_
        · iterate 14 refine evargs_str ?_
          exact evargs_nil
        · exact Nat.le_of_ble_eq_true rfl
      · exact AsList.list
    exact exs_cons (ex_ret (ev_call_def N ⟨rfl, rfl, rfl⟩ ao D.hdv rfl (by decide +kernel) (by walk_at "args") (div_spec N D.hdv D.hdvT D.hdvd P) rfl)) (fun v m e => by cases e) (fun o e _ => e)
end
end Mine
end

section
open PySem PySem.W PyProof.Rows PySem.Calls PySem.SeqAt
set_option linter.unusedVariables false
set_option maxRecDepth 100000
namespace Mine
section
variable {W : Wk} {A : Around} {hid : PMap} {env : Env} {vars : Vars} {mu : Mu} {K K' : Out → Prop}

theorem c_neb {a b : Bool} : Op W A hid env vars mu [.bool a, .bool b] (fun us => compareOp .NotEq (us.getD 0 .none) (us.getD 1 .none)) (.bool (a != b)) :=
  op2 fun g h t u v Q E R i j k => by cases i; cases j; exact PyProof.Rows.ne_bool (k _ g h t (Le.refl g) R .bool)
/-- a name of the text's top that stands for data -/
structure GData (W : Wk) (x : Str) (d : PV) : Prop where
  v : ∃ v, W.mg x = some v ∧ Is (fun a => W.base.get? a) d v
theorem ev_gdata {x : Str} {pos : Pos} {d} (N : Names W) (E : EnvOk env) (G : GData W x d) (hx : env.kindOf x = some .globalImplicit) (hd : (x == ("__debug__" : Str)) = false) : Ev W A hid env vars mu (.Name x pos) d := fun g h t Q Ee R k => by
  obtain ⟨v, hm, i⟩ := G.v
  exact name_global N.ok (gname_g E hm hx hd) R (k v g h t (Le.refl g) R (i.mono fun a o e => R.bs a o e))

/-- loops over numbers, over data -/
theorem ex_for_xs {α : Type} {x : Str} {p pos : Pos} {e : Expr} {body : List Stmt} {d : PV} (mk : α → PV) (xs : List α) (J : Nat → Vars → Mu → Prop) (hh : A.handled = none) (he : Ev W A hid env vars mu e d) (hsrc : ∀ i v m, J i v m → Src m d (xs.map mk)) (h0 : J 0 vars mu)
    (hs : Sto hid env x) (hk : env.scope.kind = .function) (hd : (x == ("__debug__" : Str)) = false) (hf : ∀ x, foldedSetIterable e env x = pure x)
    (turn : ∀ hid' i v m a, (∀ y, Sto hid env y → Sto hid' env y) → xs[i]? = some a → J i v m → Exs W A hid' env ((x, mk a) :: v) m body (TurnK (J (i + 1)) K))
    (done : ∀ v m, J xs.length v m → K (.next v m)) : Ex1 W A hid env vars mu (.For (.Name x p) e body [] pos) K := by
  refine ex_for J hh he hsrc h0 hs hk hd hf (fun hid' i v m a hsto ha hJ => ?_) (fun v m hJ => done v m (by rw [List.length_map] at hJ; exact hJ))
  rw [List.getElem?_map] at ha
  obtain ⟨b, hb, rfl⟩ := Option.map_eq_some_iff.mp ha
  exact turn hid' i v m b hsto hb hJ
theorem ex_for_rng {x : Str} {p pos : Pos} {e : Expr} {body : List Stmt} {n : Nat} (J : Nat → Vars → Mu → Prop) (hh : A.handled = none) (he : Ev W A hid env vars mu e (.rng 0 (n : Int))) (hn : n < 2 ^ 61) (h0 : J 0 vars mu)
    (hs : Sto hid env x) (hk : env.scope.kind = .function) (hd : (x == ("__debug__" : Str)) = false) (hf : ∀ x, foldedSetIterable e env x = pure x)
    (turn : ∀ hid' i v m, (∀ y, Sto hid env y → Sto hid' env y) → i < n → J i v m → Exs W A hid' env ((x, .int (i : Int)) :: v) m body (TurnK (J (i + 1)) K))
    (done : ∀ v m, J n v m → K (.next v m)) : Ex1 W A hid env vars mu (.For (.Name x p) e body [] pos) K := by
  refine ex_for_xs (fun (i : Nat) => PV.int (i : Int)) (List.range n) J hh he (fun _ _ _ _ => src_rng hn) h0 hs hk hd hf (fun hid' i v m a hsto ha hJ => ?_) (fun v m hJ => done v m (by rw [List.length_range] at hJ; exact hJ))
  have hlt := lt_of_get ha
  rw [List.length_range] at hlt
  rw [List.getElem?_range hlt] at ha
  cases ha
  exact turn hid' i v m hsto hlt hJ
theorem ex_for_rng1 {x : Str} {p pos : Pos} {e : Expr} {body : List Stmt} {n : Nat} (J : Nat → Vars → Mu → Prop) (hh : A.handled = none) (he : Ev W A hid env vars mu e (.rng 1 (n : Int))) (hn : n < 2 ^ 61) (h0 : J 0 vars mu)
    (hs : Sto hid env x) (hk : env.scope.kind = .function) (hd : (x == ("__debug__" : Str)) = false) (hf : ∀ x, foldedSetIterable e env x = pure x)
    (turn : ∀ hid' i v m, (∀ y, Sto hid env y → Sto hid' env y) → i < n - 1 → J i v m → Exs W A hid' env ((x, .int ((i + 1 : Nat) : Int)) :: v) m body (TurnK (J (i + 1)) K))
    (done : ∀ v m, J (n - 1) v m → K (.next v m)) : Ex1 W A hid env vars mu (.For (.Name x p) e body [] pos) K := by
  refine ex_for_xs (fun (i : Nat) => PV.int (1 + (i : Int))) (List.range (n - 1)) J hh he (fun _ _ _ _ => src_rng1 hn) h0 hs hk hd hf (fun hid' i v m a hsto ha hJ => ?_) (fun v m hJ => done v m (by rw [List.length_range] at hJ; exact hJ))
  have hlt := lt_of_get ha
  rw [List.length_range] at hlt
  rw [List.getElem?_range hlt] at ha
  cases ha
  have := turn hid' i v m hsto hlt hJ
  rw [show ((i + 1 : Nat) : Int) = 1 + (i : Int) by omega] at this
  exact this

theorem tr_and3 {a b c : Expr} {pos x y z} (ha : Tr W A hid env vars mu a x) (hb : x = true → Tr W A hid env vars mu b y) (hc : x = true → y = true → Tr W A hid env vars mu c z) : Tr W A hid env vars mu (.BoolOp .And [a, b, c] pos) (x && y && z) := by
  cases x
  · exact tr_bool (.stop ha rfl)
  · have hb := hb rfl
    cases y
    · exact tr_bool (.more ha rfl (.stop hb rfl))
    · have hc := hc rfl rfl
      cases z
      · exact tr_bool (.more ha rfl (.more hb rfl (.stop hc rfl)))
      · exact tr_bool (.more ha rfl (.more hb rfl (.more hc rfl .nil)))
/-- a and b, a or b, as truth values -/
theorem ev_or2b {a b : Expr} {pos} {x y : Bool} (ha : Ev W A hid env vars mu a (.bool x)) (hb : x = false → Ev W A hid env vars mu b (.bool y)) : Ev W A hid env vars mu (.BoolOp .Or [a, b] pos) (.bool (x || y)) :=
  ev_or (x := x) ha rfl (fun e => by subst e; rfl) (fun e => by subst e; exact hb rfl)
theorem ev_and2b {a b : Expr} {pos} {x y : Bool} (ha : Ev W A hid env vars mu a (.bool x)) (hb : x = true → Ev W A hid env vars mu b (.bool y)) : Ev W A hid env vars mu (.BoolOp .And [a, b] pos) (.bool (x && y)) :=
  ev_and (x := x) ha rfl (fun e => by subst e; rfl) (fun e => by subst e; exact hb rfl)

theorem ev_sortedP {e : Expr} {np pos : Pos} {d} {ps : List (Int × Int)} (N : Names W) (E : EnvOk env) (he : Ev W A hid env vars mu e d) (hl : AsList mu d (ps.map pairI)) (h64 : ps.length < 64) (hok : ps.length < 2 ∨ asksOk ps.length (kas_sort ps.length) = true) (hpl : (permP ps).length = ps.length) (hpm : ∀ i ∈ permP ps, i < ps.length)
    (hx : env.kindOf "sorted" = some .globalImplicit) (hs : starEach [e] env = [(false, eval e env)]) :
    Ev W A hid env vars mu (.Call (.Name "sorted" np) [e] [] pos) (.list ((sortP ps).map pairI)) := ev_call_builtin N.ok (gname_b E N.sorted (by decide) boot_sorted hx (by decide)) (args1 he hs) (op_sortedP hl h64 hok hpl hpm) hs rfl

theorem evargs3 {e f k : Expr} {d1 d2 d3} (h1 : Ev W A hid env vars mu e d1) (h2 : Ev W A hid env vars mu f d2) (h3 : Ev W A hid env vars mu k d3) (hs : starEach [e, f, k] env = [(false, eval e env), (false, eval f env), (false, eval k env)]) (hs2 : starEach [f, k] env = [(false, eval f env), (false, eval k env)]) (hs3 : starEach [k] env = [(false, eval k env)]) :
    EvArgs W A hid env vars mu [e, f, k] [d1, d2, d3] := evargs_cons h1 (evargs_cons h2 (args1 h3 hs3) (by rw [hs2, hs3])) (by rw [hs, hs2])
end

theorem fmod_lt (a : Int) {b : Nat} (h : 0 < b) : ∃ u : Nat, u < b ∧ a.fmod (b : Int) = (u : Int) := by
  have h1 := Int.fmod_nonneg_of_pos a (show (0 : Int) < b by omega)
  have h2 := Int.fmod_lt_of_pos a (show (0 : Int) < b by omega)
  exact ⟨(a.fmod b).toNat, by omega, by omega⟩
end Mine
end

section
set_option linter.unusedVariables false
open PySem PySem.W PyProof.Rows
namespace Mine

def listsOf (n : Nat) : Nat → List (List Nat)
  | 0 => [[]]
  | k + 1 => (listsOf n k).flatMap fun r => (List.range n).map fun x => x :: r
theorem mem_listsOf {n : Nat} : ∀ {k : Nat} {l : List Nat}, l.length = k → (∀ x ∈ l, x < n) → l ∈ listsOf n k
  | 0, l, h, _ => by rw [List.length_eq_zero_iff.mp h]; exact .head _
  | k + 1, [], h, _ => by simp at h
  | k + 1, x :: r, h, hx => by
    unfold listsOf
    rw [List.mem_flatMap]
    exact ⟨r, mem_listsOf (by simpa using h) (fun y hy => hx y (List.mem_cons_of_mem _ hy)), List.mem_map.mpr ⟨x, List.mem_range.mpr (hx x List.mem_cons_self), rfl⟩⟩
def okRun (n : Nat) (rk : List Nat) : Bool :=
  let p := (runT (kas_sort n) fun i j => decide (rk.getD i 0 < rk.getD j 0)).toList
  p.length == n && p.all (fun i => decide (i < n)) && (List.range n).all (fun i => p.contains i) && (List.range (n - 1)).all fun k => decide (rk.getD (p.getD k 0) 0 ≤ rk.getD (p.getD (k + 1) 0) 0)
def nodupB : List Nat → Bool
  | [] => true
  | x :: r => !r.contains x && nodupB r
theorem nodupB_of : ∀ {l : List Nat}, l.Nodup → nodupB l = true
  | [], _ => rfl
  | x :: r, h => by
    obtain ⟨h1, h2⟩ := List.nodup_cons.mp h
    unfold nodupB
    rw [nodupB_of h2]
    have : r.contains x = false := by
      cases e : r.contains x with
      | false => rfl
      | true => exact absurd (List.contains_iff_mem.mp e) h1
    rw [this]; rfl
theorem okRuns : ∀ n, n < 6 → 2 ≤ n → (listsOf n n).all (fun l => !nodupB l || okRun n l) = true := by decide +kernel
theorem asks5 : ∀ n, n < 6 → 2 ≤ n → asksOk n (kas_sort n) = true := by decide +kernel

theorem runT_congr {α : Type} {n : Nat} {c c' : Nat → Nat → Bool} (h : ∀ i j, i < n → j < n → c i j = c' i j) : ∀ t : KasT α, asksOk n t = true → runT t c = runT t c'
  | .ret a, _ => rfl
  | .ask i j k, hk => by
    have h' : (decide (i < n) && decide (j < n) && asksOk n (k true) && asksOk n (k false)) = true := hk
    simp only [Bool.and_eq_true, decide_eq_true_eq] at h'
    obtain ⟨⟨⟨h1, h2⟩, h3⟩, h4⟩ := h'
    show runT (k (c i j)) c = runT (k (c' i j)) c'
    rw [h i j h1 h2]
    have : asksOk n (k (c' i j)) = true := by cases c' i j; exact h4; exact h3
    exact runT_congr h (k (c' i j)) this

theorem lexlt_iff {x y : Int × Int} : lexlt x y = true ↔ x.1 < y.1 ∨ (x.1 = y.1 ∧ x.2 < y.2) := by
  unfold lexlt
  by_cases h1 : x.1 = y.1
  · by_cases h2 : x.2 = y.2
    · simp [h1, h2]
    · simp [h1, h2]
  · simp [h1]
def rankOf (ps : List (Int × Int)) (i : Nat) : Nat := ((List.range ps.length).filter fun k => askP ps k i).length
theorem filter_len_lt {α : Type} {p q : α → Bool} : ∀ {l : List α}, (∀ x ∈ l, p x = true → q x = true) → (∃ x ∈ l, p x = false ∧ q x = true) → (l.filter p).length < (l.filter q).length
  | [], _, ⟨x, h, _⟩ => by cases h
  | a :: r, h, hx => by
    have hle : (r.filter p).length ≤ (r.filter q).length := by
      have : ∀ l : List α, (∀ x ∈ l, p x = true → q x = true) → (l.filter p).length ≤ (l.filter q).length := by
        intro l
        induction l with
        | nil => intro _; exact Nat.le_refl _
        | cons b s ih =>
          intro hs
          have := ih fun x hx => hs x (List.mem_cons_of_mem _ hx)
          rw [List.filter_cons, List.filter_cons]
          by_cases hb : p b = true
          · rw [if_pos hb, if_pos (hs b List.mem_cons_self hb)]; simpa using this
          · rw [if_neg hb]; split <;> simp <;> omega
      exact this r fun x hx => h x (List.mem_cons_of_mem _ hx)
    rw [List.filter_cons, List.filter_cons]
    by_cases ha : p a = true
    · have hqa := h a List.mem_cons_self ha
      rw [if_pos ha, if_pos hqa]
      have := filter_len_lt (p := p) (q := q) (l := r) (fun x hx => h x (List.mem_cons_of_mem _ hx)) (by
        obtain ⟨x, hx, h1, h2⟩ := hx
        rcases List.mem_cons.mp hx with rfl | hx
        · rw [ha] at h1; cases h1
        · exact ⟨x, hx, h1, h2⟩)
      simpa using this
    · rw [if_neg ha]
      by_cases hqa : q a = true
      · rw [if_pos hqa]; simp; omega
      · rw [if_neg hqa]
        exact filter_len_lt (fun x hx => h x (List.mem_cons_of_mem _ hx)) (by
          obtain ⟨x, hx, h1, h2⟩ := hx
          rcases List.mem_cons.mp hx with rfl | hx
          · rw [h2] at hqa; exact absurd rfl hqa
          · exact ⟨x, hx, h1, h2⟩)
theorem rank_ask {ps : List (Int × Int)} {i j : Nat} (hi : i < ps.length) (hj : j < ps.length) : decide (rankOf ps i < rankOf ps j) = askP ps i j := by
  have key : ∀ {i j}, i < ps.length → askP ps i j = true → rankOf ps i < rankOf ps j := by
    intro i j hi h
    refine filter_len_lt (fun k _ hk => ?_) ⟨i, List.mem_range.mpr hi, ?_, h⟩
    · unfold askP at *
      rw [lexlt_iff] at *
      omega
    · unfold askP
      cases e : lexlt (ps.getD i (0, 0)) (ps.getD i (0, 0)) with
      | false => rfl
      | true => rw [lexlt_iff] at e; omega
  cases h : askP ps i j with
  | true => exact decide_eq_true (key hi h)
  | false =>
    refine decide_eq_false fun hlt => ?_
    cases h2 : askP ps j i with
    | true => have := key hj h2; omega
    | false =>
      have e : ps.getD i (0, 0) = ps.getD j (0, 0) := by
        unfold askP at h h2
        have a1 : ¬ lexlt (ps.getD i (0, 0)) (ps.getD j (0, 0)) = true := by rw [h]; simp
        have a2 : ¬ lexlt (ps.getD j (0, 0)) (ps.getD i (0, 0)) = true := by rw [h2]; simp
        rw [lexlt_iff] at a1 a2
        exact Prod.ext (by omega) (by omega)
      have : rankOf ps i = rankOf ps j := by unfold rankOf askP; rw [e]
      omega
theorem rank_lt {ps : List (Int × Int)} {i : Nat} (hi : i < ps.length) : rankOf ps i < ps.length := by
  have : rankOf ps i < ((List.range ps.length).filter fun _ => true).length := by
    refine filter_len_lt (fun k _ hk => rfl) ⟨i, List.mem_range.mpr hi, ?_, rfl⟩
    unfold askP
    cases e : lexlt (ps.getD i (0, 0)) (ps.getD i (0, 0)) with
    | false => rfl
    | true => rw [lexlt_iff] at e; omega
  rwa [List.filter_eq_self.mpr (by simp), List.length_range] at this

structure Order (ps : List (Int × Int)) (p : List Nat) : Prop where
  len : p.length = ps.length
  lt : ∀ i ∈ p, i < ps.length
  all : ∀ i, i < ps.length → i ∈ p
  up : ∀ k, k + 1 < ps.length → askP ps (p.getD (k + 1) 0) (p.getD k 0) = false

theorem permP_order {ps : List (Int × Int)} (h : ps.length < 6) (hd : ∀ i j, i < j → j < ps.length → ps.getD i (0, 0) ≠ ps.getD j (0, 0)) : Order ps (permP ps) := by
  by_cases h2 : ps.length < 2
  · have : permP ps = List.range ps.length := if_pos h2
    rw [this]
    exact ⟨List.length_range, fun i hi => List.mem_range.mp hi, fun i hi => List.mem_range.mpr hi, fun k hk => by omega⟩
  · have e : permP ps = (runT (kas_sort ps.length) (askP ps)).toList := if_neg h2
    have ok := List.all_eq_true.mp (okRuns ps.length h (by omega)) ((List.range ps.length).map (rankOf ps)) (mem_listsOf (by simp) (fun x hx => by
      obtain ⟨i, hi, rfl⟩ := List.mem_map.mp hx; exact rank_lt (List.mem_range.mp hi)))
    rw [nodupB_of (List.pairwise_iff_getElem.mpr fun i j hi hj hij => by
      simp only [List.length_map, List.length_range] at hi hj
      simp only [List.getElem_map, List.getElem_range]
      intro e
      have h1 := rank_ask (ps := ps) hi hj
      have h2 := rank_ask (ps := ps) hj hi
      rw [decide_eq_false (by omega)] at h1 h2
      have a1 : ¬ askP ps i j = true := by rw [← h1]; simp
      have a2 : ¬ askP ps j i = true := by rw [← h2]; simp
      unfold askP at a1 a2
      rw [lexlt_iff] at a1 a2
      exact hd i j hij hj (Prod.ext (by omega) (by omega))), Bool.not_true, Bool.false_or] at ok
    have hg : ∀ i, i < ps.length → ((List.range ps.length).map (rankOf ps)).getD i 0 = rankOf ps i := fun i hi => by
      rw [List.getD, List.getElem?_map, List.getElem?_range hi]; rfl
    unfold okRun at ok
    rw [runT_congr (n := ps.length) (c' := askP ps) (fun i j hi hj => by rw [hg i hi, hg j hj]; exact rank_ask hi hj) _ (asks5 ps.length h (by omega)), ← e] at ok
    simp only [Bool.and_eq_true, beq_iff_eq] at ok
    obtain ⟨⟨⟨o1, o2⟩, o3⟩, o4⟩ := ok
    have lt : ∀ i ∈ permP ps, i < ps.length := fun i hi => by simpa using List.all_eq_true.mp o2 i hi
    refine ⟨o1, lt, fun i hi => ?_, fun k hk => ?_⟩
    · have := List.all_eq_true.mp o3 i (List.mem_range.mpr hi)
      simpa using this
    · have := List.all_eq_true.mp o4 k (List.mem_range.mpr (by omega))
      have gk : ∀ k, k < ps.length → (permP ps).getD k 0 < ps.length := fun k hk => by
        rw [List.getD, List.getElem?_eq_getElem (by omega)]; exact lt _ (List.getElem_mem _)
      rw [hg _ (gk k (by omega)), hg _ (gk (k + 1) hk)] at this
      have this := of_decide_eq_true this
      rw [← rank_ask (gk (k + 1) hk) (gk k (by omega))]
      exact decide_eq_false (by omega)
/-- further on: never ahead -/
theorem Order.after {ps : List (Int × Int)} {p : List Nat} (O : Order ps p) : ∀ d k, k + d < ps.length → ¬ (askP ps (p.getD (k + d) 0) (p.getD k 0) = true)
  | 0, k, h => by unfold askP; rw [lexlt_iff, Nat.add_zero]; omega
  | d + 1, k, h => by
    have h1 := O.after d k (by omega)
    have h2 := O.up (k + d) (by omega)
    have h2' : ¬ (askP ps (p.getD (k + d + 1) 0) (p.getD (k + d) 0) = true) := by rw [h2]; simp
    rw [← Nat.add_assoc]
    unfold askP at *
    rw [lexlt_iff] at *
    omega
end Mine
end

section
set_option linter.unusedVariables false
namespace Mine

def cntP (p : Int → Bool) (l : List Int) : Nat := (l.filter p).length
theorem cntP_append (p) (a b : List Int) : cntP p (a ++ b) = cntP p a + cntP p b := by unfold cntP; rw [List.filter_append, List.length_append]
theorem cntP_perm {p} {a b : List Int} (h : a.Perm b) : cntP p a = cntP p b := (h.filter p).length_eq
theorem cntP_zero {p} {a : List Int} (h : ∀ x ∈ a, p x = false) : cntP p a = 0 := by
  unfold cntP
  rw [List.filter_eq_nil_iff.mpr (fun x hx => by simp [h x hx])]; rfl
theorem cntP_all {p} {a : List Int} (h : ∀ x ∈ a, p x = true) : cntP p a = a.length := by
  unfold cntP; rw [List.filter_eq_self.mpr h]
theorem cntP_le {p} {a : List Int} : cntP p a ≤ a.length := List.length_filter_le _ _
theorem cntP_cons {p} {x} {a : List Int} : cntP p (x :: a) = (if p x then 1 else 0) + cntP p a := by
  unfold cntP; rw [List.filter_cons]; split <;> simp <;> omega
def sumN : List Nat → Nat
  | [] => 0
  | x :: r => x + sumN r
theorem cntP_flatten (p) (ws : List (List Int)) : cntP p ws.flatten = sumN (ws.map (cntP p)) := by
  induction ws with
  | nil => rfl
  | cons l r ih => rw [List.flatten_cons, cntP_append, ih, List.map_cons]; rfl

/-- the T-th from above of a sorted list: fewer than T are greater, T or more no less -/
theorem cut_counts {fl : List Int} (hs : fl.Pairwise (· ≤ ·)) {T : Nat} (h1 : 1 ≤ T) (h2 : T ≤ fl.length) :
    cntP (fun w => decide (w > fl.getD (fl.length - T) 0)) fl < T ∧ T ≤ cntP (fun w => decide (w ≥ fl.getD (fl.length - T) 0)) fl := by
  have hp : fl.length - T < fl.length := by omega
  generalize hm : fl.getD (fl.length - T) 0 = m
  have hm' : fl[fl.length - T] = m := by rw [← hm, List.getD, List.getElem?_eq_getElem hp]; rfl
  have e : fl = fl.take (fl.length - T) ++ (m :: fl.drop (fl.length - T + 1)) := by
    rw [← hm', ← List.drop_eq_getElem_cons hp, List.take_append_drop]
  have hl : (fl.drop (fl.length - T + 1)).length = T - 1 := by rw [List.length_drop]; omega
  generalize hA : fl.take (fl.length - T) = A at e
  generalize hB : fl.drop (fl.length - T + 1) = B at e hl
  rw [e] at hs
  obtain ⟨_, hB2, hAB⟩ := List.pairwise_append.mp hs
  have hB3 := List.pairwise_cons.mp hB2
  constructor
  · rw [e, cntP_append, cntP_zero (a := A) (fun x hx => by have := hAB x hx m List.mem_cons_self; simp; omega), cntP_cons]
    have := cntP_le (p := fun w => decide (w > m)) (a := B)
    rw [if_neg (by simp)]; omega
  · rw [e, cntP_append, cntP_all (a := m :: B) (fun x hx => by
      rcases List.mem_cons.mp hx with rfl | hx
      · simp
      · have := hB3.1 x hx; simp; omega), List.length_cons]
    omega

/-- a falling list: the greater ones stand ahead -/
theorem fall_count {l : List Int} (hs : l.Pairwise (· > ·)) (m : Int) : ∀ k (hk : k < l.length), (l[k] > m ↔ k < cntP (fun w => decide (w > m)) l) := by
  induction l with
  | nil => intro k hk; simp at hk
  | cons x r ih =>
    obtain ⟨h1, h2⟩ := List.pairwise_cons.mp hs
    intro k hk
    rw [cntP_cons]
    by_cases hx : x > m
    · cases k with
      | zero => simp [hx]; omega
      | succ k => have := ih h2 k (by simpa using hk); simp only [List.getElem_cons_succ]; rw [this]; simp [hx]; omega
    · have h0 : cntP (fun w => decide (w > m)) r = 0 := cntP_zero (fun y hy => by have := h1 y hy; simp; omega)
      rw [h0]
      cases k with
      | zero => simp [hx]
      | succ k =>
        have : r[k]'(by simpa using hk) ∈ r := List.getElem_mem _
        have := h1 _ this
        simp only [List.getElem_cons_succ]
        simp [hx]; omega
theorem fall_ge {l : List Int} (hs : l.Pairwise (· > ·)) (m : Int) : cntP (fun w => decide (w ≥ m)) l = cntP (fun w => decide (w > m)) l + (if has m l then 1 else 0) := by
  induction l with
  | nil => rfl
  | cons x r ih =>
    obtain ⟨h1, h2⟩ := List.pairwise_cons.mp hs
    rw [cntP_cons, cntP_cons, ih h2]
    have hh : has m (x :: r) = ((x == m) || has m r) := rfl
    rw [hh]
    by_cases e : x = m
    · subst e
      have : has x r = false := by
        unfold has; rw [List.any_eq_false]; intro y hy; have := h1 y hy; simp; omega
      rw [this]; simp; omega
    · have e2 : (x == m) = false := by simpa using e
      rw [e2]
      by_cases hx : x > m
      · have : x ≥ m := by omega
        simp [hx, this]; omega
      · have : ¬ x ≥ m := by omega
        simp [hx, this]
theorem has_at {l : List Int} (hs : l.Pairwise (· > ·)) (m : Int) (h : has m l = true) : ∃ hk : cntP (fun w => decide (w > m)) l < l.length, l[cntP (fun w => decide (w > m)) l] = m := by
  unfold has at h
  obtain ⟨y, hy, e⟩ := List.any_eq_true.mp h
  have e : y = m := by simpa using e
  subst e
  obtain ⟨k, hk, hky⟩ := List.mem_iff_getElem.mp hy
  have h1 := fall_count hs y
  have hng : ¬ l[k] > y := by omega
  have hle : cntP (fun w => decide (w > y)) l ≤ k := by
    rcases Nat.lt_or_ge k (cntP (fun w => decide (w > y)) l) with q | q
    · exact absurd ((h1 k hk).mpr q) hng
    · exact q
  refine ⟨by omega, ?_⟩
  rcases Nat.lt_or_ge (cntP (fun w => decide (w > y)) l) k with q | q
  · have := List.pairwise_iff_getElem.mp hs _ k (by omega) hk q
    have h3 := (h1 _ (by omega : cntP (fun w => decide (w > y)) l < l.length)).mp (by omega)
    omega
  · have e : cntP (fun w => decide (w > y)) l = k := by omega
    have : l[cntP (fun w => decide (w > y)) l]'(by omega) = l[k] := by congr
    rw [this, hky]

/-- sums -/
theorem sum_set : ∀ (l : List Int) (i : Nat) (h : i < l.length), (l.set i (l.getD i 0 + 1)).sum = l.sum + 1
  | [], i, h => by simp at h
  | x :: r, 0, _ => by simp [List.getD]; omega
  | x :: r, i + 1, h => by
    have := sum_set r i (by simpa using h)
    rw [List.set_cons_succ, List.sum_cons, List.sum_cons]
    have e : (x :: r).getD (i + 1) 0 = r.getD i 0 := by simp [List.getD]
    rw [e, this]; omega
def hasTo (m : Int) (ws : List (List Int)) : Nat → Nat
  | 0 => 0
  | i + 1 => hasTo m ws i + (if has m (ws.getD i []) then 1 else 0)
theorem hasTo_succ {m ws i} : hasTo m ws (i + 1) = hasTo m ws i + (if has m (ws.getD i []) then 1 else 0) := rfl
theorem hasTo_mono {m ws} : ∀ {i j : Nat}, i ≤ j → hasTo m ws i ≤ hasTo m ws j
  | i, 0, h => by have : i = 0 := by omega
                  subst this; exact Nat.le_refl _
  | i, j + 1, h => by
    by_cases e : i = j + 1
    · subst e; exact Nat.le_refl _
    · have := hasTo_mono (m := m) (ws := ws) (show i ≤ j by omega)
      rw [hasTo_succ]; omega
theorem getD_set {l : List Int} {i j : Nat} {x : Int} (h : i < l.length) : (l.set i x).getD j 0 = if j = i then x else l.getD j 0 := by
  simp only [List.getD, List.getElem?_set]
  by_cases e : i = j
  · subst e; simp [h]
  · rw [if_neg e, if_neg (fun q => e q.symm)]
/-- the ties' round -/
theorem tieFold_spec {S : Nat} {ws : List (List Int)} {m : Int} {r : List Int} (hr : r.sum ≤ (S : Int)) : ∀ {i : Nat}, i ≤ r.length → (tieFold S ws m r i).sum = min (S : Int) (r.sum + hasTo m ws i) ∧
    ∀ j, (tieFold S ws m r i).getD j 0 = r.getD j 0 + (if j < i ∧ has m (ws.getD j []) = true ∧ r.sum + hasTo m ws j < (S : Int) then 1 else 0) := by
  intro i
  induction i with
  | zero => intro _; exact ⟨by show r.sum = min (S : Int) (r.sum + ((0 : Nat) : Int)); omega, fun j => by show r.getD j 0 = _; simp⟩
  | succ i ih =>
    intro hi
    obtain ⟨h1, h2⟩ := ih (by omega)
    have hlen : (tieFold S ws m r i).length = r.length := tieFold_len
    rw [tieFold_succ]
    unfold tieStep
    by_cases hc : (tieFold S ws m r i).sum < (S : Int) ∧ has m (ws.getD i []) = true
    · rw [if_pos (by rw [hc.2]; simp [hc.1])]
      constructor
      · rw [sum_set _ _ (by omega), h1]
        rw [hasTo_succ, if_pos hc.2]
        have := hc.1
        omega
      · intro j
        rw [getD_set (by omega)]
        by_cases e : j = i
        · subst e
          have := hc.1
          rw [if_pos rfl, h2 j, if_neg (by omega), if_pos ⟨by omega, hc.2, by omega⟩]
          omega
        · rw [if_neg e, h2 j]
          have : (j < i + 1) ↔ (j < i) := by omega
          simp only [this]
    · rw [if_neg (by simpa using hc)]
      constructor
      · rw [hasTo_succ]
        by_cases hh : has m (ws.getD i []) = true
        · rw [if_pos hh]; have : ¬ (tieFold S ws m r i).sum < (S : Int) := fun q => hc ⟨q, hh⟩
          omega
        · rw [if_neg hh]; exact h1
      · intro j
        rw [h2 j]
        by_cases e : j = i
        · subst e
          rw [if_neg (by omega), if_neg]
          rintro ⟨_, q1, q2⟩
          exact hc ⟨by omega, q1⟩
        · have : (j < i + 1) ↔ (j < i) := by omega
          simp only [this]

theorem sum_deal (m : Int) : ∀ (n : Nat) (r0 : List Int) (ws : List (List Int)), r0.length = n → ws.length = n → (r1Of r0 ws m n).sum = r0.sum + (sumN (ws.map (cntP fun w => decide (w > m))) : Nat)
  | 0, r0, ws, h1, h2 => by
    have : r0 = [] := List.length_eq_zero_iff.mp h1
    subst this
    have : ws = [] := List.length_eq_zero_iff.mp h2
    subst this
    rfl
  | n + 1, [], _, h1, _ => by simp at h1
  | n + 1, _ :: _, [], _, h2 => by simp at h2
  | n + 1, x :: r, l :: ws, h1, h2 => by
    have ih := sum_deal m n r ws (by simpa using h1) (by simpa using h2)
    unfold r1Of at ih ⊢
    rw [List.range_succ_eq_map, List.map_cons, List.map_map, List.sum_cons]
    have e : ((fun i => (x :: r).getD i 0 + topI m ((l :: ws).getD i [])) ∘ Nat.succ) = fun i => r.getD i 0 + topI m (ws.getD i []) := by
      funext i; simp [List.getD]
    rw [e, ih, List.sum_cons, List.map_cons]
    show x + topI m l + _ = x + r.sum + ((cntP (fun w => decide (w > m)) l + sumN (ws.map (cntP fun w => decide (w > m))) : Nat) : Int)
    unfold topI cntP
    omega
theorem hasTo_cons (m : Int) (l : List Int) (ws : List (List Int)) : ∀ i, hasTo m (l :: ws) (i + 1) = (if has m l then 1 else 0) + hasTo m ws i
  | 0 => by rw [hasTo_succ]; show 0 + _ = _ + 0; simp [List.getD]
  | i + 1 => by
    rw [hasTo_succ, hasTo_cons m l ws i, hasTo_succ]
    have : (l :: ws).getD (i + 1) [] = ws.getD i [] := by simp [List.getD]
    rw [this]; omega
theorem ge_counts (m : Int) : ∀ (ws : List (List Int)), (∀ l ∈ ws, l.Pairwise (· > ·)) → sumN (ws.map (cntP fun w => decide (w ≥ m))) = sumN (ws.map (cntP fun w => decide (w > m))) + hasTo m ws ws.length
  | [], _ => rfl
  | l :: ws, h => by
    have ih := ge_counts m ws (fun k hk => h k (List.mem_cons_of_mem _ hk))
    have h1 := fall_ge (h l List.mem_cons_self) m
    rw [List.length_cons, hasTo_cons, List.map_cons, List.map_cons]
    show _ + _ = _ + _ + _
    rw [h1, ih]
    omega

/-- the deal: what is known of the seats at the end -/
structure Dealt (ws : List (List Int)) (r0 : List Int) (S : Nat) (m : Int) (a : List Int) : Prop where
  len : a.length = r0.length
  sum : a.sum = (S : Int)
  part : ∀ j, j < r0.length → ∃ x : Nat, a.getD j 0 = r0.getD j 0 + x ∧ (x = cntP (fun w => decide (w > m)) (ws.getD j []) ∨ (x = cntP (fun w => decide (w > m)) (ws.getD j []) + 1 ∧ has m (ws.getD j []) = true))
  order : ∀ i j, i < r0.length → j < r0.length → a.getD i 0 = r0.getD i 0 + cntP (fun w => decide (w > m)) (ws.getD i []) + 1 → a.getD j 0 = r0.getD j 0 + cntP (fun w => decide (w > m)) (ws.getD j []) → has m (ws.getD j []) = true → i < j
  some : ∃ i, i < r0.length ∧ a.getD i 0 = r0.getD i 0 + cntP (fun w => decide (w > m)) (ws.getD i []) + 1

theorem deal_ok {ws : List (List Int)} {r0 : List Int} {S : Nat} (hl : ws.length = r0.length) (hf : ∀ l ∈ ws, l.Pairwise (· > ·)) (h1 : r0.sum < (S : Int)) (h2 : (S : Int) - r0.sum ≤ ws.flatten.length) :
    Dealt ws r0 S (cutOf r0 (sortI ws.flatten) S) (tieFold S ws (cutOf r0 (sortI ws.flatten) S) (r1Of r0 ws (cutOf r0 (sortI ws.flatten) S) r0.length) r0.length) ∧
    (tieSeen S ws (cutOf r0 (sortI ws.flatten) S) (r1Of r0 ws (cutOf r0 (sortI ws.flatten) S) r0.length) r0.length = true ↔ ∃ j, j < r0.length ∧ has (cutOf r0 (sortI ws.flatten) S) (ws.getD j []) = true ∧
      (tieFold S ws (cutOf r0 (sortI ws.flatten) S) (r1Of r0 ws (cutOf r0 (sortI ws.flatten) S) r0.length) r0.length).getD j 0 = r0.getD j 0 + cntP (fun w => decide (w > cutOf r0 (sortI ws.flatten) S)) (ws.getD j [])) := by
  obtain ⟨T, hT⟩ : ∃ T : Nat, (T : Int) = S - r0.sum := ⟨((S : Int) - r0.sum).toNat, by omega⟩
  have hsl := sortI_len ws.flatten
  have hcut : cutOf r0 (sortI ws.flatten) S = (sortI ws.flatten).getD ((sortI ws.flatten).length - T) 0 := by
    unfold cutOf idx
    rw [if_neg (by omega)]
    congr 1
    omega
  have hc := cut_counts (sortI_sorted ws.flatten) (T := T) (by omega) (by omega)
  rw [← hcut] at hc
  rw [cntP_perm (sortI_perm _), cntP_perm (sortI_perm _), cntP_flatten, cntP_flatten, ge_counts _ _ hf] at hc
  generalize cutOf r0 (sortI ws.flatten) S = m at *
  have hs1 := sum_deal m r0.length r0 ws rfl hl
  have hl1 : (r1Of r0 ws m r0.length).length = r0.length := by unfold r1Of; simp
  have hg : ∀ j, j < r0.length → (r1Of r0 ws m r0.length).getD j 0 = r0.getD j 0 + cntP (fun w => decide (w > m)) (ws.getD j []) := by
    intro j hj
    unfold r1Of
    simp only [List.getD, List.getElem?_map, List.getElem?_range hj]
    rfl
  rw [hl] at hc
  generalize hG : sumN (ws.map (cntP fun w => decide (w > m))) = G at *
  generalize hr1 : r1Of r0 ws m r0.length = r1 at *
  have key : ∀ {i : Nat}, i ≤ r1.length → _ := fun {i} => tieFold_spec (S := S) (ws := ws) (m := m) (r := r1) (by omega) (i := i)
  have kn := key (i := r0.length) (by omega)
  refine ⟨⟨by rw [tieFold_len, hl1], by rw [kn.1]; omega, fun j hj => ?_, fun i j hi hj e1 e2 hh => ?_, ?_⟩, ?_⟩
  · rw [kn.2 j, hg j hj]
    split
    · rename_i q; exact ⟨_, by omega, .inr ⟨rfl, q.2.1⟩⟩
    · exact ⟨_, by omega, .inl rfl⟩
  · rw [kn.2 i, hg i hi] at e1
    rw [kn.2 j, hg j hj] at e2
    have q1 : i < r0.length ∧ has m (ws.getD i []) = true ∧ r1.sum + hasTo m ws i < (S : Int) := by
      by_cases q : i < r0.length ∧ has m (ws.getD i []) = true ∧ r1.sum + hasTo m ws i < (S : Int)
      · exact q
      · rw [if_neg q] at e1; omega
    have q2 : ¬ (j < r0.length ∧ has m (ws.getD j []) = true ∧ r1.sum + hasTo m ws j < (S : Int)) := by
      intro q; rw [if_pos q] at e2; omega
    rcases Nat.lt_or_ge i j with q | q
    · exact q
    · have := hasTo_mono (m := m) (ws := ws) q
      exact absurd ⟨hj, hh, by omega⟩ q2
  · -- the first that has m is served
    have ex : ∀ n, 0 < hasTo m ws n → ∃ i, i < n ∧ has m (ws.getD i []) = true ∧ hasTo m ws i = 0 := by
      intro n
      induction n with
      | zero => intro h; exact absurd h (Nat.lt_irrefl 0)
      | succ n ih =>
        intro h
        by_cases q : 0 < hasTo m ws n
        · obtain ⟨i, h1, h2⟩ := ih q; exact ⟨i, by omega, h2⟩
        · rw [hasTo_succ] at h
          refine ⟨n, by omega, ?_, by omega⟩
          by_cases qq : has m (ws.getD n []) = true
          · exact qq
          · rw [if_neg qq] at h; omega
    obtain ⟨i, i1, i2, i3⟩ := ex r0.length (by omega)
    refine ⟨i, i1, ?_⟩
    rw [kn.2 i, hg i i1, if_pos ⟨i1, i2, by omega⟩]
  · unfold tieSeen
    rw [List.any_eq_true]
    constructor
    · rintro ⟨j, hj, q⟩
      have hj := List.mem_range.mp hj
      simp only [Bool.and_eq_true, beq_iff_eq] at q
      refine ⟨j, hj, q.2, ?_⟩
      rw [kn.2 j, hg j hj, if_neg]
      · omega
      · rintro ⟨_, _, z⟩
        have := (key (i := j) (by omega)).1
        omega
    · rintro ⟨j, hj, q1, q2⟩
      refine ⟨j, List.mem_range.mpr hj, ?_⟩
      simp only [Bool.and_eq_true, beq_iff_eq]
      refine ⟨?_, q1⟩
      rw [(key (i := j) (by omega)).1]
      rw [kn.2 j, hg j hj] at q2
      by_cases q : r1.sum + hasTo m ws j < (S : Int)
      · rw [if_pos ⟨hj, q1, q⟩] at q2; omega
      · omega
end Mine
end

section
set_option linter.unusedVariables false
namespace Mine

theorem getD_lt {l : List Int} {k : Nat} (h : k < l.length) : l.getD k 0 = l[k] := by rw [List.getD, List.getElem?_eq_getElem h]; rfl
theorem getD_ltL {l : List (List Int)} {k : Nat} (h : k < l.length) : l.getD k [] = l[k] := by rw [List.getD, List.getElem?_eq_getElem h]; rfl

/-- what was served is above what was not -/
theorem dealt_stable {ws : List (List Int)} {r0 : List Int} {S : Nat} {m : Int} {a : List Int} (D : Dealt ws r0 S m a) (hl : ws.length = r0.length) (hf : ∀ l ∈ ws, l.Pairwise (· > ·)) {i j x y : Nat} (hi : i < r0.length) (hj : j < r0.length)
    (ai : a.getD i 0 = r0.getD i 0 + (x : Nat) + 1) (aj : a.getD j 0 = r0.getD j 0 + (y : Nat)) (hy : y < (ws.getD j []).length) :
    (ws.getD i []).getD x 0 > (ws.getD j []).getD y 0 ∨ ((ws.getD i []).getD x 0 = (ws.getD j []).getD y 0 ∧ i < j ∧ has m (ws.getD j []) = true ∧ a.getD j 0 = r0.getD j 0 + cntP (fun w => decide (w > m)) (ws.getD j [])) := by
  have fi : (ws.getD i []).Pairwise (· > ·) := by rw [getD_ltL (by omega)]; exact hf _ (List.getElem_mem _)
  have fj : (ws.getD j []).Pairwise (· > ·) := by rw [getD_ltL (by omega)]; exact hf _ (List.getElem_mem _)
  obtain ⟨x', e1, hx⟩ := D.part i hi
  obtain ⟨y', e2, hy'⟩ := D.part j hj
  have ex : x' = x + 1 := by omega
  have ey : y' = y := by omega
  subst ex; subst ey
  have ci := fall_count fi m
  have cj := fall_count fj m
  have li := cntP_le (p := fun w => decide (w > m)) (a := ws.getD i [])
  have oi := D.order i j hi hj
  generalize ws.getD i [] = wi at *
  generalize ws.getD j [] = wj at *
  rw [getD_lt hy]
  rcases hx with hx | ⟨hx, hxh⟩
  · have hxl : x < wi.length := by omega
    rw [getD_lt hxl]
    have h1 := (ci x hxl).mpr (by omega)
    rcases hy' with hy2 | ⟨hy2, hyh⟩
    · have h2 : ¬ wj[y'] > m := fun q => by have := (cj y' hy).mp q; omega
      exact .inl (by omega)
    · have h2 : ¬ wj[y'] > m := fun q => by have := (cj y' hy).mp q; omega
      exact .inl (by omega)
  · obtain ⟨hk, hkm⟩ := has_at fi m hxh
    have e : x = cntP (fun w => decide (w > m)) wi := by omega
    have h1 : wi.getD x 0 = m := by rw [e, getD_lt hk, hkm]
    rw [h1]
    rcases hy' with hy2 | ⟨hy2, hyh⟩
    · have h2 : ¬ wj[y'] > m := fun q => by have := (cj y' hy).mp q; omega
      by_cases q : wj[y'] = m
      · have hh : has m wj = true := by
          unfold has; rw [List.any_eq_true]; exact ⟨_, List.getElem_mem hy, by simpa using q⟩
        exact .inr ⟨q.symm, oi (by omega) (by omega) hh, hh, by omega⟩
      · exact .inl (by omega)
    · obtain ⟨hk2, hkm2⟩ := has_at fj m hyh
      have := List.pairwise_iff_getElem.mp fj _ y' hk2 hy (by omega)
      exact .inl (by omega)
/-- the k-th divisor -/
def dv : Rule → Nat → Int × Int
  | .jeff, i => ((i : Int) + 1, 1)
  | .web, i => (2 * (i : Int) + 1, 1)
  | .modi, 0 => (7, 5)
  | .modi, i + 1 => (2 * (1 + (i : Int)) + 1, 1)
  | .hill, i => (((i : Int) + 1) * ((i : Int) + 2), 1)
  | .adams, i => ((i : Int) + 1, 1)
  | .dean, i => (2 * ((i : Int) + 1) * ((i : Int) + 2), 2 * ((i : Int) + 1) + 1)
theorem divs_eq (r : Rule) {S : Nat} (h : 1 ≤ S) : divs r S = (List.range S).map (dv r) := by
  cases r <;> try rfl
  obtain ⟨k, rfl⟩ : ∃ k, S = k + 1 := ⟨S - 1, by omega⟩
  rw [List.range_succ_eq_map, List.map_cons, List.map_map]
  rfl
def pw (r : Rule) (p : Int) : Int := if isHill r then p * p else p
theorem pw_pos {r p} (h : 0 < p) : 0 < pw r p := by unfold pw; split; exact Int.mul_pos h h; exact h
theorem wt_eq {r c p d} : wt r c p d = (pw r p * d.2 * c).fdiv d.1 := by unfold wt pw; split <;> rfl
theorem common_dvd {ds : List (Int × Int)} {d} (h : d ∈ ds) : ∃ e, common ds = d.1 * e := by
  have key : ∀ (ds : List (Int × Int)) (c : Int), ∃ e, ds.foldl (fun c d => c * d.1) c = c * e := by
    intro ds
    induction ds with
    | nil => intro c; exact ⟨1, by simp⟩
    | cons x r ih => intro c; obtain ⟨e, he⟩ := ih (c * x.1); exact ⟨x.1 * e, by rw [List.foldl_cons, he, Int.mul_assoc]⟩
  have key2 : ∀ (ds : List (Int × Int)) (c : Int), d ∈ ds → ∃ e, ds.foldl (fun c d => c * d.1) c = d.1 * e := by
    intro ds
    induction ds with
    | nil => intro c h; cases h
    | cons x r ih =>
      intro c h
      rcases List.mem_cons.mp h with rfl | h
      · obtain ⟨e, he⟩ := key r (c * d.1); exact ⟨c * e, by rw [List.foldl_cons, he, Int.mul_comm c, Int.mul_assoc]⟩
      · exact ih _ h
  exact key2 ds 1 h
theorem wt_mul {ds : List (Int × Int)} (hd : DivsOk ds) {r p d} (h : d ∈ ds) : wt r (common ds) p d * d.1 = pw r p * d.2 * common ds := by
  obtain ⟨e, he⟩ := common_dvd h
  have h0 := (hd d h).1
  rw [wt_eq, he]
  have : pw r p * d.2 * (d.1 * e) = d.1 * (pw r p * d.2 * e) := by
    rw [← Int.mul_assoc, Int.mul_comm (pw r p * d.2) d.1, Int.mul_assoc]
  rw [this, Int.mul_fdiv_cancel_left _ (by omega), Int.mul_comm]
theorem wt_lt {ds : List (Int × Int)} (hd : DivsOk ds) {r p q d e} (h : d ∈ ds) (k : e ∈ ds) : wt r (common ds) p d > wt r (common ds) q e ↔ pw r p * d.2 * e.1 > pw r q * e.2 * d.1 := by
  have h1 := wt_mul hd (r := r) (p := p) h
  have h2 := wt_mul hd (r := r) (p := q) k
  have hc := (common_ok hd).1
  have d0 := (hd d h).1
  have e0 := (hd e k).1
  generalize wt r (common ds) p d = x at *
  generalize wt r (common ds) q e = y at *
  generalize common ds = c at *
  generalize hP : pw r p * d.2 = P at *
  generalize hQ : pw r q * e.2 = Q at *
  have f1 : x * (d.1 * e.1) = P * e.1 * c := by rw [← Int.mul_assoc, h1, Int.mul_assoc, Int.mul_comm c, ← Int.mul_assoc]
  have f2 : y * (d.1 * e.1) = Q * d.1 * c := by rw [Int.mul_comm d.1, ← Int.mul_assoc, h2, Int.mul_assoc, Int.mul_comm c, ← Int.mul_assoc]
  have hde := Int.mul_pos d0 e0
  constructor
  · intro g
    have : y * (d.1 * e.1) < x * (d.1 * e.1) := Int.mul_lt_mul_of_pos_right g hde
    rw [f1, f2] at this
    exact Int.lt_of_mul_lt_mul_right this (Int.le_of_lt hc)
  · intro g
    have : Q * d.1 * c < P * e.1 * c := Int.mul_lt_mul_of_pos_right g hc
    rw [← f1, ← f2] at this
    exact Int.lt_of_mul_lt_mul_right this (Int.le_of_lt hde)
theorem wt_eqv {ds : List (Int × Int)} (hd : DivsOk ds) {r p q d e} (h : d ∈ ds) (k : e ∈ ds) : wt r (common ds) p d = wt r (common ds) q e ↔ pw r p * d.2 * e.1 = pw r q * e.2 * d.1 := by
  have a1 := wt_lt hd (r := r) (p := p) (q := q) h k
  have a2 := wt_lt hd (r := r) (p := q) (q := p) k h
  omega

theorem dv_fall : ∀ r : Rule, ∀ l, l < 20 → ∀ k, k < l → (dv r k).2 * (dv r l).1 > (dv r l).2 * (dv r k).1 := by
  intro r; cases r <;> decide +kernel

def free : Rule → Nat
  | .jeff => 0
  | .web => 0
  | .modi => 0
  | _ => 1
theorem base_get {r : Rule} {v : List Int} (hp : ∀ p ∈ v, 0 < p) {i : Nat} (hi : i < v.length) : (base r v).getD i 0 = (free r : Int) := by
  have h1 := hp _ (List.getElem_mem hi)
  cases r <;> simp [base, free, List.getD, List.getElem?_eq_getElem hi] <;> omega
theorem wsOf_get {r c ds v} {i : Nat} (hi : i < v.length) : (wsOf r c ds v).getD i [] = ds.map (wt r c (v.getD i 0)) := by
  unfold wsOf
  rw [List.getD, List.getElem?_map, List.getElem?_eq_getElem hi, getD_lt hi]; rfl
theorem sum_two : ∀ (l : List Int), (∀ x ∈ l, 0 ≤ x) → ∀ i j, i < j → j < l.length → l.getD i 0 + l.getD j 0 ≤ l.sum
  | [], _, i, j, _, h => by simp at h
  | x :: r, h, 0, j + 1, _, hj => by
    have one : ∀ (l : List Int), (∀ x ∈ l, 0 ≤ x) → 0 ≤ l.sum ∧ ∀ j, j < l.length → l.getD j 0 ≤ l.sum := by
      intro l
      induction l with
      | nil => intro _; exact ⟨Int.le_refl _, fun j hj => by simp at hj⟩
      | cons y q ih =>
        intro hq
        have := ih (fun z hz => hq z (List.mem_cons_of_mem _ hz))
        have hy := hq y List.mem_cons_self
        rw [List.sum_cons]
        refine ⟨by omega, fun j hj => ?_⟩
        cases j with
        | zero => show y ≤ _; omega
        | succ j => have := this.2 j (by simpa using hj); show q.getD j 0 ≤ _; omega
    have := (one r (fun z hz => h z (List.mem_cons_of_mem _ hz))).2 j (by simpa using hj)
    rw [List.sum_cons]
    show x + r.getD j 0 ≤ _
    omega
  | x :: r, h, i + 1, j + 1, hij, hj => by
    have := sum_two r (fun z hz => h z (List.mem_cons_of_mem _ hz)) i j (by omega) (by simpa using hj)
    have hx := h x List.mem_cons_self
    rw [List.sum_cons]
    show r.getD i 0 + r.getD j 0 ≤ _
    omega

/-- an apportionment by a divisor method -/
structure Apport (r : Rule) (v : List Int) (S : Nat) (a : List Int) : Prop where
  len : a.length = v.length
  sum : a.sum = (S : Int)
  ge : ∀ i, i < v.length → (free r : Int) ≤ a.getD i 0
  stab : ∀ i j x y : Nat, i < v.length → j < v.length → i ≠ j → a.getD i 0 = (free r + x + 1 : Nat) → a.getD j 0 = (free r + y : Nat) →
    pw r (v.getD i 0) * (dv r x).2 * (dv r y).1 > pw r (v.getD j 0) * (dv r y).2 * (dv r x).1 ∨ (pw r (v.getD i 0) * (dv r x).2 * (dv r y).1 = pw r (v.getD j 0) * (dv r y).2 * (dv r x).1 ∧ i < j)
def TieAt (r : Rule) (v a : List Int) : Prop := ∃ i j x y : Nat, i < v.length ∧ j < v.length ∧ i ≠ j ∧ a.getD i 0 = (free r + x + 1 : Nat) ∧ a.getD j 0 = (free r + y : Nat) ∧
  pw r (v.getD i 0) * (dv r x).2 * (dv r y).1 = pw r (v.getD j 0) * (dv r y).2 * (dv r x).1

theorem div_setup {r : Rule} {v : List Int} {S : Nat} (hp : ∀ p ∈ v, 0 < p) (hn : 1 ≤ v.length) (hS : S ≤ 20) (hgt : (S : Int) > (base r v).sum) :
    (divW r v S).length = (base r v).length ∧ (∀ l ∈ divW r v S, l.Pairwise (· > ·)) ∧ Dealt (divW r v S) (base r v) S (divM r v S) (divF r v S) ∧
    (divTie r v S = true ↔ ∃ j, j < (base r v).length ∧ has (divM r v S) ((divW r v S).getD j []) = true ∧ (divF r v S).getD j 0 = (base r v).getD j 0 + cntP (fun w => decide (w > divM r v S)) ((divW r v S).getD j [])) ∧
    (∀ i, i < v.length → ((divW r v S).getD i []).length = S) ∧
    ∀ i j k l, i < v.length → j < v.length → k < S → l < S → (((divW r v S).getD i []).getD k 0 > ((divW r v S).getD j []).getD l 0 ↔ pw r (v.getD i 0) * (dv r k).2 * (dv r l).1 > pw r (v.getD j 0) * (dv r l).2 * (dv r k).1) ∧
      (((divW r v S).getD i []).getD k 0 = ((divW r v S).getD j []).getD l 0 ↔ pw r (v.getD i 0) * (dv r k).2 * (dv r l).1 = pw r (v.getD j 0) * (dv r l).2 * (dv r k).1) := by
  have hbl := base_len r v
  have hb0 := (base_sum r v).1
  have hS1 : 1 ≤ S := by clear hp hn hS hbl; omega
  have hdo := divsOk r S (Nat.le_trans hS (by decide))
  have hdl := divs_len r S hS1
  have hwl : (divW r v S).length = (base r v).length := by unfold divW wsOf; rw [List.length_map, hbl]
  have hfl : (divW r v S).flatten.length = v.length * S := by unfold divW; rw [flat_len, hdl]
  have hge : ∀ k (hk : k < S), (divs r S)[k]'(Nat.lt_of_lt_of_eq hk hdl.symm) = dv r k := by
    intro k hk
    have : (divs r S)[k]? = some (dv r k) := by rw [divs_eq r hS1, List.getElem?_map, List.getElem?_range hk]; rfl
    rw [List.getElem?_eq_getElem (Nat.lt_of_lt_of_eq hk hdl.symm)] at this; exact Option.some.inj this
  have hmem : ∀ k, k < S → dv r k ∈ divs r S := fun k hk => by rw [← hge k hk]; exact List.getElem_mem _
  have hfall : ∀ l ∈ divW r v S, l.Pairwise (· > ·) := by
    intro l hl
    unfold divW wsOf at hl
    obtain ⟨p, hpv, rfl⟩ := List.mem_map.mp hl
    rw [List.pairwise_iff_getElem]
    intro k l hk hl hkl
    rw [List.length_map, hdl] at hk hl
    rw [List.getElem_map, List.getElem_map, hge k hk, hge l hl]
    refine (wt_lt hdo (hmem k hk) (hmem l hl)).mpr ?_
    have := dv_fall r l (Nat.lt_of_lt_of_le hl hS) k hkl
    rw [Int.mul_assoc, Int.mul_assoc]
    exact Int.mul_lt_mul_of_pos_left this (pw_pos (hp p hpv))
  have hle : S ≤ v.length * S := Nat.le_mul_of_pos_left _ hn
  have h := deal_ok (ws := divW r v S) (r0 := base r v) (S := S) hwl hfall hgt (by rw [hfl]; generalize v.length * S = z at hle; clear hfl hfall hmem hge hwl hbl hdl hn; omega)
  have e1 : divR1 r v S = r1Of (base r v) (divW r v S) (divM r v S) (base r v).length := by rw [hbl]; exact if_pos hgt
  have e2 : divF r v S = tieFold S (divW r v S) (divM r v S) (r1Of (base r v) (divW r v S) (divM r v S) (base r v).length) (base r v).length := by unfold divF; rw [e1, hbl]
  have e3 : divTie r v S = tieSeen S (divW r v S) (divM r v S) (r1Of (base r v) (divW r v S) (divM r v S) (base r v).length) (base r v).length := by unfold divTie; rw [e1, hbl, decide_eq_true hgt, Bool.true_and]
  have e4 : divM r v S = cutOf (base r v) (sortI (divW r v S).flatten) S := rfl
  rw [← e4, ← e2, ← e3] at h
  have hw : ∀ {i k}, i < v.length → k < S → ((divW r v S).getD i []).getD k 0 = wt r (common (divs r S)) (v.getD i 0) (dv r k) := by
    intro i k hi hk
    unfold divW
    rw [wsOf_get hi, List.getD, List.getElem?_map, List.getElem?_eq_getElem (Nat.lt_of_lt_of_eq hk hdl.symm), hge k hk]; rfl
  refine ⟨hwl, hfall, h.1, h.2, fun i hi => by unfold divW; rw [wsOf_get hi, List.length_map, hdl], fun i j k l hi hj hk hl => ?_⟩
  rw [hw hi hk, hw hj hl]
  exact ⟨wt_lt hdo (hmem k hk) (hmem l hl), wt_eqv hdo (hmem k hk) (hmem l hl)⟩
theorem base_total {r : Rule} {v : List Int} (hp : ∀ p ∈ v, 0 < p) : (base r v).sum = ((free r * v.length : Nat) : Int) := by
  have one : ∀ (f : Int → Int) (c : Nat), (∀ p : Int, 0 < p → f p = (c : Int)) → (v.map f).sum = ((c * v.length : Nat) : Int) := by
    intro f c hf
    induction v with
    | nil => rfl
    | cons p q ih =>
      have h1 := ih (fun z hz => hp z (List.mem_cons_of_mem _ hz))
      have h2 := hf p (hp p List.mem_cons_self)
      rw [List.map_cons, List.sum_cons, h1, h2, List.length_cons, Nat.mul_succ, Int.natCast_add, Int.add_comm]
  cases r
  · exact one _ 0 (fun p hp => rfl)
  · exact one _ 0 (fun p hp => rfl)
  · exact one _ 0 (fun p hp => rfl)
  · exact one _ 1 (fun p hp => if_pos hp)
  · exact one _ 1 (fun p hp => if_pos hp)
  · exact one _ 1 (fun p hp => if_pos hp)
theorem two_le {l : List Int} {f S : Nat} (hs : l.sum = (S : Int)) (ge : ∀ i, i < l.length → (f : Int) ≤ l.getD i 0) {i j : Nat} (hi : i < l.length) (hj : j < l.length) (hne : i ≠ j) : l.getD i 0 + l.getD j 0 ≤ (S : Int) := by
  have nn : ∀ x ∈ l, 0 ≤ x := fun x hx => by
    obtain ⟨i, hi, rfl⟩ := List.mem_iff_getElem.mp hx
    have := ge i hi
    rw [getD_lt hi] at this; exact Int.le_trans (Int.natCast_nonneg f) this
  rw [← hs]
  rcases Nat.lt_or_ge i j with q | q
  · exact sum_two _ nn i j q hj
  · have := sum_two _ nn j i (Nat.lt_of_le_of_ne q (Ne.symm hne)) hi
    rw [Int.add_comm]; exact this
theorem seat_lt {f x y S : Nat} {a b : Int} (h : a + b ≤ (S : Int)) (ha : a = ((f + x + 1 : Nat) : Int)) (hb : b = ((f + y : Nat) : Int)) : x < S ∧ y < S := by omega

theorem divF_ok {r : Rule} {v : List Int} {S : Nat} (hp : ∀ p ∈ v, 0 < p) (hn : 1 ≤ v.length) (hS : S ≤ 20) (hfree : free r * v.length ≤ S) : Apport r v S (divF r v S) := by
  have hbl := base_len r v
  have hbg : ∀ {i}, i < v.length → (base r v).getD i 0 = (free r : Int) := fun hi => base_get hp hi
  have hbs := base_total (r := r) hp
  by_cases hgt : (S : Int) > (base r v).sum
  · obtain ⟨hwl, hfall, D, _, hwlen, hcmp⟩ := div_setup hp hn hS hgt
    have hlen : (divF r v S).length = v.length := D.len.trans hbl
    have ge : ∀ i, i < v.length → (free r : Int) ≤ (divF r v S).getD i 0 := fun i hi => by
      obtain ⟨x, e, _⟩ := D.part i (hbl ▸ hi)
      rw [e, hbg hi]; exact Int.le_add_of_nonneg_right (Int.natCast_nonneg x)
    refine ⟨hlen, D.sum, ge, fun i j x y hi hj hne ai aj => ?_⟩
    have ht := two_le D.sum (fun i hi => ge i (hlen ▸ hi)) (hlen ▸ hi) (hlen ▸ hj) hne
    obtain ⟨hx, hy⟩ := seat_lt ht ai aj
    have := dealt_stable D hwl hfall (i := i) (j := j) (x := x) (y := y) (hbl ▸ hi) (hbl ▸ hj) (by rw [hbg hi, ai]; rfl) (by rw [hbg hj, aj]; rfl) (by rw [hwlen j hj]; exact hy)
    rw [(hcmp i j x y hi hj hx hy).1, (hcmp i j x y hi hj hx hy).2] at this
    rcases this with q | ⟨q1, q2, _⟩
    · exact .inl q
    · exact .inr ⟨q1, q2⟩
  · have e2 : divF r v S = base r v := by
      unfold divF
      rw [show divR1 r v S = base r v from if_neg hgt, tieFold_full (fun q => hgt q)]
    have hsum : (base r v).sum = (S : Int) := by
      rw [hbs] at hgt ⊢
      exact Int.le_antisymm (Int.ofNat_le.mpr hfree) (Int.not_lt.mp hgt)
    rw [e2]
    exact ⟨hbl, hsum, fun i hi => by rw [hbg hi]; exact Int.le_refl _, fun i j x y hi hj hne ai aj => by
      rw [hbg hi] at ai
      have := Int.ofNat_inj.mp ai
      omega⟩
end Mine
end

section
set_option linter.unusedVariables false
namespace Mine

/-- the place in the line -/
def place : Rule → Nat
  | .adams => 0
  | .dean => 1
  | .hill => 2
  | .web => 3
  | .modi => 4
  | .jeff => 5
/-- claims, squared: of v * v -/
def sn (r : Rule) (s : Nat) : Int := if isHill r then (dv r (s - free r)).2 else (dv r (s - free r)).2 * (dv r (s - free r)).2
def sd (r : Rule) (s : Nat) : Int := if isHill r then (dv r (s - free r)).1 else (dv r (s - free r)).1 * (dv r (s - free r)).1
theorem s_pos : ∀ r : Rule, ∀ s, s < 21 → 0 < sn r s ∧ 0 < sd r s := by
  intro r; cases r <;> decide +kernel
theorem s_fall : ∀ r : Rule, ∀ t, t < 21 → ∀ s, s < t → free r ≤ s → sn r s * sd r t > sn r t * sd r s := by
  intro r; cases r <;> decide +kernel
def lineOk (E L : Rule) (x y : Nat) : Bool :=
  decide (sn L y * sd L x * (sn E x * sd E y) ≤ sn L x * sd L y * (sn E y * sd E x)) && (decide (sn L y * sd L x * (sn E x * sd E y) < sn L x * sd L y * (sn E y * sd E x)) || (decide (E = .web) && decide (L = .modi) && decide (0 < y)))
theorem line_ok : ∀ E L : Rule, place E < place L → ∀ x, x < 21 → ∀ y, y < x → free E ≤ y → lineOk E L x y = true := by
  intro E L; cases E <;> cases L <;> decide +kernel
theorem free_line {E L : Rule} (h : place E < place L) : free L ≤ free E := by
  cases E <;> cases L <;> revert h <;> decide

theorem sq_le {a b : Int} (h0 : 0 ≤ a) (h : a ≤ b) : a * a ≤ b * b := Int.mul_le_mul h h h0 (by omega)
theorem sq_lt {a b : Int} (h0 : 0 ≤ a) (h : a < b) : a * a < b * b := by
  have h1 := Int.mul_le_mul_of_nonneg_left (Int.le_of_lt h) h0
  have h2 := Int.mul_lt_mul_of_pos_right h (show 0 < b by omega)
  omega
theorem mul_swap4 (a b c d : Int) : a * b * (c * d) = a * c * (b * d) := by
  rw [Int.mul_assoc, ← Int.mul_assoc b, Int.mul_comm b c, Int.mul_assoc c, ← Int.mul_assoc a]

theorem dv_pos : ∀ r : Rule, ∀ k, k < 21 → 0 < (dv r k).1 ∧ 0 < (dv r k).2 := by
  intro r; cases r <;> decide +kernel

/-- the claims compared, squared -/
theorem stab_sq {r : Rule} {p q : Int} (hp : 0 < p) (hq : 0 < q) {x y : Nat} (hx : x < 20) (hy : y < 20) {c : Prop}
    (h : pw r p * (dv r x).2 * (dv r y).1 > pw r q * (dv r y).2 * (dv r x).1 ∨ (pw r p * (dv r x).2 * (dv r y).1 = pw r q * (dv r y).2 * (dv r x).1 ∧ c)) :
    p * p * (sn r (free r + x) * sd r (free r + y)) > q * q * (sn r (free r + y) * sd r (free r + x)) ∨ (p * p * (sn r (free r + x) * sd r (free r + y)) = q * q * (sn r (free r + y) * sd r (free r + x)) ∧ c) := by
  unfold sn sd
  rw [Nat.add_sub_cancel_left, Nat.add_sub_cancel_left]
  obtain ⟨x1, x2⟩ := dv_pos r x (by omega)
  obtain ⟨y1, y2⟩ := dv_pos r y (by omega)
  unfold pw at h
  cases hh : isHill r with
  | true =>
    rw [hh] at h
    simp only [if_true] at h ⊢
    rw [Int.mul_assoc, Int.mul_assoc (q * q)] at h
    exact h
  | false =>
    rw [hh] at h
    simp only [Bool.false_eq_true, if_false] at h ⊢
    generalize (dv r x).1 = a at *
    generalize (dv r x).2 = b at *
    generalize (dv r y).1 = a' at *
    generalize (dv r y).2 = b' at *
    have e1 : p * p * (b * b * (a' * a')) = (p * b * a') * (p * b * a') := by
      rw [mul_swap4 b b a' a', mul_swap4 p p (b * a') (b * a'), Int.mul_assoc p b a']
    have e2 : q * q * (b' * b' * (a * a)) = (q * b' * a) * (q * b' * a) := by
      rw [mul_swap4 b' b' a a, mul_swap4 q q (b' * a) (b' * a), Int.mul_assoc q b' a]
    rw [e1, e2]
    have n2 : 0 ≤ q * b' * a := Int.le_of_lt (Int.mul_pos (Int.mul_pos hq y2) x1)
    rcases h with h | ⟨h, hc⟩
    · exact .inl (sq_lt n2 h)
    · exact .inr ⟨by rw [h], hc⟩

/-- a claim further up stands lower -/
theorem mono_core {Vi Vj N Q N' Q' M P M' P' : Int} (hVi : 0 < Vi) (hVj : 0 < Vj) (hN : 0 < N) (hQ : 0 < Q) (hN' : 0 < N') (hQ' : 0 < Q') (hM : 0 < M) (hP : 0 < P) (hM' : 0 < M') (hP' : 0 < P')
    (f1 : N' * Q ≤ N * Q') (f2 : M * P' ≤ M' * P) {c : Prop} (h : Vj * (N' * P') > Vi * (M' * Q') ∨ (Vj * (N' * P') = Vi * (M' * Q') ∧ c)) :
    Vj * (N * P) > Vi * (M * Q) ∨ (Vj * (N * P) = Vi * (M * Q) ∧ c) ∨ (Vj * (N * P) > Vi * (M * Q)) := by
  -- multiply by Q' * P'
  have a1 : Vj * (N' * P') * (Q * P) ≤ Vj * (N * P) * (Q' * P') := by
    have : N' * P' * (Q * P) ≤ N * P * (Q' * P') := by
      rw [mul_swap4 N' P' Q P, mul_swap4 N P Q' P', Int.mul_comm P' P]
      exact Int.mul_le_mul_of_nonneg_right f1 (Int.le_of_lt (Int.mul_pos hP hP'))
    rw [Int.mul_assoc Vj (N' * P'), Int.mul_assoc Vj (N * P)]
    exact Int.mul_le_mul_of_nonneg_left this (Int.le_of_lt hVj)
  have a2 : Vi * (M * Q) * (Q' * P') ≤ Vi * (M' * Q') * (Q * P) := by
    have : M * Q * (Q' * P') ≤ M' * Q' * (Q * P) := by
      have e1 : M * Q * (Q' * P') = M * P' * (Q * Q') := by rw [Int.mul_comm Q' P', mul_swap4]
      have e2 : M' * Q' * (Q * P) = M' * P * (Q * Q') := by rw [Int.mul_comm Q P, mul_swap4, Int.mul_comm Q' Q]
      rw [e1, e2]
      exact Int.mul_le_mul_of_nonneg_right f2 (Int.le_of_lt (Int.mul_pos hQ hQ'))
    rw [Int.mul_assoc Vi (M * Q), Int.mul_assoc Vi (M' * Q')]
    exact Int.mul_le_mul_of_nonneg_left this (Int.le_of_lt hVi)
  have k := Int.mul_pos hQ hP
  have k' := Int.mul_pos hQ' hP'
  rcases h with h | ⟨h, hc⟩
  · have := Int.mul_lt_mul_of_pos_right h k
    exact .inl (Int.lt_of_mul_lt_mul_right (show Vi * (M * Q) * (Q' * P') < Vj * (N * P) * (Q' * P') by omega) (Int.le_of_lt k'))
  · rw [h] at a1
    have : Vi * (M * Q) * (Q' * P') ≤ Vj * (N * P) * (Q' * P') := by omega
    have := Int.le_of_mul_le_mul_right this k'
    by_cases e : Vj * (N * P) = Vi * (M * Q)
    · exact .inr (.inl ⟨e, hc⟩)
    · exact .inl (by omega)

theorem cross_core {Vi Vj A B C F : Int} (hVi : 0 < Vi) (hVj : 0 < Vj) (hA : 0 < A) (hF : 0 < F) (h1 : Vj * B ≤ Vi * A) (h2 : Vi * F ≤ Vj * C) (h3 : C * A ≤ F * B) : C * A = F * B ∧ Vj * B = Vi * A ∧ Vi * F = Vj * C := by
  have b1 : Vj * (F * B) ≤ Vi * A * F := by
    rw [Int.mul_comm F B, ← Int.mul_assoc]; exact Int.mul_le_mul_of_nonneg_right h1 (Int.le_of_lt hF)
  have b2 : Vi * A * F ≤ Vj * (C * A) := by
    have : Vi * A * F = Vi * F * A := by rw [Int.mul_assoc, Int.mul_comm A F, ← Int.mul_assoc]
    rw [this, ← Int.mul_assoc]; exact Int.mul_le_mul_of_nonneg_right h2 (Int.le_of_lt hA)
  have b3 : Vj * (C * A) ≤ Vj * (F * B) := Int.mul_le_mul_of_nonneg_left h3 (Int.le_of_lt hVj)
  have e1 : Vj * (C * A) = Vj * (F * B) := by omega
  have e2 : Vj * (F * B) = Vi * A * F := by omega
  refine ⟨Int.eq_of_mul_eq_mul_left (by omega) e1, ?_, ?_⟩
  · rw [Int.mul_comm F B, ← Int.mul_assoc] at e2
    exact Int.eq_of_mul_eq_mul_right (by omega) e2
  · have e3 : Vi * F * A = Vj * C * A := by
      have : Vi * A * F = Vi * F * A := by rw [Int.mul_assoc, Int.mul_comm A F, ← Int.mul_assoc]
      rw [← this, Int.mul_assoc Vj]; omega
    exact Int.eq_of_mul_eq_mul_right (by omega) e3

/-- along the line no smaller party gains behind a greater one's loss -/
theorem line_thm {E L : Rule} {v a b : List Int} {S : Nat} (hl : place E < place L) (hp : ∀ p ∈ v, 0 < p) (hS : S < 20) (PE : Apport E v S a) (PL : Apport L v S b) {i j : Nat} (hi : i < v.length) (hj : j < v.length) (hij : i ≠ j)
    (hv : v.getD j 0 < v.getD i 0 ∨ (v.getD i 0 = v.getD j 0 ∧ i < j)) (h1 : b.getD i 0 < a.getD i 0) (h2 : a.getD j 0 < b.getD j 0) : False := by
  have hfl := free_line hl
  have pi : 0 < v.getD i 0 := by rw [getD_lt hi]; exact hp _ (List.getElem_mem _)
  have pj : 0 < v.getD j 0 := by rw [getD_lt hj]; exact hp _ (List.getElem_mem _)
  have Vi := Int.mul_pos pi pi
  have Vj := Int.mul_pos pj pj
  have ge1 := PE.ge i hi
  have ge2 := PE.ge j hj
  have ge3 := PL.ge i hi
  have ge4 := PL.ge j hj
  have two : ∀ {r : Rule} {c : List Int}, Apport r v S c → c.getD i 0 + c.getD j 0 ≤ (S : Int) := fun {r c} P => by
    have nn : ∀ x ∈ c, 0 ≤ x := fun x hx => by
      obtain ⟨k, hk, rfl⟩ := List.mem_iff_getElem.mp hx
      have := P.ge k (by have := P.len; omega)
      rw [getD_lt hk] at this; omega
    have hlen := P.len
    rw [← P.sum]
    rcases Nat.lt_or_ge i j with q | q
    · exact sum_two _ nn i j q (by omega)
    · have := sum_two _ nn j i (by omega) (by omega); omega
  have tE := two PE
  have tL := two PL
  -- seats in numbers
  obtain ⟨x, hx⟩ : ∃ x : Nat, a.getD i 0 = ((x + 1 : Nat) : Int) := ⟨(a.getD i 0 - 1).toNat, by clear tE tL PE PL pi pj Vi Vj hv hl; omega⟩
  obtain ⟨y, hy⟩ : ∃ y : Nat, a.getD j 0 = (y : Int) := ⟨(a.getD j 0).toNat, by clear tE tL PE PL pi pj Vi Vj hv hl; omega⟩
  obtain ⟨x', hx'⟩ : ∃ x' : Nat, b.getD i 0 = (x' : Int) := ⟨(b.getD i 0).toNat, by clear tE tL PE PL pi pj Vi Vj hv hl; omega⟩
  obtain ⟨y', hy'⟩ : ∃ y' : Nat, b.getD j 0 = ((y' + 1 : Nat) : Int) := ⟨(b.getD j 0 - 1).toNat, by clear tE tL PE PL pi pj Vi Vj hv hl; omega⟩
  rw [hx, hx'] at h1
  rw [hy, hy'] at h2
  rw [hx, hy] at tE
  rw [hx', hy'] at tL
  rw [hx'] at ge3
  rw [hy] at ge2
  have nums : x' ≤ x ∧ y ≤ y' ∧ free L ≤ x' ∧ free L ≤ y' ∧ free E ≤ y ∧ x < 20 ∧ y' < 20 := by
    clear PE PL pi pj Vi Vj hv hl ge1 ge4 hx hy hx' hy'
    omega
  clear tE tL ge1 ge2 ge3 ge4 h1 h2 two
  obtain ⟨lx, ly, fx', fy', fE, bx, by'⟩ := nums
  have bx' : x' < 20 := Nat.lt_of_le_of_lt lx bx
  have bY : y < 20 := Nat.lt_of_le_of_lt ly by'
  have sub : ∀ {a b : Nat}, a ≤ b → a + (b - a) = b := fun h => Nat.add_sub_of_le h
  have hL := stab_sq pj pi (x := y' - free L) (y := x' - free L) (Nat.lt_of_le_of_lt (Nat.sub_le _ _) by') (Nat.lt_of_le_of_lt (Nat.sub_le _ _) bx') (PL.stab j i (y' - free L) (x' - free L) hj hi (Ne.symm hij) (by rw [hy', sub fy']) (by rw [hx', sub fx']))
  rw [sub fy', sub fx'] at hL
  have s21 : ∀ {n : Nat}, n < 20 → n < 21 := fun h => Nat.lt_succ_of_lt h
  have px' := s_pos L x' (s21 bx')
  have py' := s_pos L y' (s21 by')
  have px := s_pos L x (s21 bx)
  have py := s_pos L y (s21 bY)
  have vle : v.getD j 0 ≤ v.getD i 0 := by clear hL; rcases hv with hv | ⟨hv, _⟩; exact Int.le_of_lt hv; exact Int.le_of_eq hv.symm
  have hVle : v.getD j 0 * v.getD j 0 ≤ v.getD i 0 * v.getD i 0 := sq_le (Int.le_of_lt pj) vle
  have fall : ∀ {s t : Nat}, s ≤ t → t < 20 → free L ≤ s → sn L t * sd L s ≤ sn L s * sd L t := fun {s t} hst ht hs => by
    rcases Nat.eq_or_lt_of_le hst with q | q
    · subst q; exact Int.le_refl _
    · exact Int.le_of_lt (s_fall L t (s21 ht) s q hs)
  rcases Nat.lt_or_ge y x with hyx | hyx
  · -- both ways
    have hE := stab_sq pi pj (x := x - free E) (y := y - free E) (Nat.lt_of_le_of_lt (Nat.sub_le _ _) bx) (Nat.lt_of_le_of_lt (Nat.sub_le _ _) bY) (PE.stab i j (x - free E) (y - free E) hi hj hij (by rw [hx, sub (Nat.le_trans fE (Nat.le_of_lt hyx))]) (by rw [hy, sub fE]))
    rw [sub (Nat.le_trans fE (Nat.le_of_lt hyx)), sub fE] at hE
    have qx := s_pos E x (s21 bx)
    have qy := s_pos E y (s21 bY)
    have m := mono_core (Vi := v.getD i 0 * v.getD i 0) (Vj := v.getD j 0 * v.getD j 0) (N := sn L y) (Q := sd L y) (N' := sn L y') (Q' := sd L y') (M := sn L x) (P := sd L x) (M' := sn L x') (P' := sd L x') Vi Vj py.1 py.2 py'.1 py'.2 px.1 px.2 px'.1 px'.2
      (fall ly by' (Nat.le_trans hfl fE)) (fall lx bx fx') hL
    have ok := line_ok E L hl x (s21 bx) y hyx fE
    unfold lineOk at ok
    simp only [Bool.and_eq_true, Bool.or_eq_true, decide_eq_true_eq] at ok
    have ok1 := ok.1
    clear ok
    have m2 : v.getD i 0 * v.getD i 0 * (sn L x * sd L y) ≤ v.getD j 0 * v.getD j 0 * (sn L y * sd L x) := by
      rcases m with h | ⟨h, _⟩ | h
      · exact Int.le_of_lt h
      · exact Int.le_of_eq h.symm
      · exact Int.le_of_lt h
    have e2 : v.getD j 0 * v.getD j 0 * (sn E y * sd E x) ≤ v.getD i 0 * v.getD i 0 * (sn E x * sd E y) := by
      rcases hE with h | ⟨h, _⟩
      · exact Int.le_of_lt h
      · exact Int.le_of_eq h.symm
    obtain ⟨_, c2, c3⟩ := cross_core Vi Vj (Int.mul_pos qx.1 qy.2) (Int.mul_pos px.1 py.2) e2 m2 ok1
    have hEj : i < j := by
      rcases hE with h | ⟨_, h⟩
      · rw [c2] at h; exact absurd h (Int.lt_irrefl _)
      · exact h
    rcases m with h | ⟨_, h⟩ | h
    · rw [c3] at h; exact absurd h (Int.lt_irrefl _)
    · exact absurd h (Nat.lt_asymm hEj)
    · rw [c3] at h; exact absurd h (Int.lt_irrefl _)
  · -- the later method alone
    have b1 := Int.mul_le_mul_of_nonneg_left (fall (Nat.le_trans lx (Nat.le_trans hyx ly)) by' fx') (Int.le_of_lt Vj)
    have hpos := Int.mul_pos px'.1 py'.2
    have b2 := Int.mul_le_mul_of_nonneg_right hVle (Int.le_of_lt hpos)
    rcases hL with h | ⟨h, hji⟩
    · exact absurd (Int.lt_of_lt_of_le h (Int.le_trans b1 b2)) (Int.lt_irrefl _)
    · rw [h] at b1
      have e := Int.le_antisymm b2 b1
      have e := Int.eq_of_mul_eq_mul_right (Int.ne_of_gt hpos) e
      rcases hv with hv | ⟨_, hv⟩
      · have := sq_lt (Int.le_of_lt pj) hv
        rw [e] at this; exact absurd this (Int.lt_irrefl _)
      · exact absurd hji (Nat.lt_asymm hv)
end Mine
end

section
set_option linter.unusedVariables false
namespace Mine

def lineR : Nat → Rule
  | 0 => .adams
  | 1 => .dean
  | 2 => .hill
  | 3 => .web
  | 4 => .modi
  | _ => .jeff
def atOf (k : Nat) : Nat := [0, 1, 3, 4, 5].getD k 0
def lessOf (at_ u : Nat) : Nat := if at_ = 4 then 0 else u + (if at_ < 2 then 1 else 0)
def posts (at_ : Nat) (more less : Int) : Int × Int :=
  if at_ = 0 then (more, less)
  else if at_ = 1 then (more * (more + 1) * (2 * less + 1), less * (less + 1) * (2 * more + 1))
  else if at_ = 3 then (2 * more + 1, 2 * less + 1)
  else if at_ = 4 then (5 * (2 * more + 1), 7)
  else (more + 1, less + 1)
def served (own at_ less : Nat) (ahead : Bool) : Bool := if own = 4 ∧ at_ = 3 ∧ 0 < less then ahead else (decide (own > at_) || (decide (own = at_) && ahead))
/-- may two parties stand so? -/
def stab2 (r : Rule) (p q : Int) (g s : Nat) : Bool :=
  decide (free r ≤ g) && decide (free r ≤ s) &&
  (decide (g ≤ free r) || decide (pw r p * (dv r (g - 1 - free r)).2 * (dv r (s - free r)).1 ≥ pw r q * (dv r (s - free r)).2 * (dv r (g - 1 - free r)).1)) &&
  (decide (s ≤ free r) || decide (pw r q * (dv r (s - 1 - free r)).2 * (dv r (g - free r)).1 > pw r p * (dv r (g - free r)).2 * (dv r (s - 1 - free r)).1))
def partOk (k u w own : Nat) (ahead : Bool) : Bool :=
  let less := lessOf (atOf k) u
  let more := less + 1 + w
  let pq := posts (atOf k) more less
  let p := if ahead then pq.1 else pq.2
  let q := if ahead then pq.2 else pq.1
  decide (0 < p) && decide (0 < q) && decide (free (lineR own) * 2 ≤ more + less + 1) && decide (p.natAbs < 2 ^ 20) && decide (q.natAbs < 2 ^ 20) &&
  (List.range (more + less + 2)).all fun g => !stab2 (lineR own) p q g (more + less + 1 - g) || decide ((if ahead then g else more + less + 1 - g) > more) == served own (atOf k) less ahead
theorem part_ok : ∀ k, k < 5 → ∀ u, u < 3 → ∀ w, w < 3 → ∀ own, own < 6 → ∀ ahead : Bool, partOk k u w own ahead = true := by decide +kernel

theorem seat_idx (f n : Nat) (h : ¬ n ≤ f) : f + (n - 1 - f) + 1 = n := by omega
theorem two_sum {a0 a1 : Int} {f S : Nat} (h0 : (f : Int) ≤ a0) (h1 : (f : Int) ≤ a1) (h : a0 + a1 = (S : Int)) : (a0.toNat : Int) = a0 ∧ (a1.toNat : Int) = a1 ∧ f ≤ a0.toNat ∧ f ≤ a1.toNat ∧ S - a0.toNat = a1.toNat ∧ a0.toNat < S + 1 := by omega
theorem pair_thm {k u w own : Nat} (hk : k < 5) (hu : u < 3) (hw : w < 3) (ho : own < 6) (ahead : Bool) {v : List Int} {S : Nat}
    (hv : v = (if ahead then [(posts (atOf k) (lessOf (atOf k) u + 1 + w : Nat) (lessOf (atOf k) u : Nat)).1, (posts (atOf k) (lessOf (atOf k) u + 1 + w : Nat) (lessOf (atOf k) u : Nat)).2] else [(posts (atOf k) (lessOf (atOf k) u + 1 + w : Nat) (lessOf (atOf k) u : Nat)).2, (posts (atOf k) (lessOf (atOf k) u + 1 + w : Nat) (lessOf (atOf k) u : Nat)).1]))
    (hS : S = lessOf (atOf k) u + 1 + w + lessOf (atOf k) u + 1) :
    (∀ p ∈ v, 0 < p) ∧ v.length = 2 ∧ (∀ p ∈ v, p.natAbs < 2 ^ 20) ∧ free (lineR own) * 2 ≤ S ∧ S ≤ 10 ∧ ∀ a, Apport (lineR own) v S a → decide (a.getD (if ahead then 0 else 1) 0 > ((lessOf (atOf k) u + 1 + w : Nat) : Int)) = served own (atOf k) (lessOf (atOf k) u) ahead := by
  have h := part_ok k hk u hu w hw own ho ahead
  unfold partOk at h
  dsimp only at h
  simp only [Bool.and_eq_true, decide_eq_true_eq] at h
  obtain ⟨⟨⟨⟨⟨h1, h2⟩, h3⟩, h4⟩, h5⟩, h6⟩ := h
  have hless : lessOf (atOf k) u ≤ 3 := by
    unfold lessOf; split
    · omega
    · split <;> omega
  generalize lessOf (atOf k) u = less at *
  generalize hp : (if ahead = true then (posts (atOf k) ((less + 1 + w : Nat) : Int) (less : Int)).1 else (posts (atOf k) ((less + 1 + w : Nat) : Int) (less : Int)).2) = p at *
  generalize hq : (if ahead = true then (posts (atOf k) ((less + 1 + w : Nat) : Int) (less : Int)).2 else (posts (atOf k) ((less + 1 + w : Nat) : Int) (less : Int)).1) = q at *
  have hv2 : v = [p, q] := by rw [hv, ← hp, ← hq]; cases ahead <;> rfl
  clear hv hp hq
  subst hv2
  subst hS
  refine ⟨fun z hz => ?_, rfl, fun z hz => ?_, by omega, by omega, fun a P => ?_⟩
  · rcases List.mem_cons.mp hz with rfl | hz
    · exact h1
    · rw [List.mem_singleton] at hz; subst hz; exact h2
  · rcases List.mem_cons.mp hz with rfl | hz
    · exact h4
    · rw [List.mem_singleton] at hz; subst hz; exact h5
  have hl := P.len
  obtain ⟨a0, a1, rfl⟩ : ∃ a0 a1, a = [a0, a1] := by
    match a, hl with
    | [a0, a1], _ => exact ⟨a0, a1, rfl⟩
  have hsum : a0 + a1 = ((less + 1 + w + less + 1 : Nat) : Int) := by
    have := P.sum
    rw [List.sum_cons, List.sum_cons, List.sum_nil, Int.add_zero] at this
    exact this
  have g0 : (free (lineR own) : Int) ≤ a0 := P.ge 0 (by show 0 < 2; decide)
  have g1 : (free (lineR own) : Int) ≤ a1 := P.ge 1 (by show 1 < 2; decide)
  obtain ⟨e0, e1, f0, f1, es, el⟩ := two_sum g0 g1 hsum
  have s01 := P.stab 0 1 (a0.toNat - 1 - free (lineR own)) (a1.toNat - free (lineR own)) (by show 0 < 2; decide) (by show 1 < 2; decide) (by decide)
  have s10 := P.stab 1 0 (a1.toNat - 1 - free (lineR own)) (a0.toNat - free (lineR own)) (by show 1 < 2; decide) (by show 0 < 2; decide) (by decide)
  have s01 : a0 = _ → a1 = _ → pw _ p * _ * _ > pw _ q * _ * _ ∨ (pw _ p * _ * _ = pw _ q * _ * _ ∧ _) := s01
  have s10 : a1 = _ → a0 = _ → pw _ q * _ * _ > pw _ p * _ * _ ∨ (pw _ q * _ * _ = pw _ p * _ * _ ∧ _) := s10
  have hst : stab2 (lineR own) p q a0.toNat (less + 1 + w + less + 1 - a0.toNat) = true := by
    rw [es]
    unfold stab2
    simp only [Bool.and_eq_true, Bool.or_eq_true, decide_eq_true_eq]
    refine ⟨⟨⟨f0, f1⟩, ?_⟩, ?_⟩
    · by_cases q : a0.toNat ≤ free (lineR own)
      · exact .inl q
      · refine .inr ?_
        rcases s01 (by rw [seat_idx _ _ q]; exact e0.symm) (by rw [Nat.add_sub_of_le f1]; exact e1.symm) with z | ⟨z, _⟩
        · exact Int.le_of_lt z
        · exact Int.le_of_eq z.symm
    · by_cases q : a1.toNat ≤ free (lineR own)
      · exact .inl q
      · refine .inr ?_
        rcases s10 (by rw [seat_idx _ _ q]; exact e1.symm) (by rw [Nat.add_sub_of_le f0]; exact e0.symm) with z | ⟨_, z⟩
        · exact z
        · exact absurd z (by decide)
  have := List.all_eq_true.mp h6 a0.toNat (List.mem_range.mpr el)
  rw [hst, es] at this
  simp only [Bool.not_true, Bool.false_or, beq_iff_eq] at this
  rw [← this]
  cases ahead with
  | true =>
    show decide (a0 > _) = decide (a0.toNat > _)
    rw [decide_eq_decide]
    exact ⟨fun h => Int.ofNat_lt.mp (by rw [e0]; exact h), fun h => by rw [← e0]; exact Int.ofNat_lt.mpr h⟩
  | false =>
    show decide (a1 > _) = decide (a1.toNat > _)
    rw [decide_eq_decide]
    exact ⟨fun h => Int.ofNat_lt.mp (by rw [e1]; exact h), fun h => by rw [← e1]; exact Int.ofNat_lt.mpr h⟩
end Mine
end

section
open PySem PySem.W PyProof.Rows PySem.Calls PySem.SeqAt
set_option linter.unusedVariables false
set_option maxRecDepth 100000
namespace Mine

local macro_rules | `(tactic| walk_at "ev") => `(tactic| first
  | exact ev_int | exact ev_bool | exact ev_none | exact ev_str
  | exact ev_name rfl rfl
  | (refine ev_add ?_ ?_ <;> walk_at "ev")
  | (refine ev_sub ?_ ?_ <;> walk_at "ev")
  | (refine ev_neg ?_ <;> walk_at "ev"))
local macro_rules | `(tactic| walk_at "args") => `(tactic| first
  | exact evargs_nil
  | (refine evargs_cons ?_ ?_ rfl; (walk_at "ev"); (walk_at "args")))
local macro_rules | `(tactic| walk_at "sub") => `(tactic| repeat (first | exact .nil | refine .cons rfl ?_))
local macro_rules | `(tactic| walk_at "over") => `(tactic| repeat (first | exact .nil | refine .cons rfl rfl rfl ?_))

theorem sliceP_map {α β : Type} (f : α → β) (l : List α) (lo hi) : sliceP (l.map f) lo hi = (sliceP l lo hi).map f := by
  unfold sliceP; rw [List.length_map, List.map_take, List.map_drop]
theorem sliceP_mem {α : Type} {l : List α} {lo hi} {x : α} (h : x ∈ sliceP l lo hi) : x ∈ l := List.mem_of_mem_drop (List.mem_of_mem_take h)
theorem clip_cast (n a : Nat) : clipAt n (a : Int) = min a n := by
  unfold clipAt
  rw [if_neg (Int.not_lt.mpr (Int.natCast_nonneg a))]
  omega
theorem sliceP_len {α : Type} (l : List α) (a b : Nat) : (sliceP l (some (a : Int)) (some (b : Int))).length ≤ b - a := by
  unfold sliceP
  rw [List.length_take]
  show min (clipAt l.length (b : Int) - clipAt l.length (a : Int)) _ ≤ b - a
  rw [clip_cast, clip_cast]
  refine Nat.le_trans (Nat.min_le_left _ _) ?_
  generalize l.length = n
  omega

def hdOf (ns : List Int) : Int := ns.getD 0 0
def v0Of (ns : List Int) : List Int := (sliceP ns (some 1) (some 6)).map fun x => (x.natAbs : Int) + 1
def vOf (ns : List Int) : List Int := if v0Of ns = [] then [1] else v0Of ns
def psOf (v : List Int) : List (Int × Int) := (List.range v.length).map fun i => (-(v.getD i 0), (i : Int))
def ordOf (v : List Int) : List Nat := permP (psOf v)

theorem vOf_ok (ns : List Int) : 1 ≤ (vOf ns).length ∧ (vOf ns).length ≤ 5 ∧ ∀ p ∈ vOf ns, 0 < p := by
  unfold vOf
  split
  · exact ⟨by decide, by decide, by decide⟩
  · rename_i h
    have : (v0Of ns).length ≤ 5 := by unfold v0Of; rw [List.length_map]; exact sliceP_len ns 1 6
    refine ⟨List.length_pos_iff.mpr h, this, fun p hp => ?_⟩
    unfold v0Of at hp
    obtain ⟨x, _, rfl⟩ := List.mem_map.mp hp
    omega
theorem vOf_small {ns : List Int} {B : Nat} (h : ∀ x ∈ ns, x.natAbs < 2 ^ B) : ∀ p ∈ vOf ns, p.natAbs < 2 ^ (B + 1) := by
  have h1 : 1 < 2 ^ (B + 1) := by rw [Nat.pow_succ]; have := Nat.one_le_two_pow (n := B); omega
  unfold vOf
  split
  · intro p hp; rw [List.mem_singleton] at hp; subst hp; exact h1
  · intro p hp
    unfold v0Of at hp
    obtain ⟨x, hx, rfl⟩ := List.mem_map.mp hp
    have := h x (sliceP_mem hx)
    rw [Nat.pow_succ]
    omega
theorem psOf_order {v : List Int} (h : v.length ≤ 5) : Order (psOf v) (ordOf v) := by
  have hl : (psOf v).length = v.length := by unfold psOf; simp
  refine permP_order (by omega) fun i j hij hj e => ?_
  have g : ∀ i, i < v.length → (psOf v).getD i (0, 0) = (-(v.getD i 0), (i : Int)) := fun i hi => by
    unfold psOf; rw [List.getD, List.getElem?_map, List.getElem?_range hi]; rfl
  rw [g i (by omega), g j (by omega)] at e
  have := congrArg Prod.snd e
  simp at this
  omega
theorem sortP_snd (v : List Int) (h : v.length ≤ 5) : (sortP (psOf v)).map (·.2) = (ordOf v).map fun (i : Nat) => (i : Int) := by
  unfold sortP
  rw [List.map_map]
  refine List.map_congr_left fun i hi => ?_
  have hi := (psOf_order h).lt i hi
  have hl : (psOf v).length = v.length := by unfold psOf; simp
  show ((psOf v).getD i (0, 0)).2 = _
  unfold psOf
  rw [List.getD, List.getElem?_map, List.getElem?_range (by omega)]; rfl

section
variable {W : Wk} {A : Around} {hid : PMap} {env : Env} {vars : Vars} {mu : Mu} {K : Out → Prop}
abbrev lEnv (p : Program) (a L : Addr) (dV kV doc pm : Value) (an : Option Addr) (cdv ct : Value) : Env := fEnv (fnOf "law" "law" (argsOf p "law") (bodyOf p "law") (scopeOf p "law") dV kV doc pm an cdv ct) a L

theorem isEmpty_of {l : List Int} : ((l.map PV.int).isEmpty) = decide (l = []) := by cases l <;> simp

theorem law_A {a L : Addr} {dV kV doc pm an cdv ct} {ns : List Int} {rest : List Stmt} (N : Names W) (ao : AOk W A 0) (hn : ns.length ≤ 63)
    (hs : ∀ x, (scopeOf p1 "law").names.lookup x = some .local ∨ (scopeOf p1 "law").names.lookup x = some .cell → Sto hid (lEnv p1 a L dV kV doc pm an cdv ct) x)
    (k : Exs W A hid (lEnv p1 a L dV kV doc pm an cdv ct) [("order", listI ((ordOf (vOf ns)).map fun (i : Nat) => (i : Int))), ("seats", .int ((vOf ns).length + (hdOf ns).fmod 6)), ("votes", listI (vOf ns)), ("head", .int (hdOf ns))] [] rest K) :
    Exs W A hid (lEnv p1 a L dV kV doc pm an cdv ct) [("script", listI ns)] [] ((bodyOf p1 "law").take 4 ++ rest) K := by
  have E : EnvOk (lEnv p1 a L dV kV doc pm an cdv ct) := ⟨rfl, rfl, rfl⟩
  obtain ⟨hv1, hv5, hvp⟩ := vOf_ok ns
  show Exs _ _ _ _ _ _ ((bodyOf p1 "law").getD 0 (.Pass default) :: (bodyOf p1 "law").getD 1 (.Pass default) :: (bodyOf p1 "law").getD 2 (.Pass default) :: (bodyOf p1 "law").getD 3 (.Pass default) :: rest) K
  refine exs_next (v := [("head", .int (hdOf ns)), ("script", listI ns)]) (ex_assign (d := .int (hdOf ns)) ?_ (hs _ (.inl rfl)) rfl rfl rfl) ?_
  · refine ev_if (x := !decide (ns = [])) ?_ (fun e => ?_) (fun e => ?_)
    · refine tr_of (d := listI ns) (ev_name rfl rfl) ?_ (fun _ => rfl)
      show (_ = !(ns.map PV.int).isEmpty) ∧ _
      rw [isEmpty_of, List.length_map]
      exact ⟨rfl, by omega⟩
    · have h0 : 0 < ns.length := List.length_pos_iff.mpr (by simpa using e)
      refine ev_idx (l := ns.map .int) (ev_name rfl rfl) ev_int AsList.list (by omega) (by rw [List.length_map]; omega) (by rw [List.length_map]; omega) ?_
      rw [show idx 0 (ns.map PV.int).length = 0 from idx_nat 0 _]
      exact getD_map_int _ _ h0
    · have h0 : ns = [] := by simpa using e
      subst h0
      exact ev_int
  refine exs_next (v := [("votes", listI (vOf ns)), ("head", .int (hdOf ns)), ("script", listI ns)]) (ex_assign (d := listI (vOf ns)) ?_ (hs _ (.inr rfl)) rfl rfl rfl) ?_
  · refine ev_or (da := listI (v0Of ns)) (x := !decide (v0Of ns = [])) ?_ ?_ (fun e => ?_) (fun e => ?_)
    · have h : listI (v0Of ns) = .list ((sliceP ns (some 1) (some 6)).map fun x => .int ((x.natAbs : Int) + 1)) := by
        unfold v0Of listI; rw [List.map_map]; rfl
      rw [h]
      refine EvNew.ev (evnew_compA (α := Int) (mk := .int) (xs := sliceP ns (some 1) (some 6)) (f := fun x => .int ((x.natAbs : Int) + 1)) (d := listI (sliceP ns (some 1) (some 6))) (vars' := []) (tv := fun x => [("number", .int x)])
        ⟨inj_int, ao.handled, rfl, ?_, .list AsList.list, ⟨rfl, rfl, by decide⟩, .nil, fun _ => rfl, .any fun _ _ => rfl, by have := sliceP_len ns 1 6; have e : ((1 : Nat) : Int) = 1 := rfl; have e2 : ((6 : Nat) : Int) = 6 := rfl; rw [e, e2] at this; omega, fun hid' C x _ o => tgt_name (store_own hid' rfl) rfl rfl, fun hid' C x hx => ?_, fun x _ => .nil⟩)
      · show Ev _ _ _ _ _ _ _ (.list ((sliceP ns (some 1) (some 6)).map .int))
        rw [← sliceP_map]
        exact EvNew.ev (evnew_slice (l := ns.map .int) (ev_name rfl rfl) AsList.list (by rw [List.length_map]; omega) (.some ev_int) (.some ev_int))
      · exact ev_add (ev_abs N ⟨rfl, rfl, rfl⟩ (ev_name rfl rfl) rfl rfl) ev_int
    · show (_ = !((v0Of ns).map PV.int).isEmpty) ∧ _
      rw [isEmpty_of, List.length_map]
      refine ⟨rfl, ?_⟩
      have : (v0Of ns).length ≤ 5 := by unfold v0Of; rw [List.length_map]; exact sliceP_len ns 1 6
      omega
    · have e : v0Of ns ≠ [] := by simpa using e
      unfold vOf; rw [if_neg e]
    · have e : v0Of ns = [] := by simpa using e
      have : vOf ns = [1] := by unfold vOf; rw [if_pos e]
      rw [this]
      exact ev_list (evargs_cons ev_int evargs_nil rfl) (Nat.le_of_ble_eq_true rfl)
  refine exs_next (ex_assign (ev_add (ev_len N E (ev_name rfl rfl) AsList.list (by rw [List.length_map]; omega) rfl rfl) (ev_mod (ev_name rfl rfl) ev_int (by decide))) (hs _ (.inl rfl)) rfl rfl rfl) ?_
  have hpl : (psOf (vOf ns)).length = (vOf ns).length := by unfold psOf; simp
  have O := psOf_order hv5
  refine exs_next (ex_compA (α := Int × Int) (mk := pairI) (xs := sortP (psOf (vOf ns))) (f := fun d => .int d.2) (d := .list ((sortP (psOf (vOf ns))).map pairI)) (vars' := []) (tv := fun d => [("place", .int d.2), ("less", .int d.1)])
    ⟨fun a b h => by injection h with h; injection h with h1 h2; injection h2 with h2; injection h1 with h1; injection h2 with h2; exact Prod.ext h1 h2, ao.handled, rfl, ?_, .list AsList.list, ⟨rfl, rfl, by decide⟩, .nil, fun _ => rfl, .tup rfl AsList.list (fun a ha => by obtain ⟨d, _, rfl⟩ := List.mem_map.mp ha; exact ⟨_, rfl⟩), ?_, fun hid' C d _ o => tgt_tuple ao.handled rfl (.cons (store_own hid' rfl) rfl (.cons (store_own hid' rfl) rfl .nil)), fun hid' C d hd => ev_name rfl rfl, fun d _ => .nil⟩ rfl rfl rfl) ?_
  · refine ev_sortedP N E (EvNew.ev (evnew_compA (α := Nat) (mk := fun i => .int (i : Int)) (xs := List.range (vOf ns).length) (f := fun i => pairI (-((vOf ns).getD i 0), (i : Int))) (vars' := [("votes", listI (vOf ns))]) (tv := fun i => [("i", .int (i : Int)), ("votes", listI (vOf ns))])
      ⟨inj_nat, ao.handled, rfl, ?_, src_rng (by omega), ⟨rfl, rfl, by decide⟩, by walk_at "over", fun _ => rfl, .any fun _ _ => rfl, by rw [List.length_range]; omega, fun hid' C i hi o => tgt_name (store_own hid' rfl) rfl rfl, fun hid' C i hi => ?_, fun i _ => by walk_at "sub"⟩)) (ps := psOf (vOf ns)) ?_ (by omega) ?_ (by rw [← O.len]; rfl) O.lt rfl rfl
    · rw [show (((vOf ns).length : Nat) : Int) = (((vOf ns).map PV.int).length : Nat) by rw [List.length_map]]
      exact ev_range1 N E (ev_len N E (ev_name rfl rfl) AsList.list (by rw [List.length_map]; omega) rfl rfl) rfl rfl
    · have hi := List.mem_range.mp hi
      exact ev_tup2 (ev_neg (ev_iidx (xs := (vOf ns)) (ev_name rfl rfl) (ev_name rfl rfl) AsList.list (by omega) (by omega))) (ev_name rfl rfl) rfl rfl
    · unfold psOf; rw [List.map_map]; exact AsList.list
    · by_cases q : (psOf (vOf ns)).length < 2
      · exact .inl q
      · exact .inr (asks5 _ (by omega) (by omega))
  · have := O.len
    unfold sortP
    rw [List.length_map]
    show (ordOf (vOf ns)).length ≤ _
    omega
  have e : (sortP (psOf (vOf ns))).map (fun d => PV.int d.2) = ((ordOf (vOf ns)).map fun (i : Nat) => (i : Int)).map .int := by
    rw [← sortP_snd _ hv5, List.map_map]; rfl
  rw [e]
  refine run_forget ?_ (List.Sublist.refl _) k
  refine .cons rfl (.cons ?_ (.cons rfl (.cons rfl .nil)))
  show some (PV.int ((((vOf ns).map PV.int).length : Nat) + (hdOf ns).fmod 6)) = _
  rw [List.length_map]
end
end Mine
end

section
open PySem PySem.W PyProof.Rows PySem.Calls PySem.SeqAt
set_option linter.unusedVariables false
set_option maxRecDepth 100000
namespace Mine

local macro_rules | `(tactic| walk_at "ev") => `(tactic| first
  | exact ev_int | exact ev_bool | exact ev_none | exact ev_str
  | exact ev_name rfl rfl
  | (refine ev_add ?_ ?_ <;> walk_at "ev")
  | (refine ev_sub ?_ ?_ <;> walk_at "ev")
  | (refine ev_neg ?_ <;> walk_at "ev"))
local macro_rules | `(tactic| walk_at "sub") => `(tactic| repeat (first | exact .nil | refine .cons rfl ?_))
local macro_rules | `(tactic| walk_at "over") => `(tactic| repeat (first | exact .nil | refine .cons rfl rfl rfl ?_))

def rulesL : List Rule := [.adams, .dean, .hill, .web, .modi, .jeff]
abbrev strsV (l : List Str) : PV := .list (l.map .str)
abbrev lineV : PV := .list (rulesL.map fun r => strsV (ruleNames r))
theorem inj_strs : ∀ a b : List Str, strsV a = strsV b → a = b := fun a b h => by
  injection h with h
  exact (List.map_inj_right (fun a b h => by injection h)).mp h
def nmOf (r : Rule) (hd : Int) : Str := (ruleNames r).getD ((hd.fdiv 6).fmod ((ruleNames r).length : Nat)).toNat ""
theorem names_pos (r : Rule) : 0 < (ruleNames r).length ∧ (ruleNames r).length ≤ 3 := by cases r <;> decide
theorem nmOf_mem (r : Rule) (hd : Int) : nmOf r hd ∈ ruleNames r := by
  obtain ⟨u, hu, e⟩ := fmod_lt (hd.fdiv 6) (names_pos r).1
  unfold nmOf
  rw [e, Int.toNat_natCast, List.getD, List.getElem?_eq_getElem hu]
  exact List.getElem_mem _

/-- what the law's votes and seats must be -/
structure VS (v : List Int) (S B : Nat) : Prop where
  n1 : 1 ≤ v.length
  n5 : v.length ≤ 5
  pos : ∀ p ∈ v, 0 < p
  s1 : v.length ≤ S
  s2 : S ≤ 10
  hB : ∀ p ∈ v, p.natAbs < 2 ^ B
  hB2 : B ≤ 10 ^ 7
theorem VS.pre {v S B} (h : VS v S B) {r : Rule} {nm : Str} (hm : nm ∈ ruleNames r) : DivPre r v S B nm :=
  ⟨by have := h.s2; omega, h.n1, by have := h.n5; omega, fun _ _ _ => h.s1, (names_ok r nm hm).2.2.2, by have h1 := Nat.mul_le_mul h.n5 h.s2; omega, h.hB, h.hB2⟩
theorem VS.app {v S B} (h : VS v S B) (r : Rule) : Apport r v S (divF r v S) :=
  divF_ok h.pos h.n1 (by have := h.s2; omega) (by have := h.s1; cases r <;> simp [free] <;> omega)

def told (v : List Int) (S : Nat) (r : Rule) : List Int := (ordOf v).map fun i => (divF r v S).getD i 0

section
variable {W : Wk} {A : Around} {hid : PMap} {env : Env} {vars : Vars} {mu : Mu} {K : Out → Prop}

/-- names[head // 6 % len(names)] -/
theorem ev_nm {e1 e2 e3 : Expr} {p1 p2 p3 p4 p5 pos : Pos} {hd : Int} {r : Rule} (N : Names W) (E : EnvOk env) (ao : AOk W A 0) (h1 : Ev W A hid env vars mu e1 (strsV (ruleNames r))) (h2 : Ev W A hid env vars mu e2 (.int hd)) (h3 : Ev W A hid env vars mu e3 (strsV (ruleNames r)))
    (hx : env.kindOf "len" = some .globalImplicit) (hs : starEach [e3] env = [(false, eval e3 env)]) :
    Ev W A hid env vars mu (.Subscript e1 (.BinOp (.BinOp e2 .FloorDiv (.Constant (.int 6) 0 p1) p2) .Mod (.Call (.Name "len" p3) [e3] [] p4) p5) pos) (.str (nmOf r hd)) := by
  obtain ⟨u, hu, e⟩ := fmod_lt (hd.fdiv 6) (names_pos r).1
  have hnp := names_pos r
  have hm := ev_mod (pos := p5) (ev_fdiv (pos := p2) N.ok ao h2 (ev_int (i := 6) (k := 0) (pos := p1)) (by decide)) (ev_len (np := p3) (pos := p4) N E h3 AsList.list (by rw [List.length_map]; omega) hx hs) (by rw [List.length_map]; omega)
  rw [List.length_map, e] at hm
  refine ev_idx (l := (ruleNames r).map .str) h1 hm AsList.list (by omega) (by rw [List.length_map]; omega) (by rw [List.length_map]; omega) ?_
  rw [List.length_map, idx_nat, List.getElem?_map, List.getElem?_eq_getElem hu]
  unfold nmOf
  rw [e, Int.toNat_natCast, List.getD, List.getElem?_eq_getElem hu]; rfl

abbrev vB (v : List Int) (S : Nat) (hd : Int) (D : Addr) : Vars := [("line", .loc D), ("order", listI ((ordOf v).map fun (i : Nat) => (i : Int))), ("seats", .int (S : Int)), ("votes", listI v), ("head", .int hd)]
abbrev muB (v : List Int) (S : Nat) (D : Addr) : Mu := [(D, rulesL.map fun r => listI (told v S r))]

theorem law_B {a L : Addr} {dV kV doc pm an cdv ct} {v : List Int} {S B : Nat} {hd : Int} {rest : List Stmt} (D : Defs W) (G : GData W "_law_line" lineV) (ao : AOk W A 2) (H : VS v S B)
    (hs : ∀ x, (scopeOf p1 "law").names.lookup x = some .local ∨ (scopeOf p1 "law").names.lookup x = some .cell → Sto hid (lEnv p1 a L dV kV doc pm an cdv ct) x)
    (k : ∀ C, Exs W A hid (lEnv p1 a L dV kV doc pm an cdv ct) (vB v S hd C) (muB v S C) rest K) :
    Exs W A hid (lEnv p1 a L dV kV doc pm an cdv ct) [("order", listI ((ordOf v).map fun (i : Nat) => (i : Int))), ("seats", .int (S : Int)), ("votes", listI v), ("head", .int hd)] [] ((bodyOf p1 "law").getD 4 (.Pass default) :: (bodyOf p1 "law").getD 5 (.Pass default) :: rest) K := by
  have N := D.nm
  have E : EnvOk (lEnv p1 a L dV kV doc pm an cdv ct) := ⟨rfl, rfl, rfl⟩
  have ao0 : AOk W A 0 := ⟨ao.handled, by have := ao.depth; omega, by have := ao.units; omega, ao.frames⟩
  have hn5 := H.n5
  have O := psOf_order hn5
  have hpl : (psOf v).length = v.length := by unfold psOf; simp
  refine exs_own (ds := []) (ex_own (evnew_list evargs_nil (by decide)) (hs _ (.inl rfl)) rfl rfl rfl) (fun C => ?_)
  refine exs_next (ex_for_xs (fun r => strsV (ruleNames r)) rulesL (fun i vv m => vv = vB v S hd C ∧ m = [(C, (rulesL.take i).map fun r => listI (told v S r))]) ao.handled (ev_gdata N E G rfl (by decide +kernel)) (fun _ _ _ _ => .list AsList.list) ⟨rfl, rfl⟩ (hs _ (.inl rfl)) rfl rfl (fun _ => rfl) ?_ ?_) (k C)
  · rintro hid' i vv m r hsto hr ⟨rfl, rfl⟩
    have hmem := nmOf_mem r hd
    have AP := H.app r
    have hlen : (divF r v S).length = v.length := AP.len
    have hsum : (divF r v S).sum = (S : Int) := AP.sum
    refine exs_next (ex_assign (d := listI (divF r v S)) (ev_call_def N E ao D.hcp rfl (by decide +kernel) (evargs3 (ev_nm N E ao0 (ev_name rfl rfl) (ev_name rfl rfl) (ev_name rfl rfl) rfl rfl) (ev_name rfl rfl) (ev_name rfl rfl) rfl rfl rfl) (cp_spec D hmem (H.pre hmem)) rfl) (hsto _ (hs _ (.inr rfl))) rfl rfl rfl) ?_
    refine exs_next (ex_if (x := false) ?_ (fun e => nomatch e) (fun _ => exs_nil rfl)) ?_
    · have e : false = (((((divF r v S).map PV.int).length : Nat) : Int) != (((v.map PV.int).length : Nat) : Int) || (divF r v S).sum != (S : Int)) := by
        rw [List.length_map, List.length_map, hlen, hsum]; simp
      rw [e]
      exact tr_or2 (tr_cmp (ev_len N E (ev_name rfl rfl) AsList.list (by rw [List.length_map]; omega) rfl rfl) (ev_len N E (ev_name rfl rfl) AsList.list (by rw [List.length_map]; omega) rfl rfl) rfl c_ne) fun _ => tr_cmp (ev_sum N E ao.handled (ev_name rfl rfl) AsList.list rfl rfl) (ev_name rfl rfl) rfl c_ne
    have hst := lt_of_get hr
    have h6 : rulesL.length = 6 := rfl
    refine exs_next (ex_append (m1 := []) (m2 := []) (a := C) (d := listI (told v S r)) (ev_name rfl rfl) ?_ (by rw [List.length_map, List.length_take]; omega) rfl rfl rfl rfl rfl) (exs_nil ⟨vB v S hd C, _, by walk_at "sub", List.Sublist.refl _, rfl, ?_⟩)
    · have e : listI (told v S r) = .list ((ordOf v).map fun i => .int ((divF r v S).getD i 0)) := by
        unfold told listI; rw [List.map_map]; rfl
      rw [e]
      refine EvNew.ev (evnew_compA (α := Nat) (mk := fun i => .int (i : Int)) (xs := ordOf v) (d := listI ((ordOf v).map fun (i : Nat) => (i : Int))) (vars' := [("told", listI (divF r v S))]) (tv := fun i => [("i", .int (i : Int)), ("told", listI (divF r v S))])
        ⟨inj_nat, ao.handled, rfl, ev_name rfl rfl, ?_, ⟨rfl, rfl, by decide⟩, by walk_at "over", fun _ => rfl, .any fun _ _ => rfl, by have := O.len; omega, fun hid' C i hi o => tgt_name (store_own hid' rfl) rfl rfl, fun hid' C i hi => ?_, fun i _ => by walk_at "sub"⟩)
      · unfold listI; rw [List.map_map]; exact .list AsList.list
      · have hi := O.lt i hi
        exact ev_iidx (xs := (divF r v S)) (ev_name rfl rfl) (ev_name rfl rfl) AsList.list (by omega) (by omega)
    · have : rulesL.take (i + 1) = rulesL.take i ++ [r] := by rw [List.take_add_one, hr]; rfl
      rw [this, List.map_append]; rfl
  · rintro vv m ⟨rfl, rfl⟩
    rfl
end
end Mine
end

section
open PySem PySem.W PyProof.Rows PySem.Calls PySem.SeqAt
set_option linter.unusedVariables false
set_option maxRecDepth 100000
namespace Mine

local macro_rules | `(tactic| walk_at "sub") => `(tactic| repeat (first | exact .nil | refine .cons rfl ?_))

theorem rulesL_get {i : Nat} (h : i < 6) : rulesL[i]? = some (rulesL.getD i .jeff) ∧ place (rulesL.getD i .jeff) = i := by
  revert h; revert i; decide +kernel
theorem told_len {v S r} (h : v.length ≤ 5) : (told v S r).length = v.length := by
  have := (psOf_order h).len
  have hpl : (psOf v).length = v.length := by unfold psOf; simp
  unfold told; rw [List.length_map]; omega
theorem told_get {v S r} {k : Nat} (h5 : v.length ≤ 5) (h : k < v.length) : (told v S r).getD k 0 = (divF r v S).getD ((ordOf v).getD k 0) 0 := by
  have := (psOf_order h5).len
  have hpl : (psOf v).length = v.length := by unfold psOf; simp
  unfold told
  have e : (ordOf v).getD k 0 = (ordOf v)[k]'(by omega) := by rw [List.getD, List.getElem?_eq_getElem (by omega)]; rfl
  rw [e, List.getD, List.getElem?_map, List.getElem?_eq_getElem (by omega)]; rfl
theorem no_gain {v : List Int} {S B : Nat} (H : VS v S B) {E L : Rule} (hl : place E < place L) {k' k : Nat} (hk : k' < k) (hkn : k < v.length) (h1 : (told v S L).getD k' 0 < (told v S E).getD k' 0) (h2 : (told v S L).getD k 0 > (told v S E).getD k 0) : False := by
  have h5 := H.n5
  have O := psOf_order h5
  have hpl : (psOf v).length = v.length := by unfold psOf; simp
  rw [told_get h5 (by omega), told_get h5 (by omega)] at h1
  rw [told_get h5 hkn, told_get h5 hkn] at h2
  have gk : ∀ k, k < v.length → (ordOf v).getD k 0 < v.length := fun k hk => by
    have := O.len
    rw [List.getD, List.getElem?_eq_getElem (by omega), ← hpl]; exact O.lt _ (List.getElem_mem _)
  have ha := O.after (k - k') k' (by omega)
  rw [show k' + (k - k') = k by omega] at ha
  unfold askP at ha
  have g : ∀ i, i < v.length → (psOf v).getD i (0, 0) = (-(v.getD i 0), (i : Int)) := fun i hi => by
    unfold psOf; rw [List.getD, List.getElem?_map, List.getElem?_range hi]; rfl
  have i1 := gk k' (by omega)
  have j1 := gk k hkn
  rw [g _ j1, g _ i1, lexlt_iff] at ha
  dsimp only at ha
  by_cases e : (ordOf v).getD k' 0 = (ordOf v).getD k 0
  · rw [e] at h1; omega
  · exact line_thm hl H.pos (by have := H.s2; omega) (H.app E) (H.app L) i1 j1 e (by omega) h1 h2

section
variable {W : Wk} {A : Around} {hid : PMap} {env : Env} {vars : Vars} {mu : Mu} {K : Out → Prop}

theorem law_C {a L : Addr} {dV kV doc pm an cdv ct} {v : List Int} {S B : Nat} {hd : Int} {C : Addr} (N : Names W) (ao : AOk W A 0) (H : VS v S B)
    (hs : ∀ x, (scopeOf p1 "law").names.lookup x = some .local ∨ (scopeOf p1 "law").names.lookup x = some .cell → Sto hid (lEnv p1 a L dV kV doc pm an cdv ct) x) :
    Ex1 W A hid (lEnv p1 a L dV kV doc pm an cdv ct) (vB v S hd C) (muB v S C) ((bodyOf p1 "law").getD 6 (.Pass default)) (· = .next (vB v S hd C) (muB v S C)) := by
  have E : EnvOk (lEnv p1 a L dV kV doc pm an cdv ct) := ⟨rfl, rfl, rfl⟩
  have h5 := H.n5
  refine ex_for_rng1 (n := 6) (fun _ vv m => vv = vB v S hd C ∧ m = muB v S C) ao.handled ?_ (by omega) ⟨rfl, rfl⟩ (hs _ (.inl rfl)) rfl rfl (fun _ => rfl) ?_ ?_
  · exact ev_range2 N E ev_int (ev_len (l := rulesL.map fun r => listI (told v S r)) N E (ev_name rfl rfl) (.inr ⟨C, rfl, .head _⟩) (by show (6 : Nat) < 2 ^ 62; decide) rfl rfl) rfl rfl rfl
  · rintro hid1 l vv m hsto1 hl ⟨rfl, rfl⟩
    refine exs_next (v := (("late" : Str), PV.int ((l + 1 : Nat) : Int)) :: vB v S hd C) (m := muB v S C) (ex_for_rng (n := l + 1) (fun _ vv m => vv = (("late" : Str), PV.int ((l + 1 : Nat) : Int)) :: vB v S hd C ∧ m = muB v S C) ao.handled (ev_range1 N E (ev_name rfl rfl) rfl rfl) (by omega) ⟨rfl, rfl⟩ (hsto1 _ (hs _ (.inl rfl))) rfl rfl (fun _ => rfl) ?_ ?_) (exs_nil ⟨vB v S hd C, _, by walk_at "sub", List.Sublist.refl _, rfl, rfl⟩)
    · rintro hid2 e vv m hsto2 he ⟨rfl, rfl⟩
      obtain ⟨hlr, hlp⟩ := rulesL_get (show l + 1 < 6 by omega)
      obtain ⟨her, hep⟩ := rulesL_get (show e < 6 by omega)
      generalize rulesL.getD (l + 1) .jeff = RL at *
      generalize rulesL.getD e .jeff = RE at *
      refine exs_next (ex_assign ev_bool (hsto2 _ (hsto1 _ (hs _ (.inl rfl)))) rfl rfl rfl) ?_
      refine exs_cons (K' := fun o => ∃ b, o = .next ((("fallen" : Str), PV.bool b) :: ("early", .int (e : Int)) :: ("late", PV.int ((l + 1 : Nat) : Int)) :: vB v S hd C) (muB v S C)) (ex_for_rng (n := v.length) (fun k vv m => ∃ b, vv = (("fallen" : Str), PV.bool b) :: ("early", .int (e : Int)) :: ("late", PV.int ((l + 1 : Nat) : Int)) :: vB v S hd C ∧ m = muB v S C ∧ (b = true → ∃ k', k' < k ∧ (told v S RL).getD k' 0 < (told v S RE).getD k' 0)) ao.handled ?_ (by omega) ⟨false, rfl, rfl, fun e => nomatch e⟩ (hsto2 _ (hsto1 _ (hs _ (.inl rfl)))) rfl rfl (fun _ => rfl) ?_ ?_) ?_ (fun o ⟨b, e⟩ hn => absurd e (hn _ _))
      · rw [show ((v.length : Nat) : Int) = ((v.map PV.int).length : Nat) by rw [List.length_map]]
        exact ev_range1 N E (ev_len N E (ev_name rfl rfl) AsList.list (by rw [List.length_map]; omega) rfl rfl) rfl rfl
      · rintro hid3 k vv m hsto3 hk ⟨b, rfl, rfl, hb⟩
        have item : ∀ {i : Nat} {R : Rule} {ex : Expr} {pos pos2 pos3 pos4 : Pos}, i < 6 → rulesL[i]? = some R → ∀ {vv : Vars}, vv.lookup ("line" : Str) = some (.loc C) → vv.lookup ("k" : Str) = some (.int (k : Int)) → Ev W A hid3 (lEnv p1 a L dV kV doc pm an cdv ct) vv (muB v S C) ex (.int (i : Int)) →
            Ev W A hid3 (lEnv p1 a L dV kV doc pm an cdv ct) vv (muB v S C) (.Subscript (.Subscript (.Name "line" pos) ex pos2) (.Name "k" pos3) pos4) (.int ((told v S R).getD k 0)) := by
          intro i R ex pos pos2 pos3 pos4 hi hR vv h1 h2 hx
          have hlen := told_len (v := v) (S := S) (r := R) h5
          refine ev_iidx (xs := (told v S R)) (d := listI (told v S R)) ?_ (ev_name h2 rfl) AsList.list (by omega) (by omega)
          refine ev_idx (l := rulesL.map fun r => listI (told v S r)) (ev_name h1 rfl) hx (.inr ⟨C, rfl, .head _⟩) (by omega) (by rw [List.length_map]; show (i : Int) < ((6 : Nat) : Int); omega) (by show (6 : Nat) < 2 ^ 62; decide) ?_
          rw [idx_nat, List.getElem?_map, hR]; rfl
        refine exs_cons (K' := TurnK (fun vv m => ∃ b, vv = (("fallen" : Str), PV.bool b) :: ("early", .int (e : Int)) :: ("late", PV.int ((l + 1 : Nat) : Int)) :: vB v S hd C ∧ m = muB v S C ∧ (b = true → ∃ k', k' < k + 1 ∧ (told v S RL).getD k' 0 < (told v S RE).getD k' 0)) (fun o => ∃ b, o = .next ((("fallen" : Str), PV.bool b) :: ("early", .int (e : Int)) :: ("late", PV.int ((l + 1 : Nat) : Int)) :: vB v S hd C) (muB v S C)))
          (ex_if (x := decide ((told v S RL).getD k 0 < (told v S RE).getD k 0)) (tr_cmp (item (by omega) hlr rfl rfl (ev_name rfl rfl)) (item (by omega) her rfl rfl (ev_name rfl rfl)) rfl c_lt) (fun ec => ?_) (fun ec => ?_)) (fun v m e => exs_nil e) (fun o e _ => e)
        · refine exs_next (ex_assign ev_bool (hsto3 _ (hsto2 _ (hsto1 _ (hs _ (.inl rfl))))) rfl rfl rfl) (exs_nil ⟨_, _, ?_, List.Sublist.refl _, true, rfl, rfl, fun _ => ⟨k, by omega, of_decide_eq_true ec⟩⟩)
          walk_at "sub"
        · refine exs_next (ex_if (x := false) ?_ (fun e => nomatch e) (fun _ => exs_nil rfl)) (exs_nil ⟨_, _, ?_, List.Sublist.refl _, b, rfl, rfl, fun e => let ⟨k', q1, q2⟩ := hb e; ⟨k', by omega, q2⟩⟩)
          · have e2 : false = (b && decide ((told v S RL).getD k 0 > (told v S RE).getD k 0)) := by
              cases b with
              | false => rfl
              | true =>
                obtain ⟨k', q1, q2⟩ := hb rfl
                rw [decide_eq_false (fun q3 => no_gain H (by omega) q1 hk q2 q3)]; rfl
            rw [e2]
            exact tr_and2 (tr_name_bool rfl rfl fun _ => rfl) fun _ => tr_cmp (item (by omega) hlr rfl rfl (ev_name rfl rfl)) (item (by omega) her rfl rfl (ev_name rfl rfl)) rfl c_gt
          · walk_at "sub"
      · rintro vv m ⟨b, rfl, rfl, _⟩
        exact ⟨b, rfl⟩
      · rintro vv m ⟨b, e⟩
        cases e
        exact exs_nil ⟨_, _, by walk_at "sub", List.Sublist.refl _, rfl, rfl⟩
    · rintro vv m ⟨rfl, rfl⟩
      rfl
  · rintro vv m ⟨rfl, rfl⟩
    rfl
end
end Mine
end

section
open PySem PySem.W PyProof.Rows PySem.Calls PySem.SeqAt
set_option linter.unusedVariables false
set_option maxRecDepth 100000
namespace Mine

local macro_rules | `(tactic| walk_at "ev") => `(tactic| first
  | exact ev_int | exact ev_bool | exact ev_none | exact ev_str
  | exact ev_name rfl rfl
  | (refine ev_add ?_ ?_ <;> walk_at "ev")
  | (refine ev_sub ?_ ?_ <;> walk_at "ev")
  | (refine ev_neg ?_ <;> walk_at "ev"))
local macro_rules | `(tactic| walk_at "sub") => `(tactic| repeat (first | exact .nil | refine .cons rfl ?_))

section
variable {W : Wk} {A : Around} {hid : PMap} {env : Env} {vars : Vars} {mu : Mu} {K : Out → Prop}

theorem natAbs_small {a : Int} (h0 : 0 ≤ a) (h : a < 2 ^ 20) : a.natAbs < 2 ^ 20 := by omega
theorem posts_spec {a : Addr} (N : Names W) (DA : DefAt W p1 "_law_posts" a .none) {k : Nat} (hk : k < 5) {more less : Int} (h1 : 0 ≤ more) (h2 : more < 100) (h3 : 0 ≤ less) (h4 : less < 100) :
    Fn W (.ref a) 1 [.int (atOf k : Nat), .int more, .int less] (.tup [.int (posts (atOf k) more less).1, .int (posts (atOf k) more less).2]) := by
  obtain ⟨hm, kV, doc, pm, an, cdv, ct, F⟩ := DA
  refine fn_intro N.ok F [("at", .int (atOf k : Nat)), ("more", .int more), ("less", .int less)] ["at", "more", "less"] rfl (by show paramsOk (scopeOf p1 "_law_posts") _ = true; decide +kernel) (by decide +kernel) ?_ ?_
  · intro g h t us kb kg is
    cases is with
    | cons i1 is => cases is with
      | cons i2 is => cases is with
        | cons i3 is =>
          cases is
          exact ⟨_, BindsTo.of_eq rfl, .cons i1 (.cons i2 (.cons i3 .nil))⟩
  · intro A hid L ao hs
    have m1 : IntMulOk more (more + 1) := mulOk20 (natAbs_small h1 (by omega)) (natAbs_small (by omega) (by omega))
    have m2 : IntMulOk less (less + 1) := mulOk20 (natAbs_small h3 (by omega)) (natAbs_small (by omega) (by omega))
    have m3 : IntMulOk 2 less := mulOk20 (by decide) (natAbs_small h3 (by omega))
    have m4 : IntMulOk 2 more := mulOk20 (by decide) (natAbs_small h1 (by omega))
    have b1 : (more * (more + 1)).natAbs < 2 ^ 14 := natAbs_mul_lt (j := 7) (k := 7) (by omega) (by omega)
    have b2 : (less * (less + 1)).natAbs < 2 ^ 14 := natAbs_mul_lt (j := 7) (k := 7) (by omega) (by omega)
    have m5 : IntMulOk (more * (more + 1)) (2 * less + 1) := mulOk20 (by omega) (natAbs_small (by omega) (by omega))
    have m6 : IntMulOk (less * (less + 1)) (2 * more + 1) := mulOk20 (by omega) (natAbs_small (by omega) (by omega))
    have m7 : IntMulOk 5 (2 * more + 1) := mulOk20 (by decide) (natAbs_small (by omega) (by omega))
    have go : ∀ {d : PV} {c : Bool} {cond : Expr} {e : Expr} {p q : Pos} {rest : List Stmt} {vars : Vars} {env : Env}, Tr W A hid env vars [] cond c → (c = true → Ev W A hid env vars [] e d) → (c = false → Exs W A hid env vars [] rest (fun o => o = .ret d ∨ (d = .none ∧ ∃ v m, o = .next v m))) →
        Exs W A hid env vars [] (.If cond [.Return (some e) p] [] q :: rest) (fun o => o = .ret d ∨ (d = .none ∧ ∃ v m, o = .next v m)) := by
      intro d c cond e p q rest vars env hc ht hf
      cases c with
      | true => exact exs_cons (K' := (· = .ret d)) (ex_if hc (fun _ => exs_cons (ex_ret (ht rfl)) (fun v m e => nomatch e) (fun o e _ => e)) (fun e => nomatch e)) (fun v m e => nomatch e) (fun o e _ => .inl e)
      | false => exact exs_next (ex_if hc (fun e => nomatch e) (fun _ => exs_nil rfl)) (hf rfl)
    rcases (show k = 0 ∨ k = 1 ∨ k = 2 ∨ k = 3 ∨ k = 4 by omega) with rfl | rfl | rfl | rfl | rfl
    · refine go (c := true) (tr_cmp (ev_name rfl rfl) ev_int rfl c_eq) (fun _ => ?_) (fun e => nomatch e)
      exact ev_tup2 (ev_name rfl rfl) (ev_name rfl rfl) rfl rfl
    · refine go (c := false) (tr_cmp (ev_name rfl rfl) ev_int rfl c_eq) (fun e => nomatch e) (fun _ => ?_)
      refine go (c := true) (tr_cmp (ev_name rfl rfl) ev_int rfl c_eq) (fun _ => ?_) (fun e => nomatch e)
      exact ev_tup2 (ev_mul (ev_mul (ev_name rfl rfl) (ev_add (ev_name rfl rfl) ev_int) m1) (ev_add (ev_mul ev_int (ev_name rfl rfl) m3) ev_int) m5) (ev_mul (ev_mul (ev_name rfl rfl) (ev_add (ev_name rfl rfl) ev_int) m2) (ev_add (ev_mul ev_int (ev_name rfl rfl) m4) ev_int) m6) rfl rfl
    · refine go (c := false) (tr_cmp (ev_name rfl rfl) ev_int rfl c_eq) (fun e => nomatch e) (fun _ => ?_)
      refine go (c := false) (tr_cmp (ev_name rfl rfl) ev_int rfl c_eq) (fun e => nomatch e) (fun _ => ?_)
      refine go (c := true) (tr_cmp (ev_name rfl rfl) ev_int rfl c_eq) (fun _ => ?_) (fun e => nomatch e)
      exact ev_tup2 (ev_add (ev_mul ev_int (ev_name rfl rfl) m4) ev_int) (ev_add (ev_mul ev_int (ev_name rfl rfl) m3) ev_int) rfl rfl
    · refine go (c := false) (tr_cmp (ev_name rfl rfl) ev_int rfl c_eq) (fun e => nomatch e) (fun _ => ?_)
      refine go (c := false) (tr_cmp (ev_name rfl rfl) ev_int rfl c_eq) (fun e => nomatch e) (fun _ => ?_)
      refine go (c := false) (tr_cmp (ev_name rfl rfl) ev_int rfl c_eq) (fun e => nomatch e) (fun _ => ?_)
      refine go (c := true) (tr_cmp (ev_name rfl rfl) ev_int rfl c_eq) (fun _ => ?_) (fun e => nomatch e)
      exact ev_tup2 (ev_mul ev_int (ev_add (ev_mul ev_int (ev_name rfl rfl) m4) ev_int) m7) ev_int rfl rfl
    · refine go (c := false) (tr_cmp (ev_name rfl rfl) ev_int rfl c_eq) (fun e => nomatch e) (fun _ => ?_)
      refine go (c := false) (tr_cmp (ev_name rfl rfl) ev_int rfl c_eq) (fun e => nomatch e) (fun _ => ?_)
      refine go (c := false) (tr_cmp (ev_name rfl rfl) ev_int rfl c_eq) (fun e => nomatch e) (fun _ => ?_)
      refine go (c := false) (tr_cmp (ev_name rfl rfl) ev_int rfl c_eq) (fun e => nomatch e) (fun _ => ?_)
      exact exs_cons (ex_ret (ev_tup2 (ev_add (ev_name rfl rfl) ev_int) (ev_add (ev_name rfl rfl) ev_int) rfl rfl)) (fun v m e => nomatch e) (fun o e _ => .inl e)
end
end Mine
end

section
open PySem PySem.W PyProof.Rows PySem.Calls PySem.SeqAt
set_option linter.unusedVariables false
set_option maxRecDepth 100000
namespace Mine

local macro_rules | `(tactic| walk_at "sub") => `(tactic| repeat (first | exact .nil | refine .cons rfl ?_))

theorem ruleL_lineR : ∀ o, o < 6 → rulesL[o]? = some (lineR o) := by decide +kernel
theorem atOf_get : ∀ k, k < 5 → ([0, 1, 3, 4, 5] : List Int)[k]? = some ((atOf k : Nat) : Int) := by decide +kernel

section
variable {W : Wk} {A : Around} {hid : PMap} {env : Env} {vars : Vars} {mu : Mu} {K : Out → Prop}

abbrev vD (ah : Bool) (sm gr : Int) (more less at_ : Nat) (hd : Int) : Vars := [("ahead", .bool ah), ("small", .int sm), ("great", .int gr), ("more", .int (more : Int)), ("less", .int (less : Int)), ("at", .int (at_ : Int)), ("head", .int hd)]
set_option maxHeartbeats 2000000 in
theorem law_D {a L pa : Addr} {dV kV doc pm an cdv ct} {v : List Int} {S B : Nat} {hd : Int} {C : Addr} (D : Defs W) (DP : DefAt W p1 "_law_posts" pa .none) (G : GData W "_law_line" lineV) (ao : AOk W A 2) (H : VS v S B)
    (hs : ∀ x, (scopeOf p1 "law").names.lookup x = some .local ∨ (scopeOf p1 "law").names.lookup x = some .cell → Sto hid (lEnv p1 a L dV kV doc pm an cdv ct) x) :
    Exs W A hid (lEnv p1 a L dV kV doc pm an cdv ct) (vB v S hd C) (muB v S C) ((bodyOf p1 "law").drop 7) (· = .ret (.bool true)) := by
  have N := D.nm
  have E : EnvOk (lEnv p1 a L dV kV doc pm an cdv ct) := ⟨rfl, rfl, rfl⟩
  have ao0 : AOk W A 0 := ⟨ao.handled, by have := ao.depth; omega, by have := ao.units; omega, ao.frames⟩
  have ao1 : AOk W A 1 := ⟨ao.handled, by have := ao.depth; omega, by have := ao.units; omega, ao.frames⟩
  have h1 := H.n1
  have h5 := H.n5
  obtain ⟨k, hk, ek⟩ := fmod_lt hd (show 0 < 5 by decide)
  obtain ⟨u, hu, eu⟩ := fmod_lt (v.getD 0 0) (show 0 < 3 by decide)
  obtain ⟨w, hw, ew⟩ := fmod_lt (v.getD (v.length - 1) 0) (show 0 < 3 by decide)
  have first : ∀ {vars : Vars} {mu : Mu} {p1' p2 p3 : Pos} {hid : PMap}, vars.lookup ("votes" : Str) = some (listI v) → Ev W A hid (lEnv p1 a L dV kV doc pm an cdv ct) vars mu (.Subscript (.Name "votes" p1') (.Constant (.int 0) 0 p2) p3) (.int (v.getD 0 0)) := by
    intro vars mu p1' p2 p3 hid hx
    refine ev_idx (l := v.map .int) (ev_name hx rfl) ev_int AsList.list (by omega) (by rw [List.length_map]; omega) (by rw [List.length_map]; omega) ?_
    rw [show idx 0 (v.map PV.int).length = 0 from idx_nat 0 _]
    exact getD_map_int _ _ (by omega)
  -- at
  refine exs_next (ex_assign (d := .int ((atOf k : Nat) : Int)) ?_ (hs _ (.inl rfl)) rfl rfl rfl) ?_
  · have hm := ev_mod (W := W) (A := A) (hid := hid) (env := lEnv p1 a L dV kV doc pm an cdv ct) (vars := vB v S hd C) (mu := muB v S C) (l := .Name "head" ⟨163, 26, 163, 30⟩) (r := .Constant (.int 5) 0 ⟨163, 33, 163, 34⟩) (pos := ⟨163, 26, 163, 34⟩) (ev_name rfl rfl) ev_int (by decide)
    rw [show hd.fmod 5 = (k : Int) from ek] at hm
    refine ev_idx (l := ([0, 1, 3, 4, 5] : List Int).map .int) (d := listI [0, 1, 3, 4, 5]) (k := (k : Int)) ?_ ?_ AsList.list (by omega) (by show (k : Int) < ((5 : Nat) : Int); omega) (by decide) ?_
    · refine ev_list ?_ (by decide)
      refine evargs_cons ev_int ?_ rfl
      refine evargs_cons ev_int ?_ rfl
      refine evargs_cons ev_int ?_ rfl
      refine evargs_cons ev_int ?_ rfl
      refine evargs_cons ev_int ?_ rfl
      exact evargs_nil
    · rw [← show hd.fmod 5 = (k : Int) from ek]
      exact ev_mod (ev_name rfl rfl) ev_int (by decide)
    · rw [idx_nat, List.getElem?_map, atOf_get k hk]; rfl
  -- less
  refine exs_next (ex_assign (d := .int ((lessOf (atOf k) u : Nat) : Int)) ?_ (hs _ (.inl rfl)) rfl rfl rfl) ?_
  · refine ev_if (x := ((atOf k : Nat) : Int) == 4) (tr_cmp (ev_name rfl rfl) ev_int rfl c_eq) (fun e => ?_) (fun e => ?_)
    · have e : ((atOf k : Nat) : Int) = 4 := by simpa using e
      have : lessOf (atOf k) u = 0 := by unfold lessOf; rw [if_pos (by omega)]
      rw [this]; exact ev_int
    · have e : ¬ ((atOf k : Nat) : Int) = 4 := by simpa using e
      have : ((lessOf (atOf k) u : Nat) : Int) = (v.getD 0 0).fmod 3 + (if decide (((atOf k : Nat) : Int) < 2) = true then 1 else 0) := by
        unfold lessOf
        rw [if_neg (by omega), show (v.getD 0 0).fmod 3 = (u : Int) from eu]
        by_cases q : atOf k < 2
        · rw [if_pos q, if_pos (decide_eq_true (by omega))]; omega
        · rw [if_neg q, if_neg (by rw [decide_eq_true_eq]; omega)]; omega
      rw [this]
      refine ev_add (ev_mod (first rfl) ev_int (by decide)) (ev_if (x := decide (((atOf k : Nat) : Int) < 2)) (tr_cmp (ev_name rfl rfl) ev_int rfl c_lt) (fun e => ?_) (fun e => ?_))
      · rw [if_pos e]; exact ev_int
      · rw [if_neg (by rw [e]; simp)]; exact ev_int
  -- more
  refine exs_next (ex_assign (d := .int ((lessOf (atOf k) u + 1 + w : Nat) : Int)) ?_ (hs _ (.inl rfl)) rfl rfl rfl) ?_
  · have : ((lessOf (atOf k) u + 1 + w : Nat) : Int) = ((lessOf (atOf k) u : Nat) : Int) + 1 + (v.getD (v.length - 1) 0).fmod 3 := by
      rw [show (v.getD (v.length - 1) 0).fmod 3 = (w : Int) from ew]; omega
    rw [this]
    refine ev_add (ev_add (ev_name rfl rfl) ev_int) (ev_mod (ev_idx (l := v.map .int) (ev_name rfl rfl) (ev_neg ev_int) AsList.list (by rw [List.length_map]; omega) (by rw [List.length_map]; omega) (by rw [List.length_map]; omega) ?_) ev_int (by decide))
    have : idx (-1) (v.map PV.int).length = v.length - 1 := by
      rw [List.length_map]; unfold idx; rw [if_neg (by decide)]; omega
    rw [this]
    exact getD_map_int _ _ (by omega)
  have hless : lessOf (atOf k) u ≤ 3 := by
    unfold lessOf; split
    · omega
    · split <;> omega
  have PT := fun own (ho : own < 6) ahead => pair_thm (own := own) hk hu hw ho ahead rfl rfl
  generalize hl : lessOf (atOf k) u = less at *
  generalize hat : atOf k = at_ at *
  have PS := posts_spec N DP hk (more := ((less + 1 + w : Nat) : Int)) (less := (less : Int)) (by omega) (by omega) (by omega) (by omega)
  rw [hat] at PS
  refine exs_next (ex_unpack ao.handled rfl (ev_call_def N E ao1 DP rfl (by decide +kernel) (evargs3 (ev_name rfl rfl) (ev_name rfl rfl) (ev_name rfl rfl) rfl rfl rfl) PS rfl) (.cons (hs _ (.inl rfl)) rfl (.cons (hs _ (.inl rfl)) rfl .nil)) rfl rfl) ?_
  generalize hgr : (posts at_ ((less + 1 + w : Nat) : Int) (less : Int)).1 = gr at *
  generalize hsm : (posts at_ ((less + 1 + w : Nat) : Int) (less : Int)).2 = sm at *
  refine exs_next (ex_assign (ev_cmp (ev_mod (ev_fdiv N.ok ao0 (first rfl) ev_int (by decide)) ev_int (by decide)) ev_int rfl c_eq) (hs _ (.inl rfl)) rfl rfl rfl) ?_
  generalize (((v.getD 0 0).fdiv 3).fmod 2 == 0) = ah at *
  -- the loop
  refine run_forget (v' := (vD ah sm gr (less + 1 + w) less at_ hd)) (m' := []) ?_ (List.nil_sublist _) ?_
  · refine .cons rfl (.cons rfl (.cons rfl (.cons rfl (.cons rfl (.cons rfl (.cons rfl .nil))))))
  refine exs_next (v := (vD ah sm gr (less + 1 + w) less at_ hd)) (m := []) (ex_for_rng (n := 6) (fun _ vv m => vv = (vD ah sm gr (less + 1 + w) less at_ hd) ∧ m = []) ao.handled ?_ (by omega) ⟨rfl, rfl⟩ (hs _ (.inl rfl)) rfl rfl (fun _ => rfl) ?_ ?_) ?_
  · exact ev_range1 N E (ev_len (l := rulesL.map fun r => strsV (ruleNames r)) N E (ev_gdata N E G rfl (by decide +kernel)) AsList.list (by decide) rfl rfl) rfl rfl
  · rintro hid' o vv m hsto ho ⟨rfl, rfl⟩
    obtain ⟨q1, q2, q3, q4, q5, q6⟩ := PT o ho ah
    have hR := ruleL_lineR o ho
    generalize hRo : lineR o = R at *
    have hmem := nmOf_mem R hd
    refine exs_next (ex_assign (d := strsV (ruleNames R)) (ev_idx (l := rulesL.map fun r => strsV (ruleNames r)) (ev_gdata N E G rfl (by decide +kernel)) (ev_name rfl rfl) AsList.list (by omega) (by show (o : Int) < ((6 : Nat) : Int); omega) (by decide) (by rw [idx_nat, List.getElem?_map, hR]; rfl)) (hsto _ (hs _ (.inl rfl))) rfl rfl rfl) ?_
    generalize hpair : (if ah = true then [gr, sm] else [sm, gr]) = pair at *
    refine exs_next (ex_assign (d := listI pair) ?_ (hsto _ (hs _ (.inl rfl))) rfl rfl rfl) ?_
    · refine ev_if (x := ah) (tr_name_bool rfl rfl fun _ => rfl) (fun e => ?_) (fun e => ?_)
      · rw [← hpair, if_pos e]
        exact ev_list (evargs_cons (ev_name rfl rfl) (args1 (ev_name rfl rfl) rfl) rfl) (Nat.le_of_ble_eq_true rfl)
      · rw [← hpair, if_neg (by rw [e]; simp)]
        exact ev_list (evargs_cons (ev_name rfl rfl) (args1 (ev_name rfl rfl) rfl) rfl) (Nat.le_of_ble_eq_true rfl)
    have AP := divF_ok (r := R) (v := pair) (S := less + 1 + w + less + 1) q1 (by rw [q2]; decide) (Nat.le_trans q5 (by decide)) (by rw [q2]; exact q4)
    have served_ok := q6 _ AP
    have P : DivPre R pair (less + 1 + w + less + 1) 20 (nmOf R hd) := ⟨by omega, by omega, by omega, fun _ _ _ => by omega, (names_ok R _ hmem).2.2.2, by rw [q2]; omega, q3, by decide⟩
    have hlen : (divF R pair (less + 1 + w + less + 1)).length = 2 := by rw [AP.len, q2]
    have hsum := AP.sum
    have hseat : ∀ {vars : Vars} {p1' p2 p3 p4 p5 : Pos} {hid : PMap}, vars.lookup ("more" : Str) = some (.int ((less + 1 + w : Nat) : Int)) → vars.lookup ("less" : Str) = some (.int (less : Int)) →
        Ev W A hid (lEnv p1 a L dV kV doc pm an cdv ct) vars [] (.BinOp (.BinOp (.Name "more" p1') .Add (.Name "less" p2) p3) .Add (.Constant (.int 1) 0 p4) p5) (.int ((less + 1 + w + less + 1 : Nat) : Int)) := by
      intro vars p1' p2 p3 p4 p5 hid x1 x2
      have e : ((less + 1 + w + less + 1 : Nat) : Int) = ((less + 1 + w : Nat) : Int) + (less : Int) + 1 := by omega
      rw [e]
      exact ev_add (ev_add (ev_name x1 rfl) (ev_name x2 rfl)) ev_int
    refine exs_next (ex_assign (d := listI (divF R pair (less + 1 + w + less + 1))) (ev_call_def N E ao D.hcp rfl (by decide +kernel) (evargs3 (ev_nm N E ao0 (ev_name rfl rfl) (ev_name rfl rfl) (ev_name rfl rfl) rfl rfl) (ev_name rfl rfl) (hseat rfl rfl) rfl rfl rfl) (cp_spec D hmem P) rfl) (hsto _ (hs _ (.inr rfl))) rfl rfl rfl) ?_
    generalize divF R pair (less + 1 + w + less + 1) = tl at *
    refine exs_next (ex_assign (d := .bool (decide ((o : Int) > (at_ : Int)) || (((o : Int) == (at_ : Int)) && ah))) (ev_or2b (ev_cmp (ev_name rfl rfl) (ev_name rfl rfl) rfl c_gt) fun _ => ev_and2b (ev_cmp (ev_name rfl rfl) (ev_name rfl rfl) rfl c_eq) fun _ => ev_name rfl rfl) (hsto _ (hs _ (.inl rfl))) rfl rfl rfl) ?_
    refine exs_cons (K' := fun oo => ∃ vv, oo = .next vv [] ∧ Sub [("served", .bool (served o at_ less ah)), ("told", listI tl), ("ahead", .bool ah), ("small", .int sm), ("great", .int gr), ("more", .int ((less + 1 + w : Nat) : Int)), ("less", .int (less : Int)), ("at", .int (at_ : Int)), ("head", .int hd)] vv)
      (ex_if (x := ((o : Int) == 4) && ((at_ : Int) == 3) && decide ((less : Int) > 0)) (tr_and3 (tr_cmp (ev_name rfl rfl) ev_int rfl c_eq) (fun _ => tr_cmp (ev_name rfl rfl) ev_int rfl c_eq) (fun _ _ => tr_cmp (ev_name rfl rfl) ev_int rfl c_gt)) (fun e => ?_) (fun e => ?_)) ?_ (fun oo ⟨vv, e, _⟩ hn => absurd e (hn _ _))
    · simp only [Bool.and_eq_true, beq_iff_eq, decide_eq_true_eq] at e
      refine exs_next (ex_assign (ev_name rfl rfl) (hsto _ (hs _ (.inl rfl))) rfl rfl rfl) (exs_nil ⟨_, rfl, ?_⟩)
      refine .cons ?_ (by walk_at "sub")
      have : served o at_ less ah = ah := by unfold served; rw [if_pos ⟨by omega, by omega, by omega⟩]
      rw [this]; rfl
    · refine exs_nil ⟨_, rfl, .cons ?_ (by walk_at "sub")⟩
      have : served o at_ less ah = (decide ((o : Int) > (at_ : Int)) || (((o : Int) == (at_ : Int)) && ah)) := by
        unfold served
        rw [if_neg (fun q => by
          have : (((o : Int) == 4) && ((at_ : Int) == 3) && decide ((less : Int) > 0)) = true := by
            simp only [Bool.and_eq_true, beq_iff_eq, decide_eq_true_eq]; omega
          rw [this] at e; cases e)]
        have a1 : decide (o > at_) = decide ((o : Int) > (at_ : Int)) := decide_eq_decide.mpr (by omega)
        have a2 : decide (o = at_) = ((o : Int) == (at_ : Int)) := by
          rw [Bool.eq_iff_iff]; simp only [decide_eq_true_eq, beq_iff_eq]; omega
        rw [a1, a2]
      rw [this]; rfl
    · rintro vv m ⟨vv', e, hsub⟩
      cases e
      refine run_forget hsub (List.Sublist.refl _) ?_
      refine exs_next (ex_if (x := false) ?_ (fun e => nomatch e) (fun _ => exs_nil rfl)) (exs_nil ⟨_, _, ?_, List.Sublist.refl _, rfl, rfl⟩)
      · have e : false = (tl.sum != ((less + 1 + w + less + 1 : Nat) : Int) || (decide (tl.getD (if ah then 0 else 1) 0 > ((less + 1 + w : Nat) : Int)) != served o at_ less ah)) := by
          rw [hsum, served_ok]; simp
        rw [e]
        refine tr_or2 (tr_cmp (ev_sum N E ao.handled (ev_name rfl rfl) AsList.list rfl rfl) (hseat rfl rfl) rfl c_ne) fun _ => ?_
        refine tr_cmp (ev_cmp (ev_idx (l := tl.map .int) (k := ((if ah then 0 else 1 : Nat) : Int)) (ev_name rfl rfl) ?_ AsList.list (by omega) (by rw [List.length_map]; split <;> omega) (by rw [List.length_map]; omega) ?_) (ev_name rfl rfl) rfl c_gt) (ev_name rfl rfl) rfl c_neb
        · refine ev_if (x := ah) (tr_name_bool rfl rfl fun _ => rfl) (fun e => ?_) (fun e => ?_)
          · rw [if_pos e]; exact ev_int
          · rw [if_neg (by rw [e]; simp)]; exact ev_int
        · rw [idx_nat]; exact getD_map_int _ _ (by split <;> omega)
      · walk_at "sub"
  · rintro vv m ⟨rfl, rfl⟩
    rfl
  exact exs_cons (ex_ret ev_bool) (fun v m e => nomatch e) (fun o e _ => e)
end
end Mine
end

section
open PySem PySem.W PyProof.Rows PySem.Calls PySem.SeqAt
set_option linter.unusedVariables false
set_option maxRecDepth 100000
namespace Mine

theorem well_list {P : Params} {h : Heap} {l : Addr} {d : WData} {arr : Array Value} (w : Well P h (.ref l) d) (hl : h.IsList l arr) : ∃ n, h.get? l = some (lobj arr n) := by
  obtain ⟨o, e, hc, n, hd⟩ := hl
  cases w with
  | list q _ =>
    rw [e] at q
    cases q
    cases hd
    exact ⟨_, e⟩
  | bytearray q => rw [e] at q; cases q; cases hd
  | tuple q _ => rw [e] at q; cases q; exact absurd hc (fun z => by injection z with z; exact absurd z (by decide))
  | dict q _ => rw [e] at q; cases q; cases hd
  | set q _ _ _ => rw [e] at q; cases q; cases hd
  | frozenset q _ _ _ => rw [e] at q; cases q; cases hd
  | obj q _ _ _ => rw [e] at q; cases q; cases hd
theorem bits_lt {a : Int} {k : Nat} (h : Builtin.Int.intBits a ≤ k) : a.natAbs < 2 ^ k := by
  unfold Builtin.Int.intBits at h
  split at h
  · rename_i h0
    have : a = 0 := by simpa using h0
    subst this
    exact Nat.two_pow_pos k
  · rename_i h0
    have hn : a.natAbs ≠ 0 := by
      intro z; apply h0; simp; omega
    exact (Nat.log2_lt hn).mp h

section
variable {W : Wk} {A : Around} {hid : PMap} {env : Env} {vars : Vars} {mu : Mu} {K : Out → Prop}

theorem law_spec {fa pa : Addr} {ns : List Int} (D : Defs W) (DL : DefAt W p1 "law" fa .none) (DP : DefAt W p1 "_law_posts" pa .none) (G : GData W "_law_line" lineV) (hn : ns.length ≤ 63) (hB : ∀ x ∈ ns, x.natAbs < 2 ^ (2 ^ 20)) :
    Fn W (.ref fa) 3 [listI ns] (.bool true) := by
  have N := D.nm
  obtain ⟨hm, kV, doc, pm, an, cdv, ct, F⟩ := DL
  refine fn_intro N.ok F [("script", listI ns)] ["script"] rfl (by show paramsOk (scopeOf p1 "law") _ = true; decide +kernel) (by decide +kernel) ?_ ?_
  · intro g h t us kb kg is
    cases is with
    | cons i1 is =>
      cases is
      exact ⟨_, BindsTo.of_eq rfl, .cons i1 .nil⟩
  · intro A hid L ao hs
    have ao0 : AOk W A 0 := ⟨ao.handled, by have := ao.depth; omega, by have := ao.units; omega, ao.frames⟩
    obtain ⟨v1, v5, vp⟩ := vOf_ok ns
    obtain ⟨u, hu, eu⟩ := fmod_lt (hdOf ns) (show 0 < 6 by decide)
    have H : VS (vOf ns) ((vOf ns).length + u) (2 ^ 20 + 1) := ⟨v1, v5, vp, by omega, by omega, vOf_small hB, by decide⟩
    have e : ((vOf ns).length : Int) + (hdOf ns).fmod 6 = (((vOf ns).length + u : Nat) : Int) := by
      rw [show (hdOf ns).fmod 6 = (u : Int) from eu]; omega
    show Exs _ _ _ _ _ _ ((bodyOf p1 "law").take 4 ++ ((bodyOf p1 "law").getD 4 (.Pass default) :: (bodyOf p1 "law").getD 5 (.Pass default) :: (bodyOf p1 "law").getD 6 (.Pass default) :: (bodyOf p1 "law").drop 7)) _
    refine law_A N ao0 hn hs ?_
    rw [e]
    refine law_B D G ao H hs (fun C => ?_)
    refine exs_next (law_C N ao0 H hs) ?_
    exact (law_D D DP G ao H hs).imp fun o e => .inl e
end

/-- a def of the text, as the top leaves it -/
theorem defAt_mk {W : Wk} {n : Str} {a : Addr} {dV : Value} {K : Frag} (X : K.In W.base) (hm : W.mg n = some (.ref a)) {o : Obj} (ho : K.lookup a = some o) {kV doc pm an cdv ct} (hd : o.data = .func (fnOf n n (argsOf p1 n) (bodyOf p1 n) (scopeOf p1 n) dV kV doc pm an cdv ct))
    (hc : codeIn K cdv n = true) (hs : (scopeOf p1 n).isCoroutine = false ∧ (scopeOf p1 n).isGenerator = false ∧ (scopeOf p1 n).kind = .function) : DefAt W p1 n a dV :=
  ⟨hm, kV, doc, pm, an, cdv, ct, ⟨⟨o, X _ _ ho, hd⟩, codeRec_of X hc, rfl, rfl, rfl, rfl, hs.1, hs.2.1, hs.2.2⟩⟩
end Mine
end

open PySem PySem.W PyProof.Rows
set_option maxRecDepth 100000 in
set_option maxHeartbeats 8000000 in
theorem PySem.Challenge.cw_af0002_01_holds : PySem.Challenge.rw_af0002_01.Holds := by
  w_on
  o_law
  k_head
  case hw => w_witness2
  k_fill
  intro w s₀ s₁ mg mb G Y fa o pm cd doc dV kV ho hd hcd hD hmg hg args vals as hpre hlay hrd hwl hlo
  have KX := kIn_of Y
  refine Ground.open G ?_
  intro T B D TE TW
  wrow_args hpre hlay hrd hwl hlo
  rename_i ns _ _ hlay1 _ _ _ _ l vs _ hL _ w1 _ hI _ _ hlen
  clear hd hcd hD ho G Y B D TE TW
  have m2 := mg_of KX T.g (n := "law") (by k_is)
  obtain rfl := Value.ref.inj (Option.some.inj (hmg.symm.trans m2))
  let W : Mine.Wk := ⟨PySem.Challenge.pw_af0002_01, w, s₁.gens, s₁.drawn, s₁.os, s₁.heap, mg, mb⟩
  have O : W.Ok := ⟨T.g, T.b, T.builtins, T.nolimit, T.seer rfl, rfl⟩
  have N : Mine.Names W := ⟨O, mg_none_of KX T.g (by k_is), mg_none_of KX T.g (by k_is), mg_none_of KX T.g (by k_is), mg_none_of KX T.g (by k_is), mg_none_of KX T.g (by k_is), mg_none_of KX T.g (by k_is), mg_none_of KX T.g (by k_is), mg_none_of KX T.g (by k_is), mg_none_of KX T.g (by k_is), mg_none_of KX T.g (by k_is)⟩
  have DL : Mine.DefAt W Mine.p1 "law" _ .none := Mine.defAt_mk (W := W) KX m2 (by k_is) rfl (by k_is) ⟨rfl, rfl, rfl⟩
  have DP : Mine.DefAt W Mine.p1 "_law_posts" _ .none := Mine.defAt_mk (W := W) KX (mg_of KX T.g (n := "_law_posts") (by k_is)) (by k_is) rfl (by k_is) ⟨rfl, rfl, rfl⟩
  have mT := mg_of KX T.g (n := "apply_threshold") (by k_is)
  have mD := mg_of KX T.g (n := "divisor") (by k_is)
  have mC := mg_of KX T.g (n := "compute") (by k_is)
  let DD : Mine.Defs W := {
    nm := N
    at_ := _
    hat := Mine.defAt_mk (W := W) KX mT (by k_is) rfl (by k_is) ⟨rfl, rfl, rfl⟩
    dv := _
    dvT := _
    dvo := _
    dvv := _
    dvn := _
    hdv := Mine.defAt_mk (W := W) KX mD (by k_is) rfl (by k_is) ⟨rfl, rfl, rfl⟩
    hdvT := KX _ _ (by k_is)
    hdvd := rfl
    cp := _
    cpT := _
    cpo := _
    cpn := _
    hcp := Mine.defAt_mk (W := W) KX mC (by k_is) rfl (by k_is) ⟨rfl, rfl, rfl⟩
    hcpT := KX _ _ (by k_is)
    hcpd := rfl }
  have GD : Mine.GData W "_law_line" Mine.lineV := by
    refine ⟨_, mg_of KX T.g (n := "_law_line") (by k_is), ?_⟩
    refine .list (KX _ _ (by k_is)) ?_
    repeat (refine .cons (.list (KX _ _ (by k_is)) (by repeat (first | exact .nil | refine .cons .str ?_))) ?_)
    exact .nil
  have hB : ∀ x ∈ ns, x.natAbs < 2 ^ (2 ^ 20) := fun x hx => Mine.bits_lt (PyData.bits_item_of_ints hlay1 hx)
  obtain ⟨nl, hl⟩ := Mine.well_list w1 hL
  have hF := Mine.law_spec DD DL DP GD (by omega) hB
  refine hF callerA (fun _ => none) (fun a => s₁.heap.get? a) s₁.heap s₁.toks _ _ _ ⟨rfl, by decide, by decide, ⟨[], rfl⟩⟩ ⟨fun _ _ e => e, fun _ _ e => e, fun _ _ e => (nomatch e), fun _ _ _ => rfl⟩ (.cons (.list hl (Mine.Iss.of_ints hI)) .nil) (fun u g' h' t' lg RE iu => ?_)
  cases iu
  have hpost : PySem.Challenge.rw_af0002_01.row.claim.post [ofPy (PyData.list (List.map PyData.int ns))] (WData.bool true) [ofPy (PyData.list (List.map PyData.int ns))] = true := by
    exact postW_of (X := (true == true)) rfl (w_eq_bool rfl rfl) rfl
  refine GoodW.toG ⟨.inl ⟨_, .bool true, [], rfl, fun _ => rfl, .bool _, hpost, fun _ => ⟨.nil, fun a h => (nomatch h)⟩⟩, fun b o e => RE.gs b o (lg b o e), rfl, hg⟩
