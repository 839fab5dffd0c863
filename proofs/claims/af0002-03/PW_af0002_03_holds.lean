import PyProof.Rows.All
import Wide.All
import OpenK.AllK
import Wide.FinOn
import PySem.Challenge.RW_af0002_03
set_option Elab.async false

section
set_option tactic.hygienic false
open PySem PySem.W PyProof.Rows PySem.Calls
set_option maxRecDepth 100000
namespace Mine

noncomputable abbrev PMap := Addr → Option Obj

noncomputable abbrev lobj (vs : Array Value) (n : Nat) : Obj := { cls := .type "list", dict := none, data := .seq vs n, slots := #[] }
noncomputable abbrev tobj (vs : Array Value) (n : Nat) : Obj := { cls := .type "tuple", dict := none, data := .seq vs n, slots := #[] }

set_option genInjectivity false in
set_option genSizeOfSpec false in
inductive PV where
  | none
  | bool (b : Bool)
  | int (i : Int)
  | str (s : Str)
  | tup (l : List PV)
  | list (l : List PV)
  | rng (a b : Int)
  | loc (a : Addr)
  | val (v : Value)

mutual
inductive Is (g : PMap) : PV → Value → Prop where
  | none : Is g .none .none
  | bool {b} : Is g (.bool b) (.bool b)
  | int {i t} : Is g (.int i) (.int i t)
  | str {s t} : Is g (.str s) (.str s t)
  | tup {l a vs n} : g a = some (tobj vs n) → Iss g l vs.toList → Is g (.tup l) (.ref a)
  | list {l a vs n} : g a = some (lobj vs n) → Iss g l vs.toList → Is g (.list l) (.ref a)
  | rng {a b r t u v} : g r = some { cls := .type "range", dict := Option.none, data := .fields #[.int a t, .int b u, .int 1 v], slots := #[] } → Is g (.rng a b) (.ref r)
  | loc {a} : Is g (.loc a) (.ref a)
  | val {v} : Is g (.val v) v
inductive Iss (g : PMap) : List PV → List Value → Prop where
  | nil : Iss g [] []
  | cons {d v ds vs} : Is g d v → Iss g ds vs → Iss g (d :: ds) (v :: vs)
end

noncomputable def Le (g g' : PMap) : Prop := ∀ a o, g a = some o → g' a = some o
theorem Le.refl (g : PMap) : Le g g := fun z_ z_ h => h
theorem Le.trans {g g' g'' : PMap} (h : Le g g') (k : Le g' g'') : Le g g'' := fun a o e => k a o (h a o e)

theorem Is.mono {g g' : PMap} (k : Le g g') {d v} (h : Is g d v) : Is g' d v :=
  Is.rec (motive_1 := fun d v z_ => Is g' d v) (motive_2 := fun ds vs z_ => Iss g' ds vs) .none .bool .int .str (fun h z_ r => .tup (k _ _ h) r) (fun h z_ r => .list (k _ _ h) r) (fun h => .rng (k _ _ h)) .loc .val .nil (fun z_ z_ a r => .cons a r) h
theorem Iss.fold {g : PMap} {P : List PV → List Value → Prop} (nil : P [] []) (cons : ∀ {d v ds vs}, Is g d v → P ds vs → P (d :: ds) (v :: vs)) {ds vs} (h : Iss g ds vs) : P ds vs :=
  Iss.rec (motive_1 := fun z_ z_ z_ => True) (motive_2 := fun ds vs z_ => P ds vs) trivial trivial trivial trivial (fun z_ z_ z_ => trivial) (fun z_ z_ z_ => trivial) (fun z_ => trivial) trivial trivial nil (fun h z_ z_ r => cons h r) h
theorem Iss.mono {g g' : PMap} (k : Le g g') {ds vs} (h : Iss g ds vs) : Iss g' ds vs := h.fold .nil fun i r => .cons (i.mono k) r

theorem Iss.length {g : PMap} {ds vs} (h : Iss g ds vs) : vs.length = ds.length := h.fold (P := fun ds vs => vs.length = ds.length) rfl fun z_ r => congrArg Nat.succ r
theorem Iss.get {g : PMap} {ds vs} (h : Iss g ds vs) : ∀ (i : Nat) d, ds[i]? = some d → ∃ v, vs[i]? = some v ∧ Is g d v :=
  h.fold (P := fun ds vs => ∀ (i : Nat) d, ds[i]? = some d → ∃ v, vs[i]? = some v ∧ Is g d v) (fun i d e => nomatch e) fun {d' v' _ _} i r j => Nat.casesOn (motive := fun j => ∀ d, (_ :: _)[j]? = some d → ∃ v, (_ :: _)[j]? = some v ∧ Is g d v) j (fun d e => ⟨v', rfl, Option.some.inj (show some d' = some d from e) ▸ i⟩) fun n d e => r n d e
theorem Iss.append {g : PMap} {ds vs es ws} (h : Iss g ds vs) (k : Iss g es ws) : Iss g (ds ++ es) (vs ++ ws) := h.fold (P := fun ds vs => Iss g (ds ++ es) (vs ++ ws)) k fun i r => .cons i r
theorem Iss.set {g : PMap} {d v} (k : Is g d v) {ds vs} (i : Nat) (h : Iss g ds vs) : Iss g (ds.set i d) (vs.set i v) := by
  induction i generalizing ds vs with
  | zero => cases h with
    | nil => exact .nil
    | cons i r => exact .cons k r
  | succ n ih => cases h with
    | nil => exact .nil
    | cons i r => exact .cons i (ih r)
theorem Iss.toInts {g : PMap} {ns : List Int} : ∀ {vs}, Iss g (ns.map PV.int) vs → IntsAre vs ns := by
  induction ns with
  | nil => intro vs h; cases h; exact .nil
  | cons n r ih =>
    intro vs h
    cases h with
    | cons h k => cases h; exact IntsAre.cons _ _ (ih k)
theorem Iss.of_ints {g : PMap} {ns : List Int} {vs} (h : IntsAre vs ns) : Iss g (ns.map PV.int) vs := by
  induction h with
  | nil => exact .nil
  | cons _ _ _ ih => exact .cons .int ih

noncomputable abbrev Vars := List (Str × PV)
noncomputable abbrev Mu := List (Addr × List PV)

set_option genInjectivity false in
set_option genSizeOfSpec false in
structure Wk where
  prog : Program
  w : World
  gens : Array GenState
  drawn : Drawn
  os : OsState
  base : Heap
  mg : Str → Option Value
  mb : Str → Option Value
noncomputable abbrev Wk.S (W : Wk) (h : Heap) (t : Nat) : Shared := ⟨h, W.gens, W.drawn, t, W.os⟩
noncomputable abbrev Wk.M (W : Wk) : Model := model W.prog W.w
structure Wk.Ok (W : Wk) : Prop where
  g : W.base.Ns mainGlobals W.mg
  b : W.base.Ns builtinsNs W.mb
  builtins : ∀ x : Str, x ≠ "__name__" → W.mb x = bootBuiltins x
  nolimit : W.base.NoLimit
  seer : W.base.NoSeer
  tree : W.prog.given.tree = none

noncomputable def UpTo (o : Obj) (h : Heap) (a : Addr) : Prop := ∃ sl, h.get? a = some { o with slots := sl } ∧ ((∀ es ep, o.data ≠ .dict es ep) → sl = o.slots)
theorem UpTo.keeps {o : Obj} {h h' : Heap} {a : Addr} (x : UpTo o h a) (k : ∀ b o, h.get? b = some o → h'.get? b = some o) : UpTo o h' a := let ⟨sl, e, r⟩ := x; ⟨sl, k _ _ e, r⟩
theorem UpTo.of {o : Obj} {h : Heap} {a : Addr} (e : h.get? a = some o) : UpTo o h a := ⟨o.slots, e, fun z_ => rfl⟩

theorem UpTo.get {o : Obj} {h : Heap} {a : Addr} (x : UpTo o h a) (n : ∀ es ep, o.data ≠ .dict es ep) : h.get? a = some o := by
  obtain ⟨sl, e, r⟩ := x
  rw [e, r n]

noncomputable def VarAt (h : Heap) (env : Env) (x : Str) (u : Value) : Prop :=
  (x == ("__debug__" : Str)) = false ∧ ((env.kindOf x = some .local ∧ ∃ m, h.Ns env.locals m ∧ m x = some u) ∨
    (∃ c, (env.kindOf x = some .cell ∨ (env.kindOf x = some .free ∧ (x == ("__classdict__" : Str)) = false)) ∧ env.cells.lookup x = some c ∧ h.IsCell c (some u)))
theorem VarAt.keeps {h h' : Heap} {env : Env} {x : Str} {u : Value} (v : VarAt h env x u) (k : ∀ b o, h.get? b = some o → h'.get? b = some o) : VarAt h' env x u := by
  obtain ⟨hd, ⟨hl, m, hn, hm⟩ | ⟨c, hk, hc, hv⟩⟩ := v
  · exact ⟨hd, .inl ⟨hl, m, hn.keeps k, hm⟩⟩
  · exact ⟨hd, .inr ⟨c, hk, hc, hv.keeps k⟩⟩

structure Rep (W : Wk) (hid g : PMap) (env : Env) (vars : Vars) (mu : Mu) (h : Heap) : Prop where
  bs : ∀ a o, W.base.get? a = some o → g a = some o
  gs : ∀ a o, g a = some o → h.get? a = some o
  hs : ∀ a o, hid a = some o → UpTo o h a
  gh : ∀ a o, g a = some o → hid a = none
  ns : ∃ m, h.Ns env.locals m
  vs : ∀ x d, vars.lookup x = some d → ∃ u, Is g d u ∧ VarAt h env x u
  gL : g env.locals = none
  hL : hid env.locals = none
  cell : ∀ x c, env.cells.lookup x = some c → (∃ v, h.IsCell c v) ∧ g c = none ∧ c ≠ env.locals
  cnd : ∀ x y c, env.cells.lookup x = some c → env.cells.lookup y = some c → x = y
  mus : ∀ a l, (a, l) ∈ mu → ∃ vs n, h.get? a = some (lobj vs n) ∧ Iss g l vs.toList ∧ g a = none ∧ hid a = none ∧ a ≠ env.locals ∧ ∀ x c, env.cells.lookup x = some c → c ≠ a
  mnd : (mu.map (·.1)).Nodup

structure RepE (W : Wk) (hid g : PMap) (h : Heap) : Prop where
  bs : ∀ a o, W.base.get? a = some o → g a = some o
  gs : ∀ a o, g a = some o → h.get? a = some o
  hs : ∀ a o, hid a = some o → UpTo o h a
  gh : ∀ a o, g a = some o → hid a = none
theorem Rep.e {W hid g env vars mu h} (R : Rep W hid g env vars mu h) : RepE W hid g h := ⟨R.bs, R.gs, R.hs, R.gh⟩

noncomputable abbrev Kept (h h' : Heap) : Prop := ∀ b o, h.get? b = some o → h'.get? b = some o

theorem Rep.keeps {W hid g env vars mu h h'} (R : Rep W hid g env vars mu h) (k : Kept h h') : Rep W hid g env vars mu h' where
  bs := R.bs
  gs := fun a o e => k _ _ (R.gs a o e)
  hs := fun a o e => (R.hs a o e).keeps k
  gh := R.gh
  ns := let ⟨m, hn⟩ := R.ns; ⟨m, hn.keeps k⟩
  vs := fun x d e => let ⟨u, i, v⟩ := R.vs x d e; ⟨u, i, v.keeps k⟩
  gL := R.gL
  hL := R.hL
  cell := fun x c e => let ⟨⟨v, hc⟩, r⟩ := R.cell x c e; ⟨⟨v, hc.keeps k⟩, r⟩
  cnd := R.cnd
  mus := fun a l e => let ⟨vs, n, x, r⟩ := R.mus a l e; ⟨vs, n, k _ _ x, r⟩
  mnd := R.mnd

noncomputable def ins (g : PMap) (a : Addr) (o : Obj) : PMap := fun b => if b = a then some o else g b
theorem ins_same (g : PMap) (a : Addr) (o : Obj) : ins g a o a = some o := if_pos rfl
theorem ins_other {g : PMap} {a b : Addr} {o : Obj} (h : b ≠ a) : ins g a o b = g b := if_neg h
theorem Rep.gnone {W hid g env vars mu h} (R : Rep W hid g env vars mu h) {a : Addr} (ha : h.get? a = none) : g a = none := by
  cases e : g a with
  | none => rfl
  | some o => rw [R.gs a o e] at ha; cases ha
theorem Rep.hnone {W hid g env vars mu h} (R : Rep W hid g env vars mu h) {a : Addr} (ha : h.get? a = none) : hid a = none := by
  cases e : hid a with
  | none => rfl
  | some o => obtain ⟨sl, x, _⟩ := R.hs a o e; rw [x] at ha; cases ha
theorem le_ins {g : PMap} {a : Addr} {o : Obj} (h : g a = none) : Le g (ins g a o) := fun b o' e => by
  by_cases q : b = a
  · subst q; rw [h] at e; cases e
  · rw [ins_other q]; exact e

theorem Rep.freeze {W hid g env vars mu h h'} (R : Rep W hid g env vars mu h) (k : Kept h h') {a : Addr} {o : Obj} (ha : h.get? a = none) (ho : h'.get? a = some o) :
    Rep W hid (ins g a o) env vars mu h' ∧ Le g (ins g a o) := by
  have l := le_ins (o := o) (R.gnone ha)
  have ne : ∀ {b o'}, h.get? b = some o' → b ≠ a := fun e q => by rw [q, ha] at e; cases e
  have R' := R.keeps k
  obtain ⟨m, hn⟩ := R.ns
  have hL : env.locals ≠ a := by obtain ⟨_, _, _, e, _⟩ := hn; exact ne e
  refine ⟨⟨fun b o' e => l _ _ (R.bs b o' e), fun b o' e => ?_, R'.hs, fun b o' e => ?_, R'.ns, fun x d e => let ⟨u, i, v⟩ := R'.vs x d e; ⟨u, i.mono l, v⟩, ?_, R.hL, fun x c e => ?_, R.cnd, fun b lb e => ?_, R.mnd⟩, l⟩
  · by_cases q : b = a
    · subst q; rw [ins_same] at e; cases e; exact ho
    · rw [ins_other q] at e; exact k _ _ (R.gs b o' e)
  · by_cases q : b = a
    · subst q; exact R.hnone ha
    · rw [ins_other q] at e; exact R.gh b o' e
  · rw [ins_other hL]; exact R.gL
  · obtain ⟨hc, hg, hx⟩ := R'.cell x c e
    obtain ⟨⟨v', hc'⟩, _⟩ := R.cell x c e
    have : c ≠ a := by obtain ⟨_, e, _⟩ := hc'; exact ne e
    exact ⟨hc, by rw [ins_other this]; exact hg, hx⟩
  · obtain ⟨vs, n, x, i, hg, r⟩ := R.mus b lb e
    exact ⟨vs, n, k _ _ x, i.mono l, by rw [ins_other (ne x)]; exact hg, r⟩

theorem Rep.fresh_size {h : Heap} : h.get? h.objs.size = none := by
  cases e : h.get? h.objs.size with
  | none => rfl
  | some o => exact absurd (Heap.lt_size e) (Nat.lt_irrefl _)
theorem kept_push (h : Heap) (o : Obj) : Kept h (h.push o) := fun z_ z_ e => Heap.get?_push_of_some _ e
theorem kept_trans {h h' h'' : Heap} (a : Kept h h') (b : Kept h' h'') : Kept h h'' := fun x o e => b x o (a x o e)

noncomputable def AsList (mu : Mu) (d : PV) (l : List PV) : Prop := d = .list l ∨ ∃ a, d = .loc a ∧ (a, l) ∈ mu
theorem AsList.list {mu l} : AsList mu (.list l) l := .inl rfl
theorem AsList.get {W hid g env vars mu h d l u} (x : AsList mu d l) (R : Rep W hid g env vars mu h) (i : Is g d u) : ∃ a vs, u = .ref a ∧ h.IsList a vs ∧ Iss g l vs.toList := by
  rcases x with rfl | ⟨a, rfl, hm⟩
  · cases i with
    | list e r => exact ⟨_, _, rfl, ⟨_, R.gs _ _ e, rfl, _, rfl⟩, r⟩
  · cases i
    obtain ⟨vs, n, e, r, _⟩ := R.mus a l hm
    exact ⟨a, vs, rfl, ⟨_, e, rfl, n, rfl⟩, r⟩

noncomputable def Ev (W : Wk) (A : Around) (hid : PMap) (env : Env) (vars : Vars) (mu : Mu) (e : Expr) (d : PV) : Prop :=
  ∀ g h t (Q : Value → Shared → Prop) (E : Value → Shared → Prop), Rep W hid g env vars mu h →
    (∀ u g' h' t', Le g g' → Rep W hid g' env vars mu h' → Is g' d u → Q u (W.S h' t')) → wpAny W.M A (eval e env) Q E (W.S h t)

noncomputable def Tr (W : Wk) (A : Around) (hid : PMap) (env : Env) (vars : Vars) (mu : Mu) (e : Expr) (b : Bool) : Prop :=
  ∀ g h t (Q : Bool → Shared → Prop) (E : Value → Shared → Prop), Rep W hid g env vars mu h →
    (∀ g' h' t', Le g g' → Rep W hid g' env vars mu h' → Q b (W.S h' t')) → wpAny W.M A (isTrue e env (eval e env)) Q E (W.S h t)

noncomputable def Op (W : Wk) (A : Around) (hid : PMap) (env : Env) (vars : Vars) (mu : Mu) (ds : List PV) (f : List Value → Sem Value) (d : PV) : Prop :=
  ∀ g h t us (Q : Value → Shared → Prop) (E : Value → Shared → Prop), Rep W hid g env vars mu h → Iss g ds us →
    (∀ u g' h' t', Le g g' → Rep W hid g' env vars mu h' → Is g' d u → Q u (W.S h' t')) → wpAny W.M A (f us) Q E (W.S h t)

noncomputable def EvArgs (W : Wk) (A : Around) (hid : PMap) (env : Env) (vars : Vars) (mu : Mu) (es : List Expr) (ds : List PV) : Prop :=
  ∀ pos g h t (Q : List Value → Shared → Prop) (E : Value → Shared → Prop), Rep W hid g env vars mu h →
    (∀ us g' h' t', Le g g' → Rep W hid g' env vars mu h' → Iss g' ds us → Q us (W.S h' t')) → wpAny W.M A (spliced (backTo pos (starEach es env))) Q E (W.S h t)

structure GName (W : Wk) (env : Env) (x : Str) (v : Value) : Prop where
  kind : env.scope.kind = .function
  glob : env.globals = mainGlobals
  bn : env.builtins = builtinsNs
  k : env.kindOf x = some .globalImplicit
  db : (x == ("__debug__" : Str)) = false
  v : W.mg x = some v ∨ (W.mg x = none ∧ x ≠ "__name__" ∧ bootBuiltins x = some v)

section
variable {W : Wk} {A : Around} {hid : PMap} {env : Env} {vars : Vars} {mu : Mu}

theorem ev_name {x : Str} {pos : Pos} {d : PV} (hd : vars.lookup x = some d) (hk : env.scope.kind = .function) : Ev W A hid env vars mu (.Name x pos) d := by
  intro g h t Q E R k
  obtain ⟨u, i, hdb, ⟨hl, m, hn, hm⟩ | ⟨c, hx, hc, hv⟩⟩ := R.vs x d hd
  · exact wpAny_Name (wpAny_loadName_local hk hl hn hm (k u g h t (Le.refl g) R i)) hdb
  · rcases hx with hx | ⟨hx, hcd⟩
    · exact wpAny_Name (wpAny_loadName_cell hk hx hc hv (k u g h t (Le.refl g) R i)) hdb
    · exact wpAny_Name (wpAny_loadName_free hk hx hc hv (k u g h t (Le.refl g) R i) hcd) hdb

theorem ev_int {i : Int} {k : Nat} {pos : Pos} : Ev W A hid env vars mu (.Constant (.int i) k pos) (.int i) :=
  fun g h t z_ z_ R kk => wpAny_Constant_int (kk _ g h _ (Le.refl g) R .int)
theorem ev_bool {b : Bool} {k : Nat} {pos : Pos} : Ev W A hid env vars mu (.Constant (.bool b) k pos) (.bool b) :=
  fun g h t z_ z_ R kk => wpAny_pure (kk _ g h _ (Le.refl g) R .bool)
theorem ev_none {k : Nat} {pos : Pos} : Ev W A hid env vars mu (.Constant .none k pos) .none :=
  fun g h t z_ z_ R kk => wpAny_pure (kk _ g h _ (Le.refl g) R .none)
theorem ev_str {x : Str} {k : Nat} {pos : Pos} : Ev W A hid env vars mu (.Constant (.str x) k pos) (.str x) :=
  fun g h t z_ z_ R kk => (fun Γ p z_ => by
    show Sem.wp _ Γ (mkText x) _ _ p _
    rw [Sem.wp_cmd_mkText]; exact kk _ g h _ (Le.refl g) R .str)

theorem ev_binop {l r : Expr} {op : Operator} {pos : Pos} {a b d : PV} (ha : Ev W A hid env vars mu l a) (hb : Ev W A hid env vars mu r b)
    (hop : ∀ g h t u v Q E, Rep W hid g env vars mu h → Is g a u → Is g b v → (∀ x g' h' t', Le g g' → Rep W hid g' env vars mu h' → Is g' d x → Q x (W.S h' t')) → wpAny W.M A (binaryOp op u v) Q E (W.S h t)) :
    Ev W A hid env vars mu (.BinOp l op r pos) d := by
  intro g h t Q E R k
  refine wpAny_BinOp (ha g h t _ E R fun u g1 h1 t1 l1 R1 i1 => hb g1 h1 t1 _ E R1 fun v g2 h2 t2 l2 R2 i2 => ?_)
  exact hop g2 h2 t2 u v _ E R2 (i1.mono l2) i2 fun x g3 h3 t3 l3 R3 i3 => k x g3 h3 t3 ((l1.trans l2).trans l3) R3 i3

theorem ev_add {l r : Expr} {pos : Pos} {a b : Int} (ha : Ev W A hid env vars mu l (.int a)) (hb : Ev W A hid env vars mu r (.int b)) : Ev W A hid env vars mu (.BinOp l .Add r pos) (.int (a + b)) :=
  ev_binop ha hb fun g h t u v Q E R iu iv k => by
    cases iu; cases iv; exact P.add_int (k _ g h _ (Le.refl g) R .int)
theorem ev_sub {l r : Expr} {pos : Pos} {a b : Int} (ha : Ev W A hid env vars mu l (.int a)) (hb : Ev W A hid env vars mu r (.int b)) : Ev W A hid env vars mu (.BinOp l .Sub r pos) (.int (a - b)) :=
  ev_binop ha hb fun g h t u v Q E R iu iv k => by
    cases iu; cases iv; exact P.sub_int (k _ g h _ (Le.refl g) R .int)
theorem ev_mul {l r : Expr} {pos : Pos} {a b : Int} (ha : Ev W A hid env vars mu l (.int a)) (hb : Ev W A hid env vars mu r (.int b)) (hm : IntMulOk a b) : Ev W A hid env vars mu (.BinOp l .Mult r pos) (.int (a * b)) :=
  ev_binop ha hb fun g h t u v Q E R iu iv k => by
    cases iu; cases iv; exact P.mul_int (k _ g h _ (Le.refl g) R .int) hm
theorem ev_mod {l r : Expr} {pos : Pos} {a b : Int} (ha : Ev W A hid env vars mu l (.int a)) (hb : Ev W A hid env vars mu r (.int b)) (h0 : b ≠ 0) : Ev W A hid env vars mu (.BinOp l .Mod r pos) (.int (a.fmod b)) :=
  ev_binop ha hb fun g h t u v Q E R iu iv k => by
    cases iu; cases iv; exact mod_int' h0 (k _ g h _ (Le.refl g) R .int)
end
end Mine
end

section
set_option tactic.hygienic false
open PySem PySem.W PyProof.Rows PySem.Calls
set_option linter.unusedVariables false
set_option maxRecDepth 100000
namespace Mine
section
variable {W : Wk} {A : Around} {hid : PMap} {env : Env} {vars : Vars} {mu : Mu}

theorem Rep.nsg {g h} (R : Rep W hid g env vars mu h) (O : W.Ok) : h.Ns mainGlobals W.mg := O.g.keeps fun b o e => R.gs _ _ (R.bs b o e)
theorem Rep.nsb {g h} (R : Rep W hid g env vars mu h) (O : W.Ok) : h.Ns builtinsNs W.mb := O.b.keeps fun b o e => R.gs _ _ (R.bs b o e)
theorem Rep.base {g h} (R : Rep W hid g env vars mu h) : Kept W.base h := fun b o e => R.gs _ _ (R.bs b o e)

theorem name_global {g h t x v pos} {Q : Value → Shared → Prop} {E} (O : W.Ok) (N : GName W env x v) (R : Rep W hid g env vars mu h) (k : Q v (W.S h t)) : wpAny W.M A (eval (.Name x pos) env) Q E (W.S h t) := by
  rcases N.v with e | ⟨e, hn, hb⟩
  · exact Name_function_global N.kind N.k (loadGlobal_global (by rw [N.glob]; exact R.nsg O) e k) N.db
  · exact Name_function_global N.kind N.k (loadGlobal_builtin (by rw [N.glob]; exact R.nsg O) e (by rw [N.bn]; exact R.nsb O) ((O.builtins x hn).trans hb) k) N.db

theorem Rep.alloc {g h} (R : Rep W hid g env vars mu h) (o : Obj) (hf : o.isFreed = false) : Rep W hid (ins g h.objs.size o) env vars mu (h.push o) ∧ Le g (ins g h.objs.size o) :=
  R.freeze (kept_push h o) Rep.fresh_size (Heap.get?_push_size _ hf)
theorem Rep.allocK {g₀ g h d} {o : Obj} {Q : Value → Shared → Prop} (R : Rep W hid g env vars mu h) (l : Le g₀ g) (k : ∀ u g' h' t', Le g₀ g' → Rep W hid g' env vars mu h' → Is g' d u → Q u (W.S h' t')) (hf : o.isFreed = false)
    {t' u} (i : Le g (ins g h.objs.size o) → Is (ins g h.objs.size o) d u) : Q u (W.S (h.push o) t') := k _ _ _ _ (l.trans (R.alloc o hf).2) (R.alloc o hf).1 (i (R.alloc o hf).2)

theorem evargs_nil : EvArgs W A hid env vars mu [] [] := fun pos g h t Q E R k => Calls.spliced_nil (k _ g h t (Le.refl g) R .nil)
theorem evargs_cons {e : Expr} {es : List Expr} {d ds} (he : Ev W A hid env vars mu e d) (hes : EvArgs W A hid env vars mu es ds)
    (hs : starEach (e :: es) env = (false, eval e env) :: starEach es env) : EvArgs W A hid env vars mu (e :: es) (d :: ds) := fun pos g h t Q E R k =>
  args_cons (he g h t _ E R fun u g1 h1 t1 l1 R1 i1 => hes pos g1 h1 t1 _ E R1 fun us g2 h2 t2 l2 R2 i2 => k _ g2 h2 t2 (l1.trans l2) R2 (.cons (i1.mono l2) i2)) hs

theorem ev_call_builtin {x : Str} {np pos : Pos} {id : String} {e : Expr} {es : List Expr} {ds : List PV} {d : PV} (O : W.Ok) (N : GName W env x (.builtin id)) (ha : EvArgs W A hid env vars mu (e :: es) ds)
    (hop : Op W A hid env vars mu ds (fun us => call (.builtin id) us) d)
    (hs : starEach (e :: es) env = (false, eval e env) :: starEach es env) (hp : (backTo pos (starEach es env)).any (·.1) = false) : Ev W A hid env vars mu (.Call (.Name x np) (e :: es) [] pos) d := fun g h t Q E R k =>
  Call_ (name_global O N R (PyProof.Rows.callWith_builtin1 (ha pos g h t _ E R fun us g1 h1 t1 l1 R1 i1 =>
    hop g1 h1 t1 us _ E R1 i1 fun u g2 h2 t2 l2 R2 i2 => k u g2 h2 t2 (l1.trans l2) R2 i2) hs hp)) rfl
theorem ev_call_type {x : Str} {np pos : Pos} {T : String} {e : Expr} {es : List Expr} {ds : List PV} {d : PV} (O : W.Ok) (N : GName W env x (.type T)) (ha : EvArgs W A hid env vars mu (e :: es) ds)
    (hop : Op W A hid env vars mu ds (fun us => call (.type T) us) d)
    (hs : starEach (e :: es) env = (false, eval e env) :: starEach es env) (hp : (backTo pos (starEach es env)).any (·.1) = false) : Ev W A hid env vars mu (.Call (.Name x np) (e :: es) [] pos) d := fun g h t Q E R k =>
  Call_ (name_global O N R (PyProof.Rows.callWith_type1 (ha pos g h t _ E R fun us g1 h1 t1 l1 R1 i1 =>
    hop g1 h1 t1 us _ E R1 i1 fun u g2 h2 t2 l2 R2 i2 => k u g2 h2 t2 (l1.trans l2) R2 i2) hs hp)) rfl

theorem op_len {d l} (hl : AsList mu d l) (hf : l.length < 2 ^ 62) : Op W A hid env vars mu [d] (fun us => call (.builtin "len") us) (.int l.length) := fun g h t us Q E R i k => by
  cases i with
  | cons i r =>
    cases r
    obtain ⟨a, vs, rfl, h1, h2⟩ := hl.get R i
    have e : vs.size = l.length := by have := h2.length; simpa using this
    refine call_len_list h1 (by rw [e]; (first | lia | omega)) ?_
    rw [e]
    exact k _ g h _ (Le.refl g) R .int
theorem op_sum {d} {ns : List Int} (hh : A.handled = none) (hl : AsList mu d (ns.map .int)) : Op W A hid env vars mu [d] (fun us => call (.builtin "sum") us) (.int ns.sum) := fun g h t us Q E R i k => by
  cases i with
  | cons i r =>
    cases r
    obtain ⟨a, vs, rfl, h1, h2⟩ := hl.get R i
    have hi := h2.toInts
    obtain ⟨xs, hx⟩ := hi.allInts.items
    rw [Array.toArray_toList] at hx
    subst hx
    refine sum_intListG hh h1 fun h' tk t' hk => ?_
    have hn := hi.numsOf
    rw [preSum_eq, List.take_of_length_le (by simp)]
    rw [nums_intItems] at hn
    rw [hn]
    exact k _ g h' _ (Le.refl g) (R.keeps hk) .int
theorem op_abs {n : Int} : Op W A hid env vars mu [.int n] (fun us => call (.builtin "abs") us) (.int (n.natAbs : Int)) := fun g h t us Q E R i k => by
  cases i with
  | cons i r =>
    cases r; cases i
    refine call_abs_int fun u tk => ?_
    have e : (if n < 0 then -n else n) = (n.natAbs : Int) := by split <;> (first | lia | omega)
    rw [e]
    exact k _ g h _ (Le.refl g) R .int
theorem op_int {n : Int} : Op W A hid env vars mu [.int n] (fun us => call (.type "int") us) (.int n) := fun g h t us Q E R i k => by
  cases i with
  | cons i r =>
    cases r; cases i
    exact call_int_int (k _ g h _ (Le.refl g) R .int)
theorem op_range1 {n : Int} : Op W A hid env vars mu [.int n] (fun us => call (.type "range") us) (.rng 0 n) := fun g h t us Q E R i k => by
  cases i with
  | cons i r =>
    cases r; cases i
    refine call_range_1 ?_
    exact R.allocK (Le.refl g) k rfl fun z_ => .rng (ins_same _ _ _)
theorem op_range2 {n m : Int} : Op W A hid env vars mu [.int n, .int m] (fun us => call (.type "range") us) (.rng n m) := fun g h t us Q E R i k => by
  cases i with
  | cons i r =>
    cases i
    cases r with
    | cons i r =>
      cases r; cases i
      refine call_range_2 ?_
      exact R.allocK (Le.refl g) k rfl fun z_ => .rng (ins_same _ _ _)

theorem ev_tuple {es : List Expr} {ds n pos} (ha : EvArgs W A hid env vars mu es ds) (hl : ds.length ≤ 1000) : Ev W A hid env vars mu (.Tuple es n pos) (.tup ds) := fun g h t Q E R k =>
  Tuple_ (ha pos g h t _ E R fun us g1 h1 t1 l1 R1 i1 => by
    refine wpAny_newObj_type ?_ (by show us.toArray.size ≤ sizeLine; rw [List.size_toArray, i1.length, sizeLine_eq]; (first | lia | omega))
    exact R1.allocK l1 k rfl fun l => .tup (ins_same _ _ _) (by simpa using i1.mono l))
theorem ev_list {es : List Expr} {ds pos} (ha : EvArgs W A hid env vars mu es ds) (hl : ds.length ≤ 1000) : Ev W A hid env vars mu (.List es pos) (.list ds) := fun g h t Q E R k =>
  List_ (ha pos g h t _ E R fun us g1 h1 t1 l1 R1 i1 => by
    refine wpAny_newObj_type ?_ (by show us.toArray.size ≤ sizeLine; rw [List.size_toArray, i1.length, sizeLine_eq]; (first | lia | omega))
    exact R1.allocK l1 k rfl fun l => .list (ins_same _ _ _) (by simpa using i1.mono l))

theorem ev_item {v s : Expr} {pos d i r} (hv : Ev W A hid env vars mu v d) (hs : Ev W A hid env vars mu s i)
    (hop : ∀ g h t u w Q E, Rep W hid g env vars mu h → Is g d u → Is g i w → (∀ x g' h' t', Le g g' → Rep W hid g' env vars mu h' → Is g' r x → Q x (W.S h' t')) → wpAny W.M A (subscriptTail v s u w) Q E (W.S h t)) :
    Ev W A hid env vars mu (.Subscript v s pos) r := fun g h t Q E R k =>
  Subscript_ (hv g h t _ E R fun u g1 h1 t1 l1 R1 i1 => hs g1 h1 t1 _ E R1 fun w g2 h2 t2 l2 R2 i2 =>
    hop g2 h2 t2 u w Q E R2 (i1.mono l2) i2 fun x g3 h3 t3 l3 R3 i3 => k x g3 h3 t3 ((l1.trans l2).trans l3) R3 i3)
end
end Mine
end

section
set_option tactic.hygienic false
open PySem PySem.W PyProof.Rows PySem.Calls PySem.SeqAt
set_option linter.unusedVariables false
set_option maxRecDepth 100000
namespace Mine
section
variable {W : Wk} {A : Around} {hid : PMap} {env : Env} {vars : Vars} {mu : Mu}

structure AOk (W : Wk) (A : Around) (n : Nat) : Prop where
  handled : A.handled = none
  depth : A.depth + n ≤ 500
  units : A.units + 3 * n ≤ 4000
  frames : ∃ e l, A.frames = some (e :: l) ∧ e.scope.isGenerator = false ∧ e.scope.isCoroutine = false ∧ e.builtins = builtinsNs ∧ e.globals = mainGlobals

theorem pyl {n g h t} (O : W.Ok) (a : AOk W A n) (R : Rep W hid g env vars mu h) : PylongRoom W.M A (W.S h t) := by
  obtain ⟨e, l, h1, h2, h3, h4, h5⟩ := a.frames
  refine PylongRoom.of (O.nolimit.keeps R.base) ?_ (SeerAt.of (O.seer.keeps R.base) O.tree h1 h2 h3 h4 h5)
  have := a.depth
  show A.depth + 100 < 1000
  (first | lia | omega)

theorem ev_fdiv {n} {l r : Expr} {pos : Pos} {a b : Int} (O : W.Ok) (ao : AOk W A n) (ha : Ev W A hid env vars mu l (.int a)) (hb : Ev W A hid env vars mu r (.int b)) (h0 : b ≠ 0) : Ev W A hid env vars mu (.BinOp l .FloorDiv r pos) (.int (a.fdiv b)) :=
  ev_binop ha hb fun g h t u v Q E R iu iv k => by
    cases iu; cases iv; exact floordiv_int h0 (k _ g h _ (Le.refl g) R .int) (.inr (pyl O ao R))
theorem ev_neg {e : Expr} {pos : Pos} {a : Int} (ha : Ev W A hid env vars mu e (.int a)) : Ev W A hid env vars mu (.UnaryOp .USub e pos) (.int (-a)) := fun g h t Q E R k => by
  show wpAny _ _ (do let v ← eval e env; standAt pos; holding [v] (unaryOp .USub v)) _ _ _
  refine wpAny_bind (ha g h t _ E R fun u g1 h1 t1 l1 R1 i1 => wpAny_bind (wpAny_standAt (wpAny_holding ?_)))
  cases i1
  exact P.neg_int (k _ g1 h1 _ l1 R1 .int)

theorem sub_ops (s : Expr) (u w : Value) : ∃ ops, subscripted s false u w = operate ops (getItem u w) := by
  (set_option tactic.hygienic true in cases s) <;> first | exact ⟨_, rfl⟩ | (rename_i st _; cases st <;> exact ⟨_, rfl⟩)

noncomputable def idx (k : Int) (n : Nat) : Nat := if 0 ≤ k then k.toNat else (k + n).toNat

theorem ev_idx {v s : Expr} {pos d l k r} (hv : Ev W A hid env vars mu v d) (hs : Ev W A hid env vars mu s (.int k)) (hl : AsList mu d l) (h1 : -(l.length : Int) ≤ k) (h2 : k < l.length) (hn : l.length < 2 ^ 62)
    (hr : l[idx k l.length]? = some r) : Ev W A hid env vars mu (.Subscript v s pos) r :=
  ev_item hv hs fun g h t u w Q E R i j kk => by
    obtain ⟨a, vs, rfl, q1, q2⟩ := hl.get R i
    set_option tactic.hygienic true in cases j
    rename_i tk
    obtain ⟨x, hx, ix⟩ := q2.get _ _ hr
    obtain ⟨ops, ho⟩ := sub_ops s (.ref a) (.int k tk)
    have hlen : vs.size = l.length := by have := q2.length; simpa using this
    refine tail_any q1.typeIs slot_list_getitem.lookup ?_ ho
    by_cases h0 : 0 ≤ k
    · rw [idx, if_pos h0] at hx
      exact wpAny_getItem_list q1 h0 (by (first | lia | omega)) (by simpa using hx) (kk x g h t (Le.refl g) R ix)
    · rw [idx, if_neg h0] at hx
      exact wpAny_getItem_list_neg q1 (by (first | lia | omega)) (by (first | lia | omega)) (by (first | lia | omega)) (by rw [hlen]; simpa using hx) (kk x g h t (Le.refl g) R ix)
theorem ev_tidx {v s : Expr} {pos l k r} (hv : Ev W A hid env vars mu v (.tup l)) (hs : Ev W A hid env vars mu s (.int k)) (h1 : 0 ≤ k) (h2 : k < l.length) (hn : l.length < 2 ^ 62)
    (hr : l[k.toNat]? = some r) : Ev W A hid env vars mu (.Subscript v s pos) r :=
  ev_item hv hs fun g h t u w Q E R i j kk => by
    set_option tactic.hygienic true in cases i with
    | tup e q2 =>
      set_option tactic.hygienic true in cases j
      rename_i a vs n tk
      obtain ⟨x, hx, ix⟩ := q2.get _ _ hr
      obtain ⟨ops, ho⟩ := sub_ops s (.ref a) (.int k tk)
      have hlen : vs.size = l.length := by have := q2.length; simpa using this
      have ht : IsTup h a vs := ⟨_, R.gs _ _ e, rfl, n, rfl⟩
      refine tail_any ht.typeIs slot_tuple_getitem.lookup (getItem_tuple (s := W.S h t) ht (by (first | lia | omega)) (by (first | lia | omega)) (j := k.toNat) ?_ (by simpa using hx) (kk x g h t (Le.refl g) R ix)) ho
      unfold seqIndex?
      rw [hlen]
      simp only [decide_eq_true_eq, Bool.and_eq_true]
      (repeat' split) <;> first | rfl | (first | lia | omega)

theorem ev_cmp {l r : Expr} {op : CmpOp} {pos : Pos} {a b d : PV} (ha : Ev W A hid env vars mu l a) (hb : Ev W A hid env vars mu r b) (hm : behindInMarks op r = false)
    (hop : Op W A hid env vars mu [a, b] (fun us => compareOp op (us.getD 0 .none) (us.getD 1 .none)) d) : Ev W A hid env vars mu (.Compare l [op] [r] pos) d := fun g h t Q E R k =>
  wpAny_Compare1 (ha g h t _ E R fun u g1 h1 t1 l1 R1 i1 => hb g1 h1 t1 _ E R1 fun v g2 h2 t2 l2 R2 i2 =>
    hop g2 h2 t2 [u, v] _ E R2 (.cons (i1.mono l2) (.cons i2 .nil)) fun x g3 h3 t3 l3 R3 i3 => k x g3 h3 t3 ((l1.trans l2).trans l3) R3 i3) hm
theorem tr_cmp {l r : Expr} {op : CmpOp} {pos : Pos} {a b : PV} {c : Bool} (ha : Ev W A hid env vars mu l a) (hb : Ev W A hid env vars mu r b) (hm : behindInMarks op r = false)
    (hop : Op W A hid env vars mu [a, b] (fun us => compareOp op (us.getD 0 .none) (us.getD 1 .none)) (.bool c)) : Tr W A hid env vars mu (.Compare l [op] [r] pos) c := fun g h t Q E R k =>
  wpAny_isTrue_Compare1 (ha g h t _ E R fun u g1 h1 t1 l1 R1 i1 => hb g1 h1 t1 _ E R1 fun v g2 h2 t2 l2 R2 i2 =>
    hop g2 h2 t2 [u, v] _ E R2 (.cons (i1.mono l2) (.cons i2 .nil)) fun x g3 h3 t3 l3 R3 i3 => by cases i3; exact wpAny_truthy_bool (k g3 h3 t3 ((l1.trans l2).trans l3) R3)) hm

theorem op2 {a b d : PV} {f : Value → Value → Sem Value} (h : ∀ g h t u v Q E, Rep W hid g env vars mu h → Is g a u → Is g b v → (∀ x g' h' t', Le g g' → Rep W hid g' env vars mu h' → Is g' d x → Q x (W.S h' t')) → wpAny W.M A (f u v) Q E (W.S h t)) :
    Op W A hid env vars mu [a, b] (fun us => f (us.getD 0 .none) (us.getD 1 .none)) d := fun g h' t us Q E R i k => by
  cases i with
  | cons i r => cases r with
    | cons j r => cases r; exact h g h' t _ _ Q E R i j k

theorem c_lt {a b : Int} : Op W A hid env vars mu [.int a, .int b] (fun us => compareOp .Lt (us.getD 0 .none) (us.getD 1 .none)) (.bool (decide (a < b))) :=
  op2 fun g h t u v Q E R i j k => by cases i; cases j; exact P.lt_int (k _ g h t (Le.refl g) R .bool)
theorem c_gt {a b : Int} : Op W A hid env vars mu [.int a, .int b] (fun us => compareOp .Gt (us.getD 0 .none) (us.getD 1 .none)) (.bool (decide (a > b))) :=
  op2 fun g h t u v Q E R i j k => by cases i; cases j; exact P.gt_int (k _ g h t (Le.refl g) R .bool)
theorem c_eq {a b : Int} : Op W A hid env vars mu [.int a, .int b] (fun us => compareOp .Eq (us.getD 0 .none) (us.getD 1 .none)) (.bool (a == b)) :=
  op2 fun g h t u v Q E R i j k => by cases i; cases j; exact P.eq_int (k _ g h t (Le.refl g) R .bool)
theorem c_ne {a b : Int} : Op W A hid env vars mu [.int a, .int b] (fun us => compareOp .NotEq (us.getD 0 .none) (us.getD 1 .none)) (.bool (a != b)) :=
  op2 fun g h t u v Q E R i j k => by cases i; cases j; exact P.ne_int (k _ g h t (Le.refl g) R .bool)
theorem c_eqs {a b : Str} : Op W A hid env vars mu [.str a, .str b] (fun us => compareOp .Eq (us.getD 0 .none) (us.getD 1 .none)) (.bool (a == b)) :=
  op2 fun g h t u v Q E R i j k => by cases i; cases j; exact PyProof.Rows.eq_str (k _ g h t (Le.refl g) R .bool)
noncomputable def PV.isNone : PV → Bool
  | .none => true
  | _ => false
theorem c_isn {a : PV} (ha : ∀ v, a ≠ .val v) : Op W A hid env vars mu [a, .none] (fun us => compareOp .Is (us.getD 0 .none) (us.getD 1 .none)) (.bool a.isNone) :=
  op2 fun g h t u v Q E R i j k => by
    cases j
    cases i <;> first | exact absurd rfl (ha _) | exact is_none_none (k _ g h t (Le.refl g) R .bool) | exact is_none_ne (by intro q; cases q) (k _ g h t (Le.refl g) R .bool)
theorem c_isnn {a : PV} (ha : ∀ v, a ≠ .val v) : Op W A hid env vars mu [a, .none] (fun us => compareOp .IsNot (us.getD 0 .none) (us.getD 1 .none)) (.bool (!a.isNone)) :=
  op2 fun g h t u v Q E R i j k => by
    cases j
    cases i <;> first | exact absurd rfl (ha _) | exact isnot_none_none (k _ g h t (Le.refl g) R .bool) | exact isnot_none_ne (by intro q; cases q) (k _ g h t (Le.refl g) R .bool)
theorem c_ini {d} {ns : List Int} {x : Int} (hl : AsList mu d (ns.map .int)) : Op W A hid env vars mu [.int x, d] (fun us => compareOp .In (us.getD 0 .none) (us.getD 1 .none)) (.bool (ns.any (· == x))) :=
  op2 fun g h t u v Q E R i j k => by
    obtain ⟨a, vs, rfl, q1, q2⟩ := hl.get R j
    cases i
    exact in_list_ints (vs := vs.toList) (by simpa using q1) q2.toInts (k _ g h t (Le.refl g) R .bool)
theorem c_ins {d} {ns : List Str} {x : Str} (hl : AsList mu d (ns.map .str)) : Op W A hid env vars mu [.str x, d] (fun us => compareOp .In (us.getD 0 .none) (us.getD 1 .none)) (.bool (ns.any (· == x))) :=
  op2 fun g h t u v Q E R i j k => by
    obtain ⟨a, vs, rfl, q1, q2⟩ := hl.get R j
    set_option tactic.hygienic true in cases i
    rename_i tk
    have key : ∀ {ns : List Str} {vs : List Value}, Iss g (ns.map .str) vs → vs.any (fun v => match v with | .str y _ => y == x | _ => false) = ns.any (· == x) ∧ ∀ y ∈ vs, ∃ z tz, y = .str z tz := by
      intro ns
      induction ns with
      | nil => intro vs h; cases h; exact ⟨rfl, fun y hy => nomatch hy⟩
      | cons n r ih =>
        intro vs h
        cases h with
        | cons h1 h2 =>
          cases h1
          obtain ⟨k1, k2⟩ := ih h2
          refine ⟨by simp [k1], fun y hy => ?_⟩
          rcases List.mem_cons.mp hy with rfl | hy
          · exact ⟨_, _, rfl⟩
          · exact k2 y hy
    obtain ⟨k1, k2⟩ := key q2
    refine in_listAt (fun v => match v with | .str y _ => y == x | _ => false) q1 (fun y hy => ?_) ?_
    · obtain ⟨z, tz, rfl⟩ := k2 y (by simpa using hy)
      exact fun prog w E Q hq => eqBool_str hq
    · rw [show vs.any (fun v => match v with | .str y _ => y == x | _ => false) = ns.any (· == x) by rw [← k1]; simp]
      exact k _ g h t (Le.refl g) R .bool
end
end Mine
end

section
set_option tactic.hygienic false
open PySem PyProof.Rows
set_option linter.unusedVariables false
namespace Mine

structure TB (a₀ : Array Keyed) (st : SortSt) : Prop where
  perm : (arrOf st).Perm a₀
  kind : kindOf st = oneType'
  failed : failedOf st = none
theorem TB.base {a₀ : Array Keyed} {st : SortSt} (h : TB a₀ st) : SBase a₀ (setPending st #[]) := ⟨h.perm, h.kind, h.failed, rfl⟩
theorem TB.size {a₀ : Array Keyed} {st : SortSt} (h : TB a₀ st) : (arrOf st).size = a₀.size := h.perm.size_eq
theorem TB.set {a₀ : Array Keyed} {st : SortSt} (h : TB a₀ st) {xs : Array Keyed} (hp : xs.Perm (arrOf st)) : TB a₀ (setArr st xs) := ⟨hp.trans h.perm, h.kind, h.failed⟩
theorem TB.at {a₀ : Array Keyed} {st : SortSt} (h : TB a₀ st) (h0 : IntKeys a₀) {i : Nat} (hi : i < a₀.size) : ∃ t q, (arrOf st)[i]? = some (.int (K (arrOf st) i) t, q) := h.base.at h0 hi

noncomputable def Asc (xs : Array Keyed) (lo hi : Nat) : Prop := ∀ i j, lo ≤ i → i ≤ j → j < hi → K xs i ≤ K xs j
noncomputable def Desc (xs : Array Keyed) (lo hi : Nat) : Prop := ∀ i j, lo ≤ i → i ≤ j → j < hi → K xs j ≤ K xs i
noncomputable def Off (xs ys : Array Keyed) (lo hi : Nat) : Prop := ∀ k, k < lo ∨ hi ≤ k → K xs k = K ys k
theorem Off.refl {xs : Array Keyed} {lo hi : Nat} : Off xs xs lo hi := fun z_ z_ => rfl
theorem Off.trans {xs ys zs : Array Keyed} {lo hi : Nat} (a : Off xs ys lo hi) (b : Off ys zs lo hi) : Off xs zs lo hi := fun k h => (a k h).trans (b k h)
theorem Off.wide {xs ys : Array Keyed} {lo hi lo' hi' : Nat} (a : Off xs ys lo hi) (h1 : lo' ≤ lo) (h2 : hi ≤ hi') : Off xs ys lo' hi' := fun k h => a k (h.imp (fun z => Nat.lt_of_lt_of_le z h1) (fun z => Nat.le_trans h2 z))
theorem Asc.one {xs : Array Keyed} {lo hi : Nat} (h : hi ≤ lo + 1) : Asc xs lo hi := fun i j h1 h2 h3 => by
  have : i = j := by (first | lia | omega)
  rw [this]; exact Int.le_refl _
theorem Desc.one {xs : Array Keyed} {lo hi : Nat} (h : hi ≤ lo + 1) : Desc xs lo hi := fun i j h1 h2 h3 => by
  have : i = j := by (first | lia | omega)
  rw [this]; exact Int.le_refl _
theorem Asc.snoc {xs : Array Keyed} {lo hi : Nat} (h : Asc xs lo hi) (hl : lo < hi) (hk : K xs (hi - 1) ≤ K xs hi) : Asc xs lo (hi + 1) := fun i j h1 h2 h3 => by
  by_cases q : j < hi
  · exact h i j h1 h2 q
  · have e : j = hi := by (first | lia | omega)
    subst e
    by_cases z : i = j
    · rw [z]; exact Int.le_refl _
    · exact Int.le_trans (h i (j - 1) h1 (by (first | lia | omega)) (by (first | (clear z q h3 hk h h2 h1; lia) | lia | omega))) hk
theorem Desc.snoc {xs : Array Keyed} {lo hi : Nat} (h : Desc xs lo hi) (hl : lo < hi) (hk : K xs hi ≤ K xs (hi - 1)) : Desc xs lo (hi + 1) := fun i j h1 h2 h3 => by
  by_cases q : j < hi
  · exact h i j h1 h2 q
  · have e : j = hi := by (first | lia | omega)
    subst e
    by_cases z : i = j
    · rw [z]; exact Int.le_refl _
    · exact Int.le_trans hk (h i (j - 1) h1 (by (first | lia | omega)) (by (first | lia | omega)))
theorem Desc.same {xs ys : Array Keyed} {lo hi : Nat} (h : Desc xs lo hi) (e : ∀ k, K ys k = K xs k) : Desc ys lo hi := fun i j h1 h2 h3 => by rw [e, e]; exact h i j h1 h2 h3
theorem Desc.turn {xs : Array Keyed} {lo hi : Nat} (h : Desc xs lo hi) (hh : hi ≤ xs.size) : Asc (mirror xs lo hi ((hi - lo) / 2)) lo hi := fun i j h1 h2 h3 => by
  have ih := Nat.lt_of_le_of_lt h2 h3
  have hp := Nat.zero_lt_of_lt h3
  rw [K_mirror hh, K_mirror hh, if_pos ⟨h1, ih⟩, if_pos ⟨Nat.le_trans h1 h2, h3⟩, Nat.add_sub_assoc hp]
  exact h _ _ (Nat.le_sub_of_add_le (Nat.add_le_add_left (Nat.le_sub_one_of_lt h3) _)) (Nat.sub_le_sub_left h2 _) (Nat.sub_lt_left_of_lt_add (Nat.le_trans (Nat.le_sub_one_of_lt ih) (Nat.le_add_left _ _)) (Nat.add_lt_add_of_le_of_lt h1 (Nat.sub_lt hp Nat.one_pos)))
theorem off_mirror {xs : Array Keyed} {lo hi : Nat} (hh : hi ≤ xs.size) : Off (mirror xs lo hi ((hi - lo) / 2)) xs lo hi := fun k h => by
  rw [K_mirror hh, if_neg]
  rintro ⟨a, b⟩
  exact h.elim (fun z => Nat.not_le.mpr z a) (fun z => Nat.not_le.mpr b z)

theorem mid_lt {l r : Nat} (h : l < r) : l + (r - l) / 2 < r := by (first | lia | omega)
theorem mean_ge {l r : Nat} (h : l < r) : l ≤ (l + r) / 2 := by (first | lia | omega)
theorem mean_lt {l r : Nat} (h : l < r) : (l + r) / 2 < r := by (first | lia | omega)
theorem cut_r {l r m k x : Nat} (h : r - l ≤ k - x) (h1 : l ≤ m) (h2 : m < r) : m - l ≤ k - (x + 1) := Nat.le_pred_of_lt (Nat.lt_of_lt_of_le (Nat.sub_lt_sub_right h1 h2) h)
theorem cut_l {l r m k x : Nat} (h : r - l ≤ k - x) (h1 : l ≤ m) (h2 : m < r) : r - (m + 1) ≤ k - (x + 1) := Nat.pred_le_pred (Nat.le_trans (Nat.sub_le_sub_left h1 r) h)
theorem cut_end {l r k : Nat} (h : r - l ≤ k - max 0 k) (h1 : l ≤ r) : l = r := by
  rw [Nat.zero_max, Nat.sub_self] at h
  exact Nat.le_antisymm h1 (Nat.sub_eq_zero_iff_le.mp (Nat.le_zero.mp h))

section
variable {prog : Program} {w : World} {A : Around} {E : Value → Shared → Prop} {s : Shared} {a₀ : Array Keyed}

theorem wpS_ltT {st : SortSt} {i j : Nat} {Q : Option Bool → SortSt → Prop} (hB : TB a₀ st) (h0 : IntKeys a₀) (hi : i < a₀.size) (hj : j < a₀.size) (h : Q (some (decide (K (arrOf st) i < K (arrOf st) j))) st) :
    wpS (model prog w) A E s (ltAt' i j) Q st := by
  obtain ⟨t, p, e1⟩ := hB.at h0 hi
  obtain ⟨u, q, e2⟩ := hB.at h0 hj
  exact wpS_ltAt hB.kind e1 e2 h

theorem rise {st : SortSt} {lo a nrem : Nat} {ρ : Type} {Q : Option ρ × Nat → SortSt → Prop} {f : Nat → Option ρ × Nat → StateT SortSt Sem (ForInStep (Option ρ × Nat))} {e : Nat → StateT SortSt Sem (ForInStep (Option ρ × Nat))}
    (hf : ∀ (x n : Nat), f x (none, n) = ltAt' (lo + n) (lo + n - 1) >>= fun r => match r with
      | some smaller => if smaller = true then pure (ForInStep.done (none, n)) else pure (ForInStep.yield (none, n + 1))
      | _ => e n)
    (h0 : IntKeys a₀) (hn : lo + nrem ≤ a₀.size) (ha : 1 ≤ a) (han : a ≤ nrem) (hB : TB a₀ st) (hs : Asc (arrOf st) lo (lo + a))
    (h : ∀ n, a ≤ n → n ≤ nrem → Asc (arrOf st) lo (lo + n) → (n = nrem ∨ K (arrOf st) (lo + n) < K (arrOf st) (lo + n - 1)) → Q (none, n) st) :
    wpS (model prog w) A E s (forIn [a:nrem] ((none, a) : Option ρ × Nat) f) Q st := by
  refine wpS_forRange (I := fun x c st' => st' = st ∧ c = (none, x) ∧ Asc (arrOf st) lo (lo + x)) ?_ ?_ ⟨rfl, rfl, hs⟩
  · rintro x c st' hax hxn ⟨rfl, rfl, hs'⟩
    rw [hf]
    refine wpS_bind (wpS_ltT hB h0 (by (first | lia | omega)) (by (first | (clear hs' h hs hB han h0 hf; lia) | lia | omega)) ?_)
    by_cases hless : K (arrOf st') (lo + x) < K (arrOf st') (lo + x - 1)
    · simp only [hless, decide_true, if_true]
      exact wpS_pure (h x hax (by (first | exact Nat.le_of_lt (by assumption) | lia | omega)) hs' (.inr hless))
    · simp only [hless, decide_false, Bool.false_eq_true, if_false]
      exact wpS_pure ⟨rfl, rfl, hs'.snoc (by (first | lia | omega)) (Int.not_lt.mp hless)⟩
  · rintro c st' ⟨rfl, rfl, hs'⟩
    rw [Nat.max_eq_right han] at hs' ⊢
    exact h nrem han (Nat.le_refl _) hs' (.inl rfl)

theorem turn_T {st : SortSt} {i j : Nat} {Q : Unit → SortSt → Prop} (h : Q () (setArr st (mirror (arrOf st) i j ((j - i) / 2)))) : wpS (model prog w) A E s (reverseSlice' i j) Q st := by
  rw [reverseSlice'_eq]; exact wpS_modify h

theorem fall {st : SortSt} {lo a nrem : Nat} {ρ : Type} {Q : Option ρ × Nat × Nat → SortSt → Prop} {f : Nat → Option ρ × Nat × Nat → StateT SortSt Sem (ForInStep (Option ρ × Nat × Nat))} {e1 e2 : Nat → Nat → StateT SortSt Sem (ForInStep (Option ρ × Nat × Nat))}
    (hf : ∀ (x n q : Nat), f x (none, n, q) = ltAt' (lo + n) (lo + n - 1) >>= fun r => match r with
      | some smaller =>
        if smaller = true then (if q > 0 then reverseSlice' (lo + n - (q + 1)) (lo + n) >>= fun z_ => pure (ForInStep.yield (none, n + 1, 0)) else pure (ForInStep.yield (none, n + 1, 0)))
        else ltAt' (lo + n - 1) (lo + n) >>= fun r => match r with
          | some larger => if larger = true then pure (ForInStep.done (none, n, q)) else pure (ForInStep.yield (none, n + 1, q + 1))
          | _ => e1 n q
      | _ => e2 n q)
    (h0 : IntKeys a₀) (hn : lo + nrem ≤ a₀.size) (ha : 1 ≤ a) (han : a ≤ nrem) (hB : TB a₀ st) (hs : Desc (arrOf st) lo (lo + a))
    (h : ∀ n q xs, a ≤ n → n ≤ nrem → xs.Perm (arrOf st) → Off xs (arrOf st) lo (lo + n) → Desc xs lo (lo + n) → q + 1 ≤ n → (∀ i, lo + n - (q + 1) ≤ i → i < lo + n → K xs i = K xs (lo + n - 1)) → Q (none, n, q) (setArr st xs)) :
    wpS (model prog w) A E s (forIn [a:nrem] ((none, a, 0) : Option ρ × Nat × Nat) f) Q st := by
  refine wpS_forRange (I := fun x c st' => ∃ q xs, c = (none, x, q) ∧ st' = setArr st xs ∧ xs.Perm (arrOf st) ∧ Off xs (arrOf st) lo (lo + x) ∧ Desc xs lo (lo + x) ∧ q + 1 ≤ x ∧ (∀ i, lo + x - (q + 1) ≤ i → i < lo + x → K xs i = K xs (lo + x - 1)))
    ?_ ?_ ⟨0, arrOf st, rfl, rfl, Array.Perm.refl _, Off.refl, hs, ha, fun i h1 h2 => by congr 1; (first | (clear h hs hB han hn h0 hf; lia) | lia | omega)⟩
  · rintro x c st' hax hxn ⟨q, xs, rfl, rfl, hp, ho, hd, hq, he⟩
    have hB' := hB.set hp
    have hsz : xs.size = a₀.size := hB'.size
    rw [hf]
    refine wpS_bind (wpS_ltT hB' h0 (by (first | lia | omega)) (by (first | lia | omega)) ?_)
    show wpS _ _ _ _ _ _ _
    by_cases hless : K xs (lo + x) < K xs (lo + x - 1)
    · simp only [hless, decide_true, if_true]
      by_cases hq0 : q > 0
      · rw [if_pos hq0]
        refine wpS_bind (turn_T (wpS_pure ⟨0, _, rfl, rfl, (mirror_perm _ _ _ _).trans hp, fun k hk => ?_, ?_, by (first | (simp; done) | lia | omega), fun i h1 h2 => by congr 1; (first | lia | omega)⟩))
        · exact (off_mirror (by show lo + x ≤ xs.size; (first | lia | omega)) k (by (first | (clear hq0 hless hsz hB' he hd ho hp hxn hax h hs hB han ha hn h0 hf; lia) | lia | omega))).trans (ho k (by (first | lia | omega)))
        · exact (hd.snoc (by (first | lia | omega)) (Int.le_of_lt hless)).same fun k => K_mirror_equal (by show lo + x ≤ xs.size; (first | lia | omega)) he k
      · rw [if_neg hq0]
        exact wpS_pure ⟨0, xs, rfl, rfl, hp, ho.wide (Nat.le_refl _) (by (first | (simp; done) | lia | omega)), hd.snoc (by (first | lia | omega)) (Int.le_of_lt hless), by (first | (simp; done) | lia | omega), fun i h1 h2 => by congr 1; (first | lia | omega)⟩
    · simp only [hless, decide_false, Bool.false_eq_true, if_false]
      refine wpS_bind (wpS_ltT hB' h0 (by (first | lia | omega)) (by (first | lia | omega)) ?_)
      show wpS _ _ _ _ _ _ _
      by_cases hl : K xs (lo + x - 1) < K xs (lo + x)
      · simp only [hl, decide_true, if_true]
        exact wpS_pure (h x q xs hax (by (first | exact Nat.le_of_lt (by assumption) | lia | omega)) hp ho hd hq he)
      · simp only [hl, decide_false, Bool.false_eq_true, if_false]
        have ex : K xs (lo + x) = K xs (lo + x - 1) := Int.le_antisymm (Int.not_lt.mp hl) (Int.not_lt.mp hless)
        refine wpS_pure ⟨q + 1, xs, rfl, rfl, hp, ho.wide (Nat.le_refl _) (by (first | (simp; done) | lia | omega)), hd.snoc (by (first | lia | omega)) (Int.le_of_eq ex), by (first | exact Nat.lt_succ_of_le (by assumption) | lia | omega), fun i h1 h2 => ?_⟩
        show K xs i = K xs (lo + x)
        by_cases z : i = lo + x
        · rw [z]
        · rw [ex]; exact he i (by (first | lia | omega)) (by (first | (clear h1 ex hl hless hsz hB' he hq hd ho hp hxn hax h hs hB han ha hn h0 hf; lia) | lia | omega))
  · rintro c st' ⟨q, xs, rfl, rfl, hp, ho, hd, hq, he⟩
    rw [Nat.max_eq_right han] at ho hd hq he ⊢
    exact h nrem q xs han (Nat.le_refl _) hp ho hd hq he
end
end Mine
end

section
set_option tactic.hygienic false
open PySem PyProof.Rows
set_option linter.unusedVariables false
namespace Mine
section
variable {prog : Program} {w : World} {A : Around} {E : Value → Shared → Prop} {s : Shared} {a₀ : Array Keyed}

structure RunIn (ys xs : Array Keyed) (lo nrem m : Nat) : Prop where
  m1 : 1 ≤ m
  m2 : m ≤ nrem
  perm : xs.Perm ys
  off : Off xs ys lo (lo + m)
  asc : Asc xs lo (lo + m)

theorem run_tail {st : SortSt} {lo m nrem : Nat} {ys xs : Array Keyed} {Q : Option Nat → SortSt → Prop} {g : Nat → Option (Option Nat) × Nat → StateT SortSt Sem (ForInStep (Option (Option Nat) × Nat))} {e : Nat → StateT SortSt Sem (ForInStep (Option (Option Nat) × Nat))} {k4 : Option (Option Nat) × Nat → StateT SortSt Sem (Option Nat)}
    (hg : ∀ (x n : Nat), g x (none, n) = ltAt' (lo + n) (lo + n - 1) >>= fun r => match r with
      | some smaller => if smaller = true then pure (ForInStep.done (none, n)) else pure (ForInStep.yield (none, n + 1))
      | _ => e n)
    (hk : ∀ n, k4 (none, n) = pure (some n)) (h0 : IntKeys a₀) (hn : lo + nrem ≤ a₀.size) (h1 : 1 ≤ m) (h2 : m ≤ nrem) (hB : TB a₀ (setArr st xs)) (hp : xs.Perm ys) (ho : Off xs ys lo (lo + m)) (hd : Desc xs lo (lo + m))
    (h : ∀ m xs, RunIn ys xs lo nrem m → Q (some m) (setArr st xs)) :
    wpS (model prog w) A E s (reverseSlice' lo (lo + m) >>= fun z_ => forIn [m:nrem] (none, m) g >>= k4) Q (setArr st xs) := by
  have hsz : lo + m ≤ xs.size := by have : xs.size = a₀.size := hB.size; (first | lia | omega)
  refine wpS_bind (turn_T ?_)
  have hp2 := mirror_perm xs lo (lo + m) ((lo + m - lo) / 2)
  have hB2 : TB a₀ (setArr st (mirror xs lo (lo + m) ((lo + m - lo) / 2))) := hB.set hp2
  refine wpS_bind (rise hg h0 hn h1 h2 hB2 (hd.turn hsz) fun n n1 n2 hs z_ => ?_)
  rw [hk]
  exact wpS_pure (h n _ ⟨by (first | exact Nat.lt_of_lt_of_le (by assumption) (by assumption) | lia | omega), n2, hp2.trans hp, fun k hk => (off_mirror hsz k (by (first | lia | omega))).trans (ho k (by (first | lia | omega))), hs⟩)

theorem runG {st : SortSt} {lo nrem : Nat} {Q : Option Nat → SortSt → Prop} (h0 : IntKeys a₀) (hn : lo + nrem ≤ a₀.size) (h1 : 1 ≤ nrem) (hB : TB a₀ st)
    (h : ∀ m xs, RunIn (arrOf st) xs lo nrem m → Q (some m) (setArr st xs)) : wpS (model prog w) A E s (countRun' lo nrem) Q st := by
  rw [countRun'_eq]
  refine wpS_bind (rise (fun z_ z_ => rfl) h0 hn (Nat.le_refl 1) h1 hB (Asc.one (Nat.le_refl _)) fun n n1 n2 hs hor => ?_)
  dsimp only
  by_cases hnn : n = nrem
  · rw [if_pos (by rw [hnn]; exact beq_self_eq_true _)]
    exact wpS_pure (h n (arrOf st) ⟨n1, n2, Array.Perm.refl _, Off.refl, hs⟩)
  rw [if_neg (by simpa using hnn)]
  have hlt := hor.resolve_left hnn
  have hsz : (arrOf st).size = a₀.size := hB.size
  -- the part that falls, from a stretch that falls to its n-th
  have part : ∀ (xs : Array Keyed) {f : Nat → Option (Option Nat) × Nat × Nat → StateT SortSt Sem (ForInStep (Option (Option Nat) × Nat × Nat))} {e1 e2 : Nat → Nat → StateT SortSt Sem (ForInStep (Option (Option Nat) × Nat × Nat))}
      {k : Option (Option Nat) × Nat × Nat → StateT SortSt Sem (Option Nat)} {g : Nat → Nat → Option (Option Nat) × Nat → StateT SortSt Sem (ForInStep (Option (Option Nat) × Nat))} {e : Nat → Nat → StateT SortSt Sem (ForInStep (Option (Option Nat) × Nat))} {k4 : Option (Option Nat) × Nat → StateT SortSt Sem (Option Nat)},
      (∀ (x n q : Nat), f x (none, n, q) = ltAt' (lo + n) (lo + n - 1) >>= fun r => match r with
      | some smaller =>
        if smaller = true then (if q > 0 then reverseSlice' (lo + n - (q + 1)) (lo + n) >>= fun z_ => pure (ForInStep.yield (none, n + 1, 0)) else pure (ForInStep.yield (none, n + 1, 0)))
        else ltAt' (lo + n - 1) (lo + n) >>= fun r => match r with
          | some larger => if larger = true then pure (ForInStep.done (none, n, q)) else pure (ForInStep.yield (none, n + 1, q + 1))
          | _ => e1 n q
      | _ => e2 n q) →
      (∀ m q, k (none, m, q) = if q > 0 then reverseSlice' (lo + m - (q + 1)) (lo + m) >>= fun z_ => (reverseSlice' lo (lo + m) >>= fun z_ => forIn [m:nrem] (none, m) (g m) >>= k4) else (reverseSlice' lo (lo + m) >>= fun z_ => forIn [m:nrem] (none, m) (g m) >>= k4)) →
      (∀ (m x n : Nat), g m x (none, n) = ltAt' (lo + n) (lo + n - 1) >>= fun r => match r with
      | some smaller => if smaller = true then pure (ForInStep.done (none, n)) else pure (ForInStep.yield (none, n + 1))
      | _ => e m n) →
      (∀ n, k4 (none, n) = pure (some n)) →
      xs.Perm (arrOf st) → Off xs (arrOf st) lo (lo + (n + 1)) → Desc xs lo (lo + (n + 1)) →
      wpS (model prog w) A E s (liftM (rule "list.sort.descending-run") >>= fun z_ => forIn [n + 1:nrem] (none, n + 1, 0) f >>= k) Q (setArr st xs) := by
    intro xs f e1 e2 k g e k4 hf hk hg hk4 hp ho hd
    refine wpS_bind (wpS_lift (wpAny_rule ⟨rfl, ?_⟩))
    have hB1 : TB a₀ (setArr st xs) := hB.set hp
    refine wpS_bind (fall hf h0 hn (by (first | exact Nat.lt_succ_of_lt (by assumption) | lia | omega)) (by (first | lia | omega)) hB1 hd fun m q ys m1 m2 yp yo yd hq he => ?_)
    rw [hk]
    have hB2 : TB a₀ (setArr st ys) := hB1.set yp
    have hys : ys.size = a₀.size := hB2.size
    have yp2 : ys.Perm (arrOf st) := yp.trans hp
    have yo2 : Off ys (arrOf st) lo (lo + m) := fun k hk => (yo k hk).trans (ho k (by (first | (clear yp2 hys hB2 he hq yd yo yp m2 hB1 hd ho hp hk4 hg hf hsz hlt hnn hor hs n2 n1 h hB h1 hn h0; lia) | lia | omega)))
    by_cases hq0 : q > 0
    · rw [if_pos hq0]
      refine wpS_bind (turn_T ?_)
      refine run_tail (st := st) (hg m) hk4 h0 hn (by (first | (clear hq0 yo2 yp2 hys hB2 he yd yo yp m2 m1 hB1 hd ho hp hk4 hg hk hf hsz hlt hnn hor hs n2 n1 h hB h1 hn h0; lia) | lia | omega)) m2 (hB2.set (mirror_perm _ _ _ _)) ((mirror_perm _ _ _ _).trans yp2) (fun k hk => ?_) (yd.same fun k => K_mirror_equal (by show lo + m ≤ ys.size; (first | lia | omega)) he k) h
      exact (K_mirror_equal (by show lo + m ≤ ys.size; (first | lia | omega)) he k).trans (yo2 k hk)
    · rw [if_neg hq0]
      exact run_tail (st := st) (hg m) hk4 h0 hn (by (first | (clear yo2 yp2 hys hB2 he yd yo yp m2 m1 hB1 hd ho hp hk4 hg hk hf hsz hlt hnn hor hs n2 n1 h hB h1 hn h0 hq0; lia) | lia | omega)) m2 hB2 yp2 yo2 yd h
  by_cases hgt : n > 1
  · rw [if_pos hgt]
    refine wpS_bind (wpS_ltT hB h0 (by (first | lia | omega)) (by (first | (clear hgt part hsz hlt hor hs h hB h1 h0 hnn; lia) | lia | omega)) ?_)
    show wpS _ _ _ _ _ _ _
    by_cases hr : K (arrOf st) lo < K (arrOf st) (lo + n - 1)
    · simp only [hr, decide_true, if_true]
      exact wpS_pure (h n (arrOf st) ⟨n1, n2, Array.Perm.refl _, Off.refl, hs⟩)
    · simp only [hr, decide_false, Bool.false_eq_true, if_false]
      have hall : ∀ k, lo ≤ k → k < lo + n → K (arrOf st) k = K (arrOf st) (lo + n - 1) := fun k k1 k2 =>
        Int.le_antisymm (hs k _ k1 (by (first | (clear k1 hr hgt part hsz hlt hnn hor hs n2 h hB h1 hn h0; lia) | lia | omega)) (by (first | (clear k2 k1 hr hgt part hsz hlt hnn hor hs n2 h hB h1 hn h0; omega) | lia | omega))) (Int.le_trans (Int.not_lt.mp hr) (hs lo k (Nat.le_refl _) k1 k2))
      have hm : ∀ k, K (mirror (arrOf st) lo (lo + n) ((lo + n - lo) / 2)) k = K (arrOf st) k := fun k => K_mirror_equal (by (first | (clear hall hr hgt part hlt hor hs n1 h hB h1 h0 hnn; lia) | lia | omega)) hall k
      refine wpS_bind (turn_T ?_)
      refine part _ (fun z_ z_ z_ => rfl) (fun z_ z_ => rfl) (fun z_ z_ z_ => rfl) (fun z_ => rfl) (mirror_perm _ _ _ _) (fun k z_ => hm k) (Desc.same (xs := arrOf st) ?_ hm)
      refine Desc.snoc (hi := lo + n) (fun i j h1 h2 h3 => ?_) (by (first | lia | omega)) (Int.le_of_lt hlt)
      rw [hall i h1 (by (first | exact Nat.lt_of_le_of_lt (by assumption) (by assumption) | lia | omega)), hall j (by (first | exact Nat.le_trans (by assumption) (by assumption) | lia | omega)) h3]; exact Int.le_refl _
  · rw [if_neg hgt]
    have hn1 : n = 1 := by (first | lia | omega)
    refine part (arrOf st) (fun z_ z_ z_ => rfl) (fun z_ z_ => rfl) (fun z_ z_ z_ => rfl) (fun z_ => rfl) (Array.Perm.refl _) Off.refl ?_
    exact Desc.snoc (hi := lo + n) (Desc.one (by (first | (clear hn1 part hsz hlt hnn hor hs n2 h hB h1 hn h0 n1; lia) | lia | omega))) (by (first | lia | omega)) (Int.le_of_lt hlt)
end
end Mine
end

section
set_option tactic.hygienic false
open PySem PyProof.Rows
set_option linter.unusedVariables false
namespace Mine
theorem Asc.sub' {xs : Array Keyed} {lo hi h : Nat} (a : Asc xs lo hi) (h2 : h ≤ hi) : Asc xs lo h := fun i j i1 i2 i3 => a i j i1 i2 (Nat.lt_of_lt_of_le i3 h2)
section
variable {prog : Program} {w : World} {A : Around} {E : Value → Shared → Prop} {s : Shared} {a₀ : Array Keyed}

theorem Asc.put {xs : Array Keyed} {lo k l : Nat} (hk : k < xs.size) (h : Asc xs lo k) (hl : lo ≤ l) (hlk : l ≤ k) (h1 : ∀ i, lo ≤ i → i < l → K xs i ≤ K xs k) (h2 : ∀ i, l ≤ i → i < k → K xs k < K xs i) : Asc (bubble xs k (k - l)) lo (k + 1) := fun i j i1 i2 i3 => by
  have jk : j ≤ k := Nat.le_of_lt_succ i3
  rw [K_bubble hk (Nat.sub_le _ _), K_bubble hk (Nat.sub_le _ _), Nat.sub_sub_self hlk]
  by_cases a : i = l
  · rw [if_pos a]
    by_cases b : j = l
    · rw [if_pos b]; exact Int.le_refl _
    · have lj : l < j := Nat.lt_of_le_of_ne (a ▸ i2) (Ne.symm b)
      rw [if_neg b, if_pos ⟨lj, jk⟩]
      exact Int.le_of_lt (h2 _ (Nat.le_sub_one_of_lt lj) (Nat.sub_one_lt_of_le (Nat.zero_lt_of_lt lj) jk))
  · rw [if_neg a]
    by_cases b : j = l
    · have il : i < l := Nat.lt_of_le_of_ne (b ▸ i2) a
      rw [if_pos b, if_neg (fun z => Nat.lt_asymm il z.1)]
      exact h1 i i1 il
    · rw [if_neg b]
      by_cases c : l < i
      · have lj := Nat.lt_of_lt_of_le c i2
        rw [if_pos ⟨c, Nat.le_trans i2 jk⟩, if_pos ⟨lj, jk⟩]
        exact h _ _ (Nat.le_sub_one_of_lt (Nat.lt_of_le_of_lt hl c)) (Nat.sub_le_sub_right i2 1) (Nat.sub_one_lt_of_le (Nat.zero_lt_of_lt lj) jk)
      · have il : i < l := Nat.lt_of_le_of_ne (Nat.le_of_not_lt c) a
        rw [if_neg (fun z => c z.1)]
        by_cases d : l < j
        · rw [if_pos ⟨d, jk⟩]
          exact h _ _ i1 (Nat.le_sub_one_of_lt (Nat.lt_trans il d)) (Nat.sub_one_lt_of_le (Nat.zero_lt_of_lt d) jk)
        · rw [if_neg (fun z => d z.1)]
          exact h _ _ i1 i2 (Nat.lt_of_lt_of_le (Nat.lt_of_le_of_ne (Nat.le_of_not_lt d) b) hlk)
theorem off_bubble {xs : Array Keyed} {lo k l : Nat} (hk : k < xs.size) (hl : lo ≤ l) (hlk : l ≤ k) : Off (bubble xs k (k - l)) xs lo (k + 1) := fun i h => by
  rw [K_bubble hk (Nat.sub_le _ _), Nat.sub_sub_self hlk]
  rcases h with h | h
  · have il := Nat.lt_of_lt_of_le h hl
    rw [if_neg (Nat.ne_of_lt il), if_neg (fun z => Nat.lt_asymm il z.1)]
  · rw [if_neg (Nat.ne_of_gt (Nat.lt_of_le_of_lt hlk h)), if_neg (fun z => Nat.not_le.mpr h z.2)]

theorem binG {st : SortSt} {lo n ok : Nat} {Q : Bool → SortSt → Prop} (h0 : IntKeys a₀) (hn : lo + n ≤ a₀.size) (hok : ok ≤ n) (hB : TB a₀ st) (hs : Asc (arrOf st) lo (lo + ok))
    (h : ∀ xs, xs.Perm (arrOf st) → Off xs (arrOf st) lo (lo + n) → Asc xs lo (lo + n) → Q true (setArr st xs)) : wpS (model prog w) A E s (binarySort' lo n ok) Q st := by
  have hz := hB.size
  rw [binarySort'_eq]
  refine wpS_bind (wpS_mono (wpS_forRange (I := fun k c st' => c = (none, ()) ∧ ∃ xs, st' = setArr st xs ∧ xs.Perm (arrOf st) ∧ Off xs (arrOf st) lo (lo + n) ∧ (k ≤ n → Asc xs lo (lo + k)) ∧ (n ≤ k → Asc xs lo (lo + n)))
    (Q := fun c st' => c = (none, ()) ∧ ∃ xs, st' = setArr st xs ∧ xs.Perm (arrOf st) ∧ Off xs (arrOf st) lo (lo + n) ∧ Asc xs lo (lo + n)) ?step ?fin ?init) ?post)
  case post =>
    rintro c st' ⟨rfl, xs, rfl, h1, h2, h3⟩
    exact wpS_pure (h xs h1 h2 h3)
  case init =>
    have a : Asc (arrOf st) lo (lo + max ok 1) := by
      by_cases z : ok = 0
      · rw [z]; exact Asc.one (Nat.le_refl _)
      · rw [Nat.max_eq_left (Nat.one_le_iff_ne_zero.mpr z)]; exact hs
    exact ⟨rfl, arrOf st, rfl, Array.Perm.refl _, Off.refl, fun z_ => a, fun z => a.sub' (Nat.add_le_add_left z _)⟩
  case fin =>
    rintro c st' ⟨hc, xs, e, h1, h2, _, h3⟩
    exact ⟨hc, xs, e, h1, h2, h3 (Nat.le_max_right _ _)⟩
  case step =>
    rintro k c st' hak hkn ⟨rfl, xs, rfl, hp, ho, ha, _⟩
    have ha := ha (Nat.le_of_lt hkn)
    have hB' : TB a₀ (setArr st xs) := hB.set hp
    have hka : lo + k < a₀.size := Nat.lt_of_lt_of_le (Nat.add_lt_add_left hkn _) hn
    have hks : lo + k < xs.size := by rw [show xs.size = a₀.size from hB'.size]; exact hka
    refine wpS_bind (wpS_mono (wpS_forRange (I := fun x c st'' => st'' = setArr st xs ∧ ∃ l r, c = (none, l, r) ∧ l ≤ r ∧ r ≤ k ∧ r - l ≤ k - x ∧
        (∀ i, lo ≤ i → i < lo + l → K xs i ≤ K xs (lo + k)) ∧ (∀ i, lo + r ≤ i → i < lo + k → K xs (lo + k) < K xs i))
      (Q := fun c st'' => st'' = setArr st xs ∧ ∃ l r, c = (none, l, r) ∧ l ≤ k ∧
        (∀ i, lo ≤ i → i < lo + l → K xs i ≤ K xs (lo + k)) ∧ (∀ i, lo + l ≤ i → i < lo + k → K xs (lo + k) < K xs i)) ?istep ?ifin ?iinit) ?ipost)
    case iinit => exact ⟨rfl, 0, k, rfl, Nat.zero_le _, Nat.le_refl _, Nat.le_refl _, fun i h1 h2 => absurd h2 (Nat.not_lt.mpr h1), fun i h1 h2 => absurd h2 (Nat.not_lt.mpr h1)⟩
    case ifin =>
      rintro c st'' ⟨rfl, l, r, rfl, hlr, hrk, hm, hlo, hhi⟩
      have := cut_end hm hlr
      subst this
      exact ⟨rfl, l, l, rfl, hrk, hlo, hhi⟩
    case istep =>
      rintro x c st'' _ hxk ⟨rfl, l, r, rfl, hlr, hrk, hm, hlo, hhi⟩
      dsimp only
      by_cases hge : l ≥ r
      · rw [if_pos hge]
        have := Nat.le_antisymm hlr hge
        subst this
        exact wpS_pure ⟨rfl, l, l, rfl, hrk, hlo, hhi⟩
      · rw [if_neg hge]
        have hlt := Nat.lt_of_not_le hge
        have m1 := mean_ge hlt
        have m2 := mean_lt hlt
        generalize (l + r) / 2 = m at *
        have mk := Nat.lt_of_lt_of_le m2 hrk
        refine wpS_bind (wpS_ltT hB' h0 hka (Nat.lt_trans (Nat.add_lt_add_left mk _) hka) ?_)
        show wpS _ _ _ _ _ _ _
        by_cases hless : K xs (lo + k) < K xs (lo + m)
        · simp only [hless, decide_true, if_true]
          exact wpS_pure ⟨rfl, l, m, rfl, m1, Nat.le_of_lt mk, cut_r hm m1 m2, hlo, fun i h1 h2 => Int.lt_of_lt_of_le hless (ha _ _ (Nat.le_add_right _ _) h1 h2)⟩
        · simp only [hless, decide_false, Bool.false_eq_true, if_false]
          exact wpS_pure ⟨rfl, m + 1, r, rfl, m2, hrk, cut_l hm m1 m2, fun i h1 h2 => Int.le_trans (ha i (lo + m) h1 (Nat.le_of_lt_succ h2) (Nat.add_lt_add_left mk _)) (Int.not_lt.mp hless), hhi⟩
    case ipost =>
      rintro c st'' ⟨rfl, l, r, rfl, hlk, hlo, hhi⟩
      show wpS _ _ _ _ (do moveDown' (lo + k) (lo + l); pure (ForInStep.yield (none, ()))) _ _
      rw [moveDown'_eq]
      have hl := Nat.add_le_add_left hlk lo
      have put := Asc.put (k := lo + k) (l := lo + l) hks ha (Nat.le_add_right _ _) hl hlo hhi
      refine wpS_bind (wpS_modify (wpS_pure ⟨rfl, _, rfl, (bubble_perm _ _ _).trans hp, ?_, fun z_ => put, fun z => put.sub' (Nat.add_le_add_left z _)⟩))
      exact ((off_bubble (k := lo + k) (l := lo + l) hks (Nat.le_add_right _ _) hl).wide (Nat.le_refl _) (Nat.add_le_add_left hkn _)).trans ho
end
end Mine
end

section
set_option tactic.hygienic false
open PySem PyProof.Rows
set_option linter.unusedVariables false
namespace Mine
section
variable {prog : Program} {w : World} {A : Around} {E : Value → Shared → Prop} {s : Shared} {a₀ : Array Keyed}

noncomputable def IsK (x : Keyed) : Prop := ∃ n t, x.1 = .int n t
theorem lt_T {st : SortSt} {x y : Keyed} {Q : Option Bool → SortSt → Prop} (hk : kindOf st = oneType') (hx : IsK x) (hy : IsK y) (h : Q (some (decide (numOf x.1 < numOf y.1))) st) : wpS (model prog w) A E s (lt' x y) Q st := by
  obtain ⟨a, t, e1⟩ := hx
  obtain ⟨b, u, e2⟩ := hy
  rw [e1, e2] at h
  rw [lt'_eq]
  refine wpS_bind (wpS_get ?_)
  rw [hk, keyLt'_oneType, e1, e2]
  refine wpS_bind (wpS_lift (wpAny_attempt (oneLt_int ⟨rfl, ?_⟩)))
  exact wpS_pure h
theorem elem_T {st : SortSt} {xs : Array Keyed} {i : Nat} {Q : Keyed → SortSt → Prop} (hi : i < xs.size) (h : Q xs[i] st) : wpS (model prog w) A E s (elem' xs i) Q st := by
  rw [elem'_eq, getElem?_pos xs i hi]
  exact wpS_pure h
noncomputable def gallop' : Bool → Keyed → Array Keyed → Nat → Nat → Nat → StateT SortSt Sem (Option Nat) := sortPriv% PySem.Builtin.gallop

structure Cut (B : Nat → Bool) (n k : Nat) : Prop where
  le : k ≤ n
  yes : ∀ i, i < k → B i = true
  no : ∀ i, k ≤ i → i < n → B i = false
noncomputable abbrev Falls (B : Nat → Bool) (n : Nat) : Prop := ∀ i j, i ≤ j → j < n → B j = true → B i = true
noncomputable abbrev Asks (M : Model) (A : Around) (E : Value → Shared → Prop) (s : Shared) (st : SortSt) (bey : Nat → StateT SortSt Sem (Option Bool)) (B : Nat → Bool) (n : Nat) : Prop :=
  ∀ i, i < n → ∀ Q : Option Bool → SortSt → Prop, Q (some (B i)) st → wpS M A E s (bey i) Q st

theorem half_T {st : SortSt} {ρ : Type} {B : Nat → Bool} {n lo hi : Nat} {bey : Nat → StateT SortSt Sem (Option Bool)} {f : Nat → Option ρ × Nat × Nat → StateT SortSt Sem (ForInStep (Option ρ × Nat × Nat))} {e : Nat → Nat → StateT SortSt Sem (ForInStep (Option ρ × Nat × Nat))} {Q : Option ρ × Nat × Nat → SortSt → Prop}
    (hb : Asks (model prog w) A E s st bey B n) (hB : Falls B n)
    (hf : ∀ x lo hi, f x (none, lo, hi) = if lo ≥ hi then pure (ForInStep.done (none, lo, hi)) else bey (lo + (hi - lo) / 2) >>= fun r => match r with
      | some more => if more = true then pure (ForInStep.yield (none, lo + (hi - lo) / 2 + 1, hi)) else pure (ForInStep.yield (none, lo, lo + (hi - lo) / 2))
      | _ => e lo hi)
    (h1 : lo ≤ hi) (h2 : hi ≤ n) (yes : ∀ i, i < lo → B i = true) (no : ∀ i, hi ≤ i → i < n → B i = false) (h : ∀ l k, Cut B n k → Q (none, l, k) st) :
    wpS (model prog w) A E s (forIn [:n] ((none, lo, hi) : Option ρ × Nat × Nat) f) Q st := by
  refine wpS_forRange (I := fun x c st' => st' = st ∧ ∃ l r, c = (none, l, r) ∧ l ≤ r ∧ r ≤ n ∧ r - l ≤ n - x ∧ (∀ i, i < l → B i = true) ∧ (∀ i, r ≤ i → i < n → B i = false)) ?_ ?_ ⟨rfl, lo, hi, rfl, h1, h2, Nat.le_trans (Nat.sub_le _ _) h2, yes, no⟩
  · rintro x c st' _ hx ⟨rfl, l, r, rfl, l1, l2, l3, l4, l5⟩
    rw [hf]
    by_cases q : l ≥ r
    · rw [if_pos q]
      have := Nat.le_antisymm l1 q
      subst this
      exact wpS_pure (h l l ⟨l2, l4, l5⟩)
    · rw [if_neg q]
      have m2 := mid_lt (Nat.lt_of_not_le q)
      have m1 : l ≤ l + (r - l) / 2 := Nat.le_add_right _ _
      generalize l + (r - l) / 2 = m at *
      have mn := Nat.lt_of_lt_of_le m2 l2
      refine wpS_bind (hb _ mn _ ?_)
      cases hm : B m
      · exact wpS_pure ⟨rfl, l, _, rfl, m1, Nat.le_of_lt mn, cut_r l3 m1 m2, l4, fun i i1 i2 => by
          cases z : B i
          · rfl
          · rw [hB _ i i1 i2 z] at hm; cases hm⟩
      · exact wpS_pure ⟨rfl, _, r, rfl, m2, l2, cut_l l3 m1 m2, fun i i1 => hB i _ (Nat.le_of_lt_succ i1) mn hm, l5⟩
  · rintro c st' ⟨rfl, l, r, rfl, l1, l2, l3, l4, l5⟩
    have := cut_end l3 l1
    subst this
    exact h l l ⟨l2, l4, l5⟩

theorem up_T {st : SortSt} {ρ : Type} {B : Nat → Bool} {n hint : Nat} {bey : Nat → StateT SortSt Sem (Option Bool)} {f : Nat → Option ρ × Nat × Nat → StateT SortSt Sem (ForInStep (Option ρ × Nat × Nat))} {e : Nat → Nat → StateT SortSt Sem (ForInStep (Option ρ × Nat × Nat))} {Q : Option ρ × Nat × Nat → SortSt → Prop}
    (hb : Asks (model prog w) A E s st bey B n) (hn : hint < n) (h0 : B hint = true)
    (hf : ∀ x l o, f x (none, l, o) = if o ≥ n - hint then pure (ForInStep.done (none, l, o)) else bey (hint + o) >>= fun r => match r with
      | some more => if (!more) = true then pure (ForInStep.done (none, l, o)) else pure (ForInStep.yield (none, o, 2 * o + 1))
      | _ => e l o)
    (h : ∀ l o, l < o → l < n - hint → B (hint + l) = true → (o ≥ n - hint ∨ (o < n - hint ∧ B (hint + o) = false)) → Q (none, l, o) st) :
    wpS (model prog w) A E s (forIn [:n] ((none, 0, 1) : Option ρ × Nat × Nat) f) Q st := by
  refine wpS_forRange (I := fun x c st' => st' = st ∧ ∃ l o, c = (none, l, o) ∧ l < o ∧ x + 1 ≤ o ∧ l < n - hint ∧ B (hint + l) = true) ?_ ?_ ⟨rfl, 0, 1, rfl, by (first | exact Nat.le_refl _ | lia | omega), by (first | exact Nat.le_refl _ | lia | omega), by (first | lia | omega), h0⟩
  · rintro x c st' _ hx ⟨rfl, l, o, rfl, l1, l2, l3, l4⟩
    rw [hf]
    by_cases q : o ≥ n - hint
    · rw [if_pos q]
      exact wpS_pure (h l o l1 l3 l4 (.inl q))
    · rw [if_neg q]
      refine wpS_bind (hb _ (by (first | lia | omega)) _ ?_)
      cases hm : B (hint + o)
      · exact wpS_pure (h l o l1 l3 l4 (.inr ⟨by (first | exact Nat.lt_of_not_le (by assumption) | lia | omega), hm⟩))
      · exact wpS_pure ⟨rfl, o, 2 * o + 1, rfl, by (first | lia | omega), by (first | (clear hm q l4 l3 h hb hx hf h0 hn l1; lia) | lia | omega), by (first | exact Nat.lt_of_not_le (by assumption) | lia | omega), hm⟩
  · rintro c st' ⟨rfl, l, o, rfl, l1, l2, l3, l4⟩
    exact h l o l1 l3 l4 (.inl (by (first | lia | omega)))

theorem down_T {st : SortSt} {ρ : Type} {B : Nat → Bool} {n hint : Nat} {bey : Nat → StateT SortSt Sem (Option Bool)} {f : Nat → Option ρ × Nat × Nat → StateT SortSt Sem (ForInStep (Option ρ × Nat × Nat))} {e : Nat → Nat → StateT SortSt Sem (ForInStep (Option ρ × Nat × Nat))} {Q : Option ρ × Nat × Nat → SortSt → Prop}
    (hb : Asks (model prog w) A E s st bey B n) (hn : hint < n) (h0 : B hint = false)
    (hf : ∀ x l o, f x (none, l, o) = if o ≥ hint + 1 then pure (ForInStep.done (none, l, o)) else bey (hint - o) >>= fun r => match r with
      | some found => if found = true then pure (ForInStep.done (none, l, o)) else pure (ForInStep.yield (none, o, 2 * o + 1))
      | _ => e l o)
    (h : ∀ l o, l < o → l ≤ hint → B (hint - l) = false → (o ≥ hint + 1 ∨ (o < hint + 1 ∧ B (hint - o) = true)) → Q (none, l, o) st) :
    wpS (model prog w) A E s (forIn [:n] ((none, 0, 1) : Option ρ × Nat × Nat) f) Q st := by
  refine wpS_forRange (I := fun x c st' => st' = st ∧ ∃ l o, c = (none, l, o) ∧ l < o ∧ x + 1 ≤ o ∧ l ≤ hint ∧ B (hint - l) = false) ?_ ?_ ⟨rfl, 0, 1, rfl, by (first | exact Nat.le_refl _ | lia | omega), by (first | exact Nat.le_refl _ | lia | omega), by (first | exact Nat.zero_le _ | lia | omega), h0⟩
  · rintro x c st' _ hx ⟨rfl, l, o, rfl, l1, l2, l3, l4⟩
    rw [hf]
    by_cases q : o ≥ hint + 1
    · rw [if_pos q]
      exact wpS_pure (h l o l1 l3 l4 (.inl q))
    · rw [if_neg q]
      refine wpS_bind (hb _ (by (first | (clear l4 l3 l2 h hb hx hf h0 q l1; lia) | lia | omega)) _ ?_)
      cases hm : B (hint - o)
      · exact wpS_pure ⟨rfl, o, 2 * o + 1, rfl, by (first | lia | omega), by (first | lia | omega), by (first | exact Nat.le_of_not_lt (by assumption) | lia | omega), hm⟩
      · exact wpS_pure (h l o l1 l3 l4 (.inr ⟨by (first | exact Nat.lt_of_not_le (by assumption) | lia | omega), hm⟩))
  · rintro c st' ⟨rfl, l, o, rfl, l1, l2, l3, l4⟩
    exact h l o l1 l3 l4 (.inl (by (first | lia | omega)))

noncomputable def beyB (left : Bool) (key : Keyed) (xs : Array Keyed) (base i : Nat) : Bool := if left then decide (K xs (base + i) < numOf key.1) else !decide (numOf key.1 < K xs (base + i))

theorem down_le {hint l o : Nat} (h1 : l < o) (h2 : l ≤ hint) : hint + 1 - min o (hint + 1) ≤ hint - l := by
  rw [← Nat.add_sub_add_right hint 1 l]
  exact Nat.sub_le_sub_left (Nat.le_min.mpr ⟨h1, Nat.succ_le_succ h2⟩) _
theorem down_out {hint o i : Nat} (h : o ≥ hint + 1) : ¬ i < hint + 1 - min o (hint + 1) := by rw [Nat.min_eq_right h, Nat.sub_self]; exact Nat.not_lt_zero _
theorem down_in {hint o i : Nat} (h : i < hint + 1 - min o (hint + 1)) (z : o < hint + 1) : i ≤ hint - o := by
  rw [Nat.min_eq_left (Nat.le_of_lt z), Nat.succ_sub (Nat.le_of_lt_succ z)] at h
  exact Nat.le_of_lt_succ h
theorem up_le {hint l o d : Nat} (h1 : l < o) (h2 : l < d) : hint + l + 1 ≤ hint + min o d := Nat.add_lt_add_left (Nat.lt_min.mpr ⟨h1, h2⟩) _
theorem up_n {hint o n : Nat} (h : hint ≤ n) : hint + min o (n - hint) ≤ n := Nat.add_le_of_le_sub' h (Nat.min_le_right _ _)
theorem up_out {hint o n i : Nat} (h : o ≥ n - hint) (h1 : hint + min o (n - hint) ≤ i) : ¬ i < n := fun z => by
  rw [Nat.min_eq_right h] at h1
  exact Nat.not_le.mpr z (Nat.le_trans (Nat.sub_le_iff_le_add'.mp (Nat.le_refl _)) h1)
theorem up_in {hint o n i : Nat} (h : o < n - hint) (h1 : hint + min o (n - hint) ≤ i) : hint + o ≤ i := by
  rw [Nat.min_eq_left (Nat.le_of_lt h)] at h1; exact h1

theorem gallop_T {st : SortSt} {left : Bool} {key : Keyed} {xs : Array Keyed} {base n hint : Nat} {Q : Option Nat → SortSt → Prop} (hk : kindOf st = oneType') (hx : ∀ i (h : i < xs.size), IsK xs[i]) (hkey : IsK key) (hs : base + n ≤ xs.size) (ha : Asc xs base (base + n)) (hn : hint < n)
    (h : ∀ k, Cut (beyB left key xs base) n k → Q (some k) st) : wpS (model prog w) A E s (gallop' left key xs base n hint) Q st := by
  have hB : Falls (beyB left key xs base) n := fun i j hij hj z => by
    have := ha (base + i) (base + j) (by (first | (simp; done) | lia | omega)) (by (first | lia | omega)) (by (first | lia | omega))
    unfold beyB at z ⊢
    cases left
    · simp at z ⊢; (first | exact Int.le_trans (by assumption) (by assumption) | lia | omega)
    · simp at z ⊢; (first | exact Int.lt_of_le_of_lt (by assumption) (by assumption) | lia | omega)
  have hb : ∀ i, i < n → ∀ Q : Option Bool → SortSt → Prop, Q (some (beyB left key xs base i)) st → wpS (model prog w) A E s (elem' xs (base + i) >>= fun x => if left = true then lt' x key else lt' key x >>= fun r => pure (Option.map (fun x => !x) r)) Q st := fun i hi Q q => by
    have hlt : base + i < xs.size := by (first | lia | omega)
    refine wpS_bind (elem_T hlt ?_)
    have ek : numOf xs[base + i].1 = K xs (base + i) := (K_eq hlt).symm
    unfold beyB at q
    cases left
    · rw [if_neg (by decide)]
      refine wpS_bind (lt_T hk hkey (hx _ hlt) ?_)
      rw [ek]
      exact wpS_pure q
    · rw [if_pos rfl]
      refine lt_T hk (hx _ hlt) hkey ?_
      rw [ek]
      exact q
  refine wpS_bind (hb hint hn _ ?_)
  dsimp only
  cases h0 : beyB left key xs base hint
  · rw [if_neg (by decide)]
    refine wpS_bind (down_T (B := beyB left key xs base) hb hn h0 (fun z_ z_ z_ => rfl) fun l o l1 l2 l3 l4 => ?_)
    dsimp only
    refine wpS_bind (half_T (B := beyB left key xs base) hb hB (fun z_ z_ z_ => rfl) ?_ ?_ (fun i hi => ?_) (fun i i1 i2 => ?_) fun l k hc => wpS_pure (h k hc))
    · exact down_le l1 l2
    · exact Nat.le_trans (Nat.sub_le _ _) (Nat.le_of_lt hn)
    · rcases l4 with z | ⟨z, z2⟩
      · exact absurd hi (down_out z)
      · exact hB i _ (down_in hi z) (Nat.lt_of_le_of_lt (Nat.sub_le _ _) hn) z2
    · cases z : beyB left key xs base i
      · rfl
      · rw [hB _ i i1 i2 z] at l3; cases l3
  · rw [if_pos rfl]
    refine wpS_bind (up_T (B := beyB left key xs base) hb hn h0 (fun z_ z_ z_ => rfl) fun l o l1 l2 l3 l4 => ?_)
    dsimp only
    refine wpS_bind (half_T (B := beyB left key xs base) hb hB (fun z_ z_ z_ => rfl) ?_ ?_ (fun i hi => ?_) (fun i i1 i2 => ?_) fun l k hc => wpS_pure (h k hc))
    · exact up_le l1 l2
    · exact up_n (Nat.le_of_lt hn)
    · exact hB i _ (Nat.le_of_lt_succ hi) (Nat.add_lt_of_lt_sub' l2) l3
    · rcases l4 with z | ⟨z, z2⟩
      · exact absurd i2 (up_out z i1)
      · cases y : beyB left key xs base i
        · rfl
        · rw [hB _ i (up_in z i1) i2 y] at z2; cases z2
end
end Mine
end

section
set_option tactic.hygienic false
open PySem PyProof.Rows
set_option linter.unusedVariables false
namespace Mine

noncomputable abbrev LeK (x y : Keyed) : Prop := numOf x.1 ≤ numOf y.1
structure Mg (a b out : List Keyed) (ia ib : Nat) : Prop where
  perm : (out ++ (a.drop ia ++ b.drop ib)).Perm (a ++ b)
  sorted : out.Pairwise LeK
  below : ∀ x ∈ out, ∀ y ∈ a.drop ia ++ b.drop ib, LeK x y
theorem Mg.swap {a b out : List Keyed} {ia ib : Nat} (h : Mg a b out ia ib) : Mg b a out ib ia :=
  ⟨(List.perm_append_comm.append_left out).trans (h.perm.trans List.perm_append_comm), h.sorted, fun x hx y hy => h.below x hx y (List.perm_append_comm.mem_iff.mp hy)⟩
theorem Mg.nil {a b : List Keyed} : Mg a b [] 0 0 := ⟨List.Perm.refl _, .nil, fun z_ h => nomatch h⟩
theorem Mg.takeA {a b out : List Keyed} {ia ib k : Nat} (h : Mg a b out ia ib) (sa : a.Pairwise LeK) (hb : ∀ x ∈ (a.drop ia).take k, ∀ y ∈ b.drop ib, LeK x y) : Mg a b (out ++ (a.drop ia).take k) (ia + k) ib := by
  have e : a.drop ia = (a.drop ia).take k ++ a.drop (ia + k) := by rw [← List.drop_drop, List.take_append_drop]
  have sd : (a.drop ia).Pairwise LeK := sa.sublist (List.drop_sublist _ _)
  rw [e, List.pairwise_append] at sd
  refine ⟨?_, List.pairwise_append.mpr ⟨h.sorted, sd.1, fun x hx y hy => h.below x hx y (List.mem_append.mpr (.inl (List.mem_of_mem_take hy)))⟩, fun x hx y hy => ?_⟩
  · have e2 : out ++ (a.drop ia).take k ++ (a.drop (ia + k) ++ b.drop ib) = out ++ (a.drop ia ++ b.drop ib) := by
      rw [List.append_assoc, ← List.append_assoc (List.take k _), ← e]
    rw [e2]; exact h.perm
  · rcases List.mem_append.mp hx with hx | hx
    · refine h.below x hx y (List.mem_append.mpr ((List.mem_append.mp hy).imp (fun z => ?_) id))
      rw [e]; exact List.mem_append.mpr (.inr z)
    · rcases List.mem_append.mp hy with hy | hy
      · exact sd.2.2 x hx y hy
      · exact hb x hx y hy
theorem Mg.takeB {a b out : List Keyed} {ia ib k : Nat} (h : Mg a b out ia ib) (sb : b.Pairwise LeK) (ha : ∀ x ∈ (b.drop ib).take k, ∀ y ∈ a.drop ia, LeK x y) : Mg a b (out ++ (b.drop ib).take k) ia (ib + k) := (h.swap.takeA sb ha).swap
theorem Mg.fin {a b out : List Keyed} {ia ib : Nat} (h : Mg a b out ia ib) (sa : a.Pairwise LeK) (sb : b.Pairwise LeK) (hab : ∀ x ∈ a.drop ia, ∀ y ∈ b.drop ib, LeK x y) :
    (out ++ (a.drop ia ++ b.drop ib)).Perm (a ++ b) ∧ (out ++ (a.drop ia ++ b.drop ib)).Pairwise LeK :=
  ⟨h.perm, List.pairwise_append.mpr ⟨h.sorted, List.pairwise_append.mpr ⟨sa.sublist (List.drop_sublist _ _), sb.sublist (List.drop_sublist _ _), hab⟩, h.below⟩⟩

structure Merged (a b r : Array Keyed) : Prop where
  perm : r.toList.Perm (a.toList ++ b.toList)
  sorted : r.toList.Pairwise LeK
theorem Mg.doneA {a b out : Array Keyed} {ia ib : Nat} (h : Mg a.toList b.toList out.toList ia ib) (sa : a.toList.Pairwise LeK) (sb : b.toList.Pairwise LeK) (hab : ∀ x ∈ a.toList.drop ia, ∀ y ∈ b.toList.drop ib, LeK x y) :
    Merged a b (out ++ a.extract ia ++ b.extract ib) := by
  obtain ⟨q1, q2⟩ := h.fin sa sb hab
  have e : (out ++ a.extract ia ++ b.extract ib).toList = out.toList ++ (a.toList.drop ia ++ b.toList.drop ib) := by
    rw [Array.toList_append, Array.toList_append, Array.toList_extract, Array.toList_extract, List.append_assoc, List.extract_eq_drop_take, List.extract_eq_drop_take, List.take_of_length_le (by simp), List.take_of_length_le (by simp)]
  exact ⟨by rw [e]; exact q1, by rw [e]; exact q2⟩
theorem Mg.doneB {a b out : Array Keyed} {ia ib : Nat} (h : Mg a.toList b.toList out.toList ia ib) (sa : a.toList.Pairwise LeK) (sb : b.toList.Pairwise LeK) (hab : ∀ x ∈ b.toList.drop ib, ∀ y ∈ a.toList.drop ia, LeK x y) :
    Merged a b (out ++ b.extract ib ++ a.extract ia) := by
  obtain ⟨q1, q2⟩ := Mg.doneA (a := b) (b := a) h.swap sb sa hab
  exact ⟨q1.trans List.perm_append_comm, q2⟩
end Mine
end

section
set_option tactic.hygienic false
open PySem PyProof.Rows
set_option linter.unusedVariables false
namespace Mine

theorem mem_dropK {a : Array Keyed} {i : Nat} {x : Keyed} (h : x ∈ a.toList.drop i) : ∃ j, i ≤ j ∧ j < a.size ∧ numOf x.1 = K a j := by
  obtain ⟨k, hk, rfl⟩ := List.getElem_of_mem h
  rw [List.length_drop, Array.length_toList] at hk
  have hlt : i + k < a.size := Nat.add_lt_of_lt_sub' hk
  refine ⟨i + k, Nat.le_add_right _ _, hlt, ?_⟩
  rw [K_eq hlt, List.getElem_drop]; rfl
theorem mem_takeK {a : Array Keyed} {i k : Nat} {x : Keyed} (h : x ∈ (a.toList.drop i).take k) : ∃ j, j < k ∧ i + j < a.size ∧ numOf x.1 = K a (i + j) := by
  obtain ⟨n, hn, rfl⟩ := List.getElem_of_mem h
  rw [List.length_take, List.length_drop, Array.length_toList] at hn
  have hlt : i + n < a.size := Nat.add_lt_of_lt_sub' (Nat.lt_of_lt_of_le hn (Nat.min_le_right _ _))
  refine ⟨n, Nat.lt_of_lt_of_le hn (Nat.min_le_left _ _), hlt, ?_⟩
  rw [K_eq hlt, List.getElem_take, List.getElem_drop]; rfl
theorem push_take {a out : Array Keyed} {i : Nat} (h : i < a.size) : (out.push a[i]).toList = out.toList ++ (a.toList.drop i).take 1 := by
  rw [Array.toList_push, List.drop_eq_getElem_cons (by simpa using h)]; rfl
theorem ext_take {a out : Array Keyed} {i k : Nat} : (out ++ a.extract i (i + k)).toList = out.toList ++ (a.toList.drop i).take k := by
  rw [Array.toList_append, Array.toList_extract, List.extract_eq_drop_take, Nat.add_sub_cancel_left]
theorem asc_all {a : Array Keyed} (h : a.toList.Pairwise LeK) : Asc a 0 a.size := fun i j z_ h2 h3 => by
  by_cases e : i = j
  · rw [e]; exact Int.le_refl _
  · have := (List.pairwise_iff_getElem.mp h) i j (by simpa using Nat.lt_trans (Nat.lt_of_le_of_ne h2 e) h3) (by simpa using h3) (Nat.lt_of_le_of_ne h2 e)
    rw [K_eq (Nat.lt_trans (Nat.lt_of_le_of_ne h2 e) h3), K_eq h3]
    exact this
theorem Asc.sub {xs : Array Keyed} {lo hi l h : Nat} (a : Asc xs lo hi) (h1 : lo ≤ l) (h2 : h ≤ hi) : Asc xs l h := fun i j i1 i2 i3 => a i j (Nat.le_trans h1 i1) i2 (Nat.lt_of_lt_of_le i3 h2)

structure MIn (a b : Array Keyed) : Prop where
  a1 : 1 ≤ a.size
  b1 : 1 ≤ b.size
  ka : ∀ i (h : i < a.size), IsK a[i]
  kb : ∀ i (h : i < b.size), IsK b[i]
  sa : a.toList.Pairwise LeK
  sb : b.toList.Pairwise LeK
  first : K b 0 < K a 0
  last : K b (b.size - 1) < K a (a.size - 1)

section
variable {prog : Program} {w : World} {A : Around} {E : Value → Shared → Prop} {s : Shared} {a₀ : Array Keyed}

theorem MIn.stepA {a b out : Array Keyed} {ia ib k : Nat} (I : MIn a b) (h : Mg a.toList b.toList out.toList ia ib) (hk : ∀ j, j < k → ia + j < a.size → K a (ia + j) ≤ K b ib) : Mg a.toList b.toList (out ++ a.extract ia (ia + k)).toList (ia + k) ib := by
  rw [ext_take]
  refine h.takeA I.sa fun x hx y hy => ?_
  obtain ⟨j, j1, j2, e⟩ := mem_takeK hx
  obtain ⟨l, l1, l2, e2⟩ := mem_dropK hy
  show numOf x.1 ≤ numOf y.1
  rw [e, e2]
  exact Int.le_trans (hk j j1 j2) (asc_all I.sb ib l (Nat.zero_le _) l1 l2)
theorem MIn.stepB {a b out : Array Keyed} {ia ib k : Nat} (I : MIn a b) (h : Mg a.toList b.toList out.toList ia ib) (hk : ∀ j, j < k → ib + j < b.size → K b (ib + j) ≤ K a ia) : Mg a.toList b.toList (out ++ b.extract ib (ib + k)).toList ia (ib + k) := by
  rw [ext_take]
  refine h.takeB I.sb fun x hx y hy => ?_
  obtain ⟨j, j1, j2, e⟩ := mem_takeK hx
  obtain ⟨l, l1, l2, e2⟩ := mem_dropK hy
  show numOf x.1 ≤ numOf y.1
  rw [e, e2]
  exact Int.le_trans (hk j j1 j2) (asc_all I.sa ia l (Nat.zero_le _) l1 l2)
theorem MIn.pushA {a b out : Array Keyed} {ia ib : Nat} (I : MIn a b) (h : Mg a.toList b.toList out.toList ia ib) (hi : ia < a.size) (hk : K a ia ≤ K b ib) : Mg a.toList b.toList (out.push a[ia]).toList (ia + 1) ib := by
  have := I.stepA (k := 1) h (fun j j1 z_ => by rw [show j = 0 by (first | lia | omega)]; exact hk)
  rw [ext_take, ← push_take hi] at this; exact this
theorem MIn.pushB {a b out : Array Keyed} {ia ib : Nat} (I : MIn a b) (h : Mg a.toList b.toList out.toList ia ib) (hi : ib < b.size) (hk : K b ib ≤ K a ia) : Mg a.toList b.toList (out.push b[ib]).toList ia (ib + 1) := by
  have := I.stepB (k := 1) h (fun j j1 z_ => by rw [show j = 0 by (first | lia | omega)]; exact hk)
  rw [ext_take, ← push_take hi] at this; exact this
theorem MIn.outB {a b out : Array Keyed} {ia ib : Nat} (I : MIn a b) (h : Mg a.toList b.toList out.toList ia ib) (hi : b.size ≤ ib) : Merged a b (out ++ a.extract ia ++ b.extract ib) :=
  Mg.doneA h I.sa I.sb fun x z_ y hy => by
    obtain ⟨l, l1, l2, _⟩ := mem_dropK hy
    (first | lia | omega)
theorem MIn.oneA {a b out : Array Keyed} {ia ib : Nat} (I : MIn a b) (h : Mg a.toList b.toList out.toList ia ib) (hi : ia + 1 = a.size) : Merged a b (out ++ b.extract ib ++ a.extract ia) :=
  Mg.doneB h I.sa I.sb fun x hx y hy => by
    obtain ⟨l, l1, l2, e⟩ := mem_dropK hx
    obtain ⟨m, m1, m2, e2⟩ := mem_dropK hy
    show numOf x.1 ≤ numOf y.1
    rw [e, e2, show m = a.size - 1 by (first | lia | omega)]
    exact Int.le_trans (asc_all I.sb l (b.size - 1) (Nat.zero_le _) (by (first | lia | omega)) (by (first | lia | omega))) (Int.le_of_lt I.last)
end
end Mine
end

section
set_option tactic.hygienic false
open PySem PyProof.Rows
set_option linter.unusedVariables false
namespace Mine
section
variable {prog : Program} {w : World} {A : Around} {E : Value → Shared → Prop} {s : Shared} {a₀ : Array Keyed}
noncomputable abbrev setGal (st : SortSt) (g : Nat) : SortSt := SortSt.mk' (kindOf st) (arrOf st) (pendingOf st) g (failedOf st)
noncomputable def mergeLo' : Array Keyed → Array Keyed → StateT SortSt Sem (Array Keyed) := sortPriv% PySem.Builtin.mergeLo

theorem MIn.outA {a b out : Array Keyed} {ia ib : Nat} (I : MIn a b) (h : Mg a.toList b.toList out.toList ia ib) (hi : a.size ≤ ia) : Merged a b (out ++ a.extract ia ++ b.extract ib) :=
  Mg.doneA h I.sa I.sb fun x hx y z_ => by
    obtain ⟨l, l1, l2, _⟩ := mem_dropK hx
    (first | lia | omega)
theorem wpS_ite1 {M : Model} {σ α δ : Type} {jp : PUnit → δ → StateT σ Sem α} {c : Prop} [Decidable c] {x y : δ} {Q : α → σ → Prop} {st : σ} (h : ∀ d, wpS M A E s (jp ⟨⟩ d) Q st) : wpS M A E s (if c then jp ⟨⟩ x else jp ⟨⟩ y) Q st := by
  split
  · exact h _
  · exact h _
theorem wpS_meet {M : Model} {σ α δ ε : Type} {jp : PUnit → δ → ε → StateT σ Sem α} {m : StateT σ Sem α} {Q : α → σ → Prop} {st : σ} (P : δ → ε → Prop) (h : ∀ d e, P d e → wpS M A E s (jp ⟨⟩ d e) Q st) (k : (∀ d e, P d e → wpS M A E s (jp ⟨⟩ d e) Q st) → wpS M A E s m Q st) : wpS M A E s m Q st := k h
theorem wpS_if {M : Model} {σ α : Type} {c : Bool} {p : Prop} {m n : StateT σ Sem α} {Q : α → σ → Prop} {st : σ} (hp : c = true ↔ p) (hy : p → wpS M A E s m Q st) (hn : ¬ p → wpS M A E s n Q st) : wpS M A E s (if c = true then m else n) Q st := by
  by_cases q : c = true
  · rw [if_pos q]; exact hy (hp.mp q)
  · rw [if_neg q]; exact hn fun z => q (hp.mpr z)
theorem wpS_if' {M : Model} {σ α : Type} {p : Prop} [Decidable p] {m n : StateT σ Sem α} {Q : α → σ → Prop} {st : σ} (hy : p → wpS M A E s m Q st) (hn : ¬ p → wpS M A E s n Q st) : wpS M A E s (if p then m else n) Q st := by
  by_cases q : p
  · rw [if_pos q]; exact hy q
  · rw [if_neg q]; exact hn q
theorem item_T {α : Type} {st : SortSt} {xs : Array Keyed} {i : Nat} {f : Keyed → StateT SortSt Sem α} {Q : α → SortSt → Prop} (hi : i < xs.size) (h : wpS (model prog w) A E s (f xs[i]) Q st) : wpS (model prog w) A E s (elem' xs i >>= f) Q st := wpS_bind (elem_T hi h)
theorem ask_T {α : Type} {st : SortSt} {xs ys : Array Keyed} {i j : Nat} {f : Option Bool → StateT SortSt Sem α} {Q : α → SortSt → Prop} (hk : kindOf st = oneType') (hi : i < xs.size) (hj : j < ys.size) (hx : IsK xs[i]) (hy : IsK ys[j])
    (h : wpS (model prog w) A E s (f (some (decide (K xs i < K ys j)))) Q st) : wpS (model prog w) A E s (elem' xs i >>= fun x => elem' ys j >>= fun y => lt' x y >>= f) Q st := by
  rw [K_eq hi, K_eq hj] at h
  exact wpS_bind (elem_T hi (wpS_bind (elem_T hj (wpS_bind (lt_T hk hx hy h)))))
theorem right_T {α : Type} {st : SortSt} {ys xs : Array Keyed} {j base n hint : Nat} {f : Option Nat → StateT SortSt Sem α} {Q : α → SortSt → Prop} (hk : kindOf st = oneType') (hx : ∀ i (h : i < xs.size), IsK xs[i]) (hj : j < ys.size) (hy : IsK ys[j]) (hs : base + n ≤ xs.size) (ha : Asc xs base (base + n)) (hn : hint < n)
    (h : ∀ k, k ≤ n → (∀ i, i < k → K xs (base + i) ≤ K ys j) → (∀ i, k ≤ i → i < n → K ys j < K xs (base + i)) → wpS (model prog w) A E s (f (some k)) Q st) : wpS (model prog w) A E s (elem' ys j >>= fun y => gallop' false y xs base n hint >>= f) Q st := by
  refine wpS_bind (elem_T hj (wpS_bind (gallop_T hk hx hy hs ha hn fun k hc => h k hc.le (fun i hi => ?_) fun i h1 h2 => ?_)))
  · have := hc.yes i hi
    unfold beyB at this; rw [K_eq hj]; simpa using this
  · have := hc.no i h1 h2
    unfold beyB at this; rw [K_eq hj]; simpa using this
theorem left_T {α : Type} {st : SortSt} {ys xs : Array Keyed} {j base n hint : Nat} {f : Option Nat → StateT SortSt Sem α} {Q : α → SortSt → Prop} (hk : kindOf st = oneType') (hx : ∀ i (h : i < xs.size), IsK xs[i]) (hj : j < ys.size) (hy : IsK ys[j]) (hs : base + n ≤ xs.size) (ha : Asc xs base (base + n)) (hn : hint < n)
    (h : ∀ k, k ≤ n → (∀ i, i < k → K xs (base + i) < K ys j) → (∀ i, k ≤ i → i < n → K ys j ≤ K xs (base + i)) → wpS (model prog w) A E s (f (some k)) Q st) : wpS (model prog w) A E s (elem' ys j >>= fun y => gallop' true y xs base n hint >>= f) Q st := by
  refine wpS_bind (elem_T hj (wpS_bind (gallop_T hk hx hy hs ha hn fun k hc => h k hc.le (fun i hi => ?_) fun i h1 h2 => ?_)))
  · have := hc.yes i hi
    unfold beyB at this; rw [K_eq hj]; simpa using this
  · have := hc.no i h1 h2
    unfold beyB at this; rw [K_eq hj]; simpa using this

noncomputable def Stp {R ρ : Type} (st : SortSt) (Mr : R → Prop) (V' V : ρ → Prop) : ForInStep (Option R × ρ) → SortSt → Prop
  | .done (some r, _), st' => (∃ g, st' = setGal st g) ∧ Mr r
  | .done (none, p), st' => (∃ g, st' = setGal st g) ∧ V' p
  | .yield (none, p), st' => (∃ g, st' = setGal st g) ∧ V p
  | .yield (some _, _), _ => False
theorem loop_T {α R ρ : Type} {st : SortSt} {n g : Nat} {p : ρ} {F : Nat → Option R × ρ → StateT SortSt Sem (ForInStep (Option R × ρ))} {G : Option R × ρ → StateT SortSt Sem α} {Q : α → SortSt → Prop} (Mr : R → Prop) (V' : ρ → Prop) (V : Nat → ρ → Prop) (h : V 0 p) (hend : ∀ p, ¬ V n p)
    (hstep : ∀ x p g, V x p → wpS (model prog w) A E s (F x (none, p)) (Stp st Mr V' (V (x + 1))) (setGal st g)) (h1 : ∀ r p g, Mr r → wpS (model prog w) A E s (G (some r, p)) Q (setGal st g)) (h2 : ∀ p g, V' p → wpS (model prog w) A E s (G (none, p)) Q (setGal st g)) :
    wpS (model prog w) A E s (forIn [:n] (none, p) F >>= G) Q (setGal st g) := by
  refine wpS_bind (wpS_mono (wpS_forRange (fun x c => Stp st Mr V' (V x) (.yield c)) (Q := fun c => Stp st Mr V' (V 0) (.done c)) ?_ ?_ ⟨⟨g, rfl⟩, h⟩) ?_)
  · rintro x ⟨c, p⟩ st' _ _ hc
    cases c with
    | some r => exact hc.elim
    | none =>
      obtain ⟨⟨g, rfl⟩, hv⟩ := hc
      refine wpS_mono (hstep x p g hv) fun r st' h => ?_
      cases r with
      | done c => obtain ⟨c, p⟩ := c; cases c <;> exact h
      | yield c => exact h
  · rintro ⟨c, p⟩ st' hc
    rw [Nat.zero_max] at hc
    cases c with
    | some r => exact hc.elim
    | none => exact absurd hc.2 (hend p)
  · rintro ⟨c, p⟩ st' hc
    cases c with
    | some r => obtain ⟨⟨g, rfl⟩, hm⟩ := hc; exact h1 r p g hm
    | none => obtain ⟨⟨g, rfl⟩, hv⟩ := hc; exact h2 p g hv

structure LoS (a b out : Array Keyed) (ia ib m : Nat) : Prop where
  mg : Mg a.toList b.toList out.toList ia ib
  la : ia + 1 < a.size
  lb : ib < b.size
  ge : m ≤ ia + ib
theorem LoS.lt {a b out : Array Keyed} {ia ib m : Nat} (h : LoS a b out ia ib m) : ia < a.size := Nat.lt_of_succ_lt h.la
theorem LoS.fin {a b out : Array Keyed} {ia ib m : Nat} (h : LoS a b out ia ib m) : m < a.size + b.size := Nat.lt_of_le_of_lt h.ge (Nat.add_lt_add h.lt h.lb)
noncomputable abbrev LoV {τ : Type} (a b : Array Keyed) (m : Nat) (p : Array Keyed × Nat × Nat × τ) : Prop := LoS a b p.1 p.2.1 p.2.2.1 m
theorem LoV.end {τ : Type} {a b : Array Keyed} {m : Nat} {p : Array Keyed × Nat × Nat × τ} : ¬ LoV a b (m + (a.size + b.size)) p := fun h => Nat.lt_irrefl _ (Nat.lt_of_le_of_lt (Nat.le_add_left _ _) h.fin)
theorem size_eq {x y : Nat} : (x == y) = true ↔ x = y := beq_iff_eq

theorem mergeLo_T {st : SortSt} {a b : Array Keyed} {Q : Array Keyed → SortSt → Prop} (hk : kindOf st = oneType') (I : MIn a b) (h : ∀ r g, Merged a b r → Q r (setGal st g)) : wpS (model prog w) A E s (mergeLo' a b) Q st := by
  have b1 := I.b1
  refine wpS_bind (wpS_lift (wpAny_rule ⟨rfl, ?_⟩))
  refine item_T b1 ?_
  have m0 : Mg a.toList b.toList (#[b[0]'b1]).toList 0 1 := I.pushB (out := #[]) Mg.nil b1 (Int.le_of_lt I.first)
  refine wpS_if size_eq (fun c1 => wpS_pure (h _ (gallopOf st) (I.outB m0 (Nat.le_of_eq c1.symm)))) fun c1 => ?_
  refine wpS_if size_eq (fun c2 => wpS_pure (h _ (gallopOf st) (I.oneA m0 c2))) fun c2 => ?_
  refine wpS_bind (wpS_get ?_)
  refine loop_T (st := st) (g := gallopOf st) (Merged a b) (fun z_ => False) (fun x p => LoV a b (1 + x) p) ⟨m0, Nat.lt_of_le_of_ne I.a1 c2, Nat.lt_of_le_of_ne b1 c1, Nat.le_refl _⟩ (fun z_ => LoV.end) ?step (fun r p g hm => wpS_pure (h r g hm)) (fun z_ z_ hf => hf.elim)
  intro x p g hs
  refine loop_T (st := st) (g := g) (Merged a b) (fun p => LoV a b (1 + x + 1) p) (fun y p => LoV a b (1 + x + y) p) hs (fun z_ => LoV.end) ?s1 (fun r p g hm => wpS_pure ⟨⟨g, rfl⟩, hm⟩) ?p1
  case s1 =>
    clear hs
    intro y q g hs
    refine ask_T hk hs.lb hs.lt (I.kb _ _) (I.ka _ _) ?_
    refine wpS_if decide_eq_true_iff (fun hl => ?_) fun hl => ?_
    · refine item_T hs.lb ?_
      have m2 := I.pushB hs.mg hs.lb (Int.le_of_lt hl)
      refine wpS_if size_eq (fun e1 => wpS_pure ⟨⟨g, rfl⟩, I.outB m2 (Nat.le_of_eq e1.symm)⟩) fun e1 => ?_
      have n1 := Nat.lt_of_le_of_ne hs.lb e1
      exact wpS_if' (fun z_ => wpS_pure ⟨⟨g, rfl⟩, ⟨m2, hs.la, n1, Nat.succ_le_succ (Nat.le_trans (Nat.le_add_right _ _) hs.ge)⟩⟩) fun z_ => wpS_pure ⟨⟨g, rfl⟩, ⟨m2, hs.la, n1, Nat.succ_le_succ hs.ge⟩⟩
    · refine item_T hs.lt ?_
      have m2 := I.pushA hs.mg hs.lt (Int.not_lt.mp hl)
      refine wpS_if size_eq (fun e1 => wpS_pure ⟨⟨g, rfl⟩, I.oneA m2 e1⟩) fun e1 => ?_
      have n1 := Nat.lt_of_le_of_ne hs.la e1
      have n2 : 1 + x + (y + 1) ≤ q.2.1 + 1 + q.2.2.1 := by have := hs.ge; (first | (clear n1 e1 m2 hl hs c2 c1 m0 b1 h I hk; lia) | lia | omega)
      exact wpS_if' (fun z_ => wpS_pure ⟨⟨g, rfl⟩, ⟨m2, n1, hs.lb, Nat.le_trans (Nat.add_le_add_left (Nat.le_add_left 1 y) _) n2⟩⟩) fun z_ => wpS_pure ⟨⟨g, rfl⟩, ⟨m2, n1, hs.lb, n2⟩⟩
  case p1 =>
    clear hs
    generalize 1 + x + 1 = n
    intro p g hs
    refine wpS_bind (wpS_lift (wpAny_rule ⟨rfl, ?_⟩))
    refine loop_T (st := st) (g := g) (Merged a b) (fun p => LoV a b n p) (fun y p => LoV a b (n + y) p) hs (fun z_ => LoV.end) ?s2 (fun r p g hm => wpS_pure ⟨⟨g, rfl⟩, hm⟩) (fun p g hs => wpS_bind (wpS_modify (wpS_pure ⟨⟨_, rfl⟩, hs⟩)))
    clear hs
    intro y p g hs
    extract_lets s1 out s2 ia s3 ib s4 mg s5 ac bc ib2 jp mg2
    refine wpS_ite1 (jp := jp) fun d => ?_
    refine wpS_bind (wpS_modify ?_)
    have lta := Nat.le_of_lt hs.lt
    refine right_T hk I.ka hs.lb (I.kb _ _) (Nat.le_of_eq (Nat.add_sub_cancel' lta)) ((asc_all I.sa).sub (Nat.zero_le _) (Nat.le_of_eq (Nat.add_sub_cancel' lta))) (Nat.sub_pos_of_lt hs.lt) fun k ku ky kn => ?_
    dsimp -zeta -zetaHave only
    have m1 := I.stepA hs.mg (k := k) fun j j1 z_ => ky j j1
    have nx : ia + k < a.size → K b ib ≤ K a (ia + k) := fun h => Int.le_of_lt (kn k (Nat.le_refl _) (Nat.lt_sub_of_add_lt (by rw [Nat.add_comm]; exact h)))
    extract_lets ac2 jp2 out2 ia2
    refine wpS_meet (jp := jp2) (fun o i => Mg a.toList b.toList o.toList i ib ∧ i + 1 < a.size ∧ K b ib ≤ K a i ∧ n + y ≤ i + ib) ?_ (fun hj => ?_)
    · rintro o i ⟨m2, n1, n2, n3⟩
      have n1' : i < a.size := Nat.lt_of_succ_lt n1
      refine item_T hs.lb ?_
      have m3 := I.pushB m2 hs.lb n2
      refine wpS_if size_eq (fun e3 => wpS_pure ⟨⟨_, rfl⟩, I.outB m3 (Nat.le_of_eq e3.symm)⟩) fun e3 => ?_
      have lb2 : ib + 1 < b.size := Nat.lt_of_le_of_ne hs.lb e3
      refine left_T hk I.kb n1' (I.ka _ _) (Nat.le_of_eq (Nat.add_sub_cancel' hs.lb)) ((asc_all I.sb).sub (Nat.zero_le _) (Nat.le_of_eq (Nat.add_sub_cancel' hs.lb))) (Nat.sub_pos_of_lt lb2) fun kk ku2 ky2 kn2 => ?_
      dsimp -zeta -zetaHave only
      have m4 := I.stepB m3 (k := kk) fun j j1 z_ => Int.le_of_lt (ky2 j j1)
      have nx2 : ib + 1 + kk < b.size → K a i ≤ K b (ib + 1 + kk) := fun h => kn2 kk (Nat.le_refl _) (Nat.lt_sub_of_add_lt (by rw [Nat.add_comm]; exact h))
      extract_lets bc2 ia3 jp3 out4 ib3
      refine wpS_meet (jp := jp3) (fun o j => Mg a.toList b.toList o.toList i j ∧ j < b.size ∧ K a i ≤ K b j ∧ ib + 1 ≤ j) ?_ (fun hj3 => ?_)
      · rintro o j ⟨m5, u1, u2, u3⟩
        refine item_T n1' ?_
        have m6 := I.pushA m5 n1' u2
        refine wpS_if size_eq (fun e5 => wpS_pure ⟨⟨_, rfl⟩, I.oneA m6 e5⟩) fun e5 => ?_
        have n4 := Nat.lt_of_le_of_ne n1 e5
        have n5 : n + (y + 1) ≤ i + 1 + j := by (first | lia | omega)
        exact wpS_if' (fun z_ => wpS_pure ⟨⟨_, rfl⟩, ⟨m6, n4, u1, Nat.le_trans (Nat.le_add_right _ _) n5⟩⟩) fun z_ => wpS_pure ⟨⟨_, rfl⟩, ⟨m6, n4, u1, n5⟩⟩
      · refine wpS_if' (fun z_ => ?_) fun kk0 => ?_
        · refine wpS_if size_eq (fun e4 => wpS_pure ⟨⟨_, rfl⟩, I.outB m4 (Nat.le_of_eq e4.symm)⟩) fun e4 => ?_
          have l4 : ib + 1 + kk < b.size := Nat.lt_of_le_of_ne (Nat.add_le_of_le_sub' hs.lb ku2) e4
          exact hj3 _ _ ⟨m4, l4, nx2 l4, Nat.le_add_right _ _⟩
        · have z : kk = 0 := Nat.eq_zero_of_not_pos kk0
          rw [z] at nx2
          exact hj3 _ _ ⟨m3, lb2, nx2 lb2, Nat.le_refl _⟩
    · refine wpS_if' (fun z_ => ?_) fun k0 => ?_
      · refine wpS_if size_eq (fun e1 => wpS_pure ⟨⟨_, rfl⟩, I.oneA m1 e1⟩) fun e1 => ?_
        refine wpS_if size_eq (fun e2 => wpS_pure ⟨⟨_, rfl⟩, I.outA m1 (Nat.le_of_eq e2.symm)⟩) fun e2 => ?_
        have l4 : ia + k < a.size := Nat.lt_of_le_of_ne (Nat.add_le_of_le_sub' lta ku) e2
        exact hj _ _ ⟨m1, Nat.lt_of_le_of_ne l4 e1, nx l4, Nat.le_trans hs.ge (Nat.add_le_add_right (Nat.le_add_right _ _) _)⟩
      · have z : k = 0 := Nat.eq_zero_of_not_pos k0
        rw [z] at nx
        exact hj _ _ ⟨hs.mg, hs.la, nx hs.lt, hs.ge⟩
end
end Mine
end

section
set_option tactic.hygienic false
open PySem PyProof.Rows
set_option linter.unusedVariables false
namespace Mine

structure MgH (a b out : List Keyed) (na nb : Nat) : Prop where
  perm : (a.take na ++ b.take nb ++ out.reverse).Perm (a ++ b)
  sorted : out.reverse.Pairwise LeK
  above : ∀ x ∈ a.take na ++ b.take nb, ∀ y ∈ out, LeK x y
theorem MgH.swap {a b out : List Keyed} {na nb : Nat} (h : MgH a b out na nb) : MgH b a out nb na :=
  ⟨(List.perm_append_comm.append_right _).trans (h.perm.trans List.perm_append_comm), h.sorted, fun x hx y hy => h.above x (List.perm_append_comm.mem_iff.mp hx) y hy⟩
theorem MgH.nil {a b : List Keyed} : MgH a b [] a.length b.length :=
  ⟨by rw [List.take_length, List.take_length, List.reverse_nil, List.append_nil], .nil, fun z_ z_ z_ h => nomatch h⟩
theorem MgH.takeA {a b out : List Keyed} {na nb m : Nat} (h : MgH a b out na nb) (hm : m ≤ na) (sa : a.Pairwise LeK) (hb : ∀ y ∈ (a.take na).drop m, ∀ x ∈ b.take nb, LeK x y) : MgH a b (out ++ ((a.take na).drop m).reverse) m nb := by
  have e : a.take na = a.take m ++ (a.take na).drop m := by
    have := (List.take_append_drop m (a.take na)).symm
    rw [List.take_take, Nat.min_eq_left hm] at this
    exact this
  have sd : (a.take na).Pairwise LeK := sa.sublist (List.take_sublist _ _)
  rw [e, List.pairwise_append] at sd
  refine ⟨?_, ?_, fun x hx y hy => ?_⟩
  · rw [List.reverse_append, List.reverse_reverse]
    refine List.Perm.trans ?_ h.perm
    rw [e]
    simp only [List.append_assoc]
    refine List.Perm.append_left _ ?_
    rw [← List.append_assoc, ← List.append_assoc]
    refine List.Perm.append_right _ ?_
    rw [← e]
    exact List.perm_append_comm
  · rw [List.reverse_append, List.reverse_reverse, List.pairwise_append]
    exact ⟨sd.2.1, h.sorted, fun x hx y hy => h.above x (List.mem_append.mpr (.inl (List.mem_of_mem_drop hx))) y (List.mem_reverse.mp hy)⟩
  · rcases List.mem_append.mp hy with hy | hy
    · refine h.above x (List.mem_append.mpr ((List.mem_append.mp hx).imp (fun z => ?_) id)) y hy
      rw [e]; exact List.mem_append.mpr (.inl z)
    · have hy := List.mem_reverse.mp hy
      rcases List.mem_append.mp hx with hx | hx
      · exact sd.2.2 x hx y hy
      · exact hb y hy x hx
theorem MgH.takeB {a b out : List Keyed} {na nb m : Nat} (h : MgH a b out na nb) (hm : m ≤ nb) (sb : b.Pairwise LeK) (ha : ∀ y ∈ (b.take nb).drop m, ∀ x ∈ a.take na, LeK x y) : MgH a b (out ++ ((b.take nb).drop m).reverse) na m := (h.swap.takeA hm sb ha).swap
theorem MgH.fin {a b out : List Keyed} {na nb : Nat} (h : MgH a b out na nb) (sa : a.Pairwise LeK) (sb : b.Pairwise LeK) (hab : ∀ x ∈ a.take na, ∀ y ∈ b.take nb, LeK x y) :
    (a.take na ++ b.take nb ++ out.reverse).Perm (a ++ b) ∧ (a.take na ++ b.take nb ++ out.reverse).Pairwise LeK :=
  ⟨h.perm, List.pairwise_append.mpr ⟨List.pairwise_append.mpr ⟨sa.sublist (List.take_sublist _ _), sb.sublist (List.take_sublist _ _), hab⟩, h.sorted, fun x hx y hy => h.above x hx y (List.mem_reverse.mp hy)⟩⟩
end Mine
end

section
set_option tactic.hygienic false
open PySem PyProof.Rows
set_option linter.unusedVariables false
namespace Mine

theorem mem_midK {a : Array Keyed} {n m : Nat} {x : Keyed} (h : x ∈ (a.toList.take n).drop m) : ∃ j, m ≤ j ∧ j < n ∧ j < a.size ∧ numOf x.1 = K a j := by
  obtain ⟨k, hk, rfl⟩ := List.getElem_of_mem h
  rw [List.length_drop, List.length_take, Array.length_toList] at hk
  have h2 := Nat.add_lt_of_lt_sub' hk
  have hlt : m + k < a.size := Nat.lt_of_lt_of_le h2 (Nat.min_le_right _ _)
  refine ⟨m + k, Nat.le_add_right _ _, Nat.lt_of_lt_of_le h2 (Nat.min_le_left _ _), hlt, ?_⟩
  rw [K_eq hlt, List.getElem_drop, List.getElem_take]; rfl
theorem mem_topK {a : Array Keyed} {n : Nat} {x : Keyed} (h : x ∈ a.toList.take n) : ∃ j, j < n ∧ j < a.size ∧ numOf x.1 = K a j := by
  obtain ⟨j, _, h2, h3, h4⟩ := mem_midK (m := 0) (by simpa using h)
  exact ⟨j, h2, h3, h4⟩
theorem ext_mid {a out : Array Keyed} {m n : Nat} : (out ++ (a.extract m n).reverse).toList = out.toList ++ ((a.toList.take n).drop m).reverse := by
  rw [Array.toList_append, Array.toList_reverse, Array.toList_extract, List.extract_eq_drop_take, List.drop_take]
theorem push_mid {a out : Array Keyed} {m : Nat} (h : m < a.size) : (out.push a[m]).toList = out.toList ++ ((a.toList.take (m + 1)).drop m).reverse := by
  have e : (a.toList.take (m + 1)).drop m = [a[m]] := by
    rw [List.drop_take, Nat.add_sub_cancel_left, List.drop_eq_getElem_cons (by simpa using h)]; rfl
  rw [Array.toList_push, e]; rfl

theorem MIn.downA {a b out : Array Keyed} {na nb m : Nat} (I : MIn a b) (h : MgH a.toList b.toList out.toList na nb) (hm : m ≤ na) (nb1 : 1 ≤ nb) (hb : nb ≤ b.size) (hk : ∀ j, m ≤ j → j < na → K b (nb - 1) ≤ K a j) : MgH a.toList b.toList (out ++ (a.extract m na).reverse).toList m nb := by
  rw [ext_mid]
  refine h.takeA hm I.sa fun y hy x hx => ?_
  obtain ⟨j, j1, j2, j3, e⟩ := mem_midK hy
  obtain ⟨l, l1, l2, e2⟩ := mem_topK hx
  show numOf x.1 ≤ numOf y.1
  rw [e, e2]
  exact Int.le_trans (asc_all I.sb l (nb - 1) (Nat.zero_le _) (by (first | (clear e2 l2 e j3 j2 j1 hx hy hk hb hm h I; lia) | lia | omega)) (by (first | (clear e2 l2 l1 e j3 j2 j1 hx hy hk hm h I; lia) | lia | omega))) (hk j j1 j2)
theorem MIn.downB {a b out : Array Keyed} {na nb m : Nat} (I : MIn a b) (h : MgH a.toList b.toList out.toList na nb) (hm : m ≤ nb) (na1 : 1 ≤ na) (ha : na ≤ a.size) (hk : ∀ j, m ≤ j → j < nb → K a (na - 1) ≤ K b j) : MgH a.toList b.toList (out ++ (b.extract m nb).reverse).toList na m := by
  rw [ext_mid]
  refine h.takeB hm I.sb fun y hy x hx => ?_
  obtain ⟨j, j1, j2, j3, e⟩ := mem_midK hy
  obtain ⟨l, l1, l2, e2⟩ := mem_topK hx
  show numOf x.1 ≤ numOf y.1
  rw [e, e2]
  exact Int.le_trans (asc_all I.sa l (na - 1) (Nat.zero_le _) (by (first | lia | omega)) (by (first | lia | omega))) (hk j j1 j2)
end Mine
end

section
set_option tactic.hygienic false
open PySem PyProof.Rows
set_option linter.unusedVariables false
namespace Mine

theorem MIn.pushHA {a b out : Array Keyed} {m nb : Nat} (I : MIn a b) (h : MgH a.toList b.toList out.toList (m + 1) nb) (hm : m < a.size) (nb1 : 1 ≤ nb) (hb : nb ≤ b.size) (hk : K b (nb - 1) ≤ K a m) : MgH a.toList b.toList (out.push a[m]).toList m nb := by
  have := I.downA h (Nat.le_succ m) nb1 hb (fun j j1 j2 => by rw [show j = m by (first | lia | omega)]; exact hk)
  rw [ext_mid, ← push_mid hm] at this; exact this
theorem MIn.pushHB {a b out : Array Keyed} {na m : Nat} (I : MIn a b) (h : MgH a.toList b.toList out.toList na (m + 1)) (hm : m < b.size) (na1 : 1 ≤ na) (ha : na ≤ a.size) (hk : K a (na - 1) ≤ K b m) : MgH a.toList b.toList (out.push b[m]).toList na m := by
  have := I.downB h (Nat.le_succ m) na1 ha (fun j j1 j2 => by rw [show j = m by (first | lia | omega)]; exact hk)
  rw [ext_mid, ← push_mid hm] at this; exact this
theorem MIn.finH {a b out : Array Keyed} {na nb : Nat} (I : MIn a b) (h : MgH a.toList b.toList out.toList na nb) (hab : ∀ x ∈ a.toList.take na, ∀ y ∈ b.toList.take nb, LeK x y) : Merged a b (a.extract 0 na ++ b.extract 0 nb ++ out.reverse) := by
  obtain ⟨q1, q2⟩ := h.fin I.sa I.sb hab
  have e : (a.extract 0 na ++ b.extract 0 nb ++ out.reverse).toList = a.toList.take na ++ b.toList.take nb ++ out.toList.reverse := by
    rw [Array.toList_append, Array.toList_append, Array.toList_reverse, Array.toList_extract, Array.toList_extract, List.extract_eq_drop_take, List.extract_eq_drop_take]; rfl
  exact ⟨by rw [e]; exact q1, by rw [e]; exact q2⟩
theorem MIn.noA {a b out : Array Keyed} {nb : Nat} (I : MIn a b) (h : MgH a.toList b.toList out.toList 0 nb) : Merged a b (a.extract 0 0 ++ b.extract 0 nb ++ out.reverse) := I.finH h fun x hx => by rw [List.take_zero] at hx; cases hx
theorem MIn.noB {a b out : Array Keyed} {na : Nat} (I : MIn a b) (h : MgH a.toList b.toList out.toList na 0) : Merged a b (a.extract 0 na ++ b.extract 0 0 ++ out.reverse) := I.finH h fun x z_ y hy => by rw [List.take_zero] at hy; cases hy
theorem MIn.oneB {a b out : Array Keyed} {na : Nat} (I : MIn a b) (h : MgH a.toList b.toList out.toList na 1) : Merged a b (b.extract 0 1 ++ a.extract 0 na ++ out.reverse) := by
  obtain ⟨q1, q2⟩ := h.swap.fin I.sb I.sa fun x hx y hy => by
    obtain ⟨l, l1, l2, e⟩ := mem_topK hx
    obtain ⟨m, m1, m2, e2⟩ := mem_topK hy
    show numOf x.1 ≤ numOf y.1
    rw [e, e2, show l = 0 by (first | lia | omega)]
    exact Int.le_trans (Int.le_of_lt I.first) (asc_all I.sa 0 m (Nat.zero_le _) (Nat.zero_le _) m2)
  have e : (b.extract 0 1 ++ a.extract 0 na ++ out.reverse).toList = b.toList.take 1 ++ a.toList.take na ++ out.toList.reverse := by
    rw [Array.toList_append, Array.toList_append, Array.toList_reverse, Array.toList_extract, Array.toList_extract, List.extract_eq_drop_take, List.extract_eq_drop_take]; rfl
  exact ⟨by rw [e]; exact q1.trans List.perm_append_comm, by rw [e]; exact q2⟩
end Mine
end

section
set_option tactic.hygienic false
open PySem PyProof.Rows
set_option linter.unusedVariables false
namespace Mine
section
variable {prog : Program} {w : World} {A : Around} {E : Value → Shared → Prop} {s : Shared} {a₀ : Array Keyed}
noncomputable def mergeHi' : Array Keyed → Array Keyed → StateT SortSt Sem (Array Keyed) := sortPriv% PySem.Builtin.mergeHi

theorem MIn.noA' {a b out : Array Keyed} {na nb : Nat} (I : MIn a b) (h : MgH a.toList b.toList out.toList na nb) (z : na = 0) : Merged a b (a.extract 0 na ++ b.extract 0 nb ++ out.reverse) := by subst z; exact I.noA h
theorem MIn.noB' {a b out : Array Keyed} {na nb : Nat} (I : MIn a b) (h : MgH a.toList b.toList out.toList na nb) (z : nb = 0) : Merged a b (a.extract 0 na ++ b.extract 0 nb ++ out.reverse) := by subst z; exact I.noB h
theorem MIn.oneB' {a b out : Array Keyed} {na nb : Nat} (I : MIn a b) (h : MgH a.toList b.toList out.toList na nb) (z : nb = 1) : Merged a b (b.extract 0 nb ++ a.extract 0 na ++ out.reverse) := by subst z; exact I.oneB h
theorem MIn.pushHA' {a b out : Array Keyed} {na nb : Nat} (I : MIn a b) (h : MgH a.toList b.toList out.toList na nb) (p : na - 1 < a.size) (na1 : 1 ≤ na) (nb1 : 1 ≤ nb) (hb : nb ≤ b.size) (hk : K b (nb - 1) ≤ K a (na - 1)) : MgH a.toList b.toList (out.push a[na - 1]).toList (na - 1) nb :=
  I.pushHA (by rw [Nat.sub_add_cancel na1]; exact h) p nb1 hb hk
theorem MIn.pushHB' {a b out : Array Keyed} {na nb : Nat} (I : MIn a b) (h : MgH a.toList b.toList out.toList na nb) (p : nb - 1 < b.size) (nb1 : 1 ≤ nb) (na1 : 1 ≤ na) (ha : na ≤ a.size) (hk : K a (na - 1) ≤ K b (nb - 1)) : MgH a.toList b.toList (out.push b[nb - 1]).toList na (nb - 1) :=
  I.pushHB (by rw [Nat.sub_add_cancel nb1]; exact h) p na1 ha hk

structure HiS (a b out : Array Keyed) (na nb m : Nat) : Prop where
  mg : MgH a.toList b.toList out.toList na nb
  a1 : 1 ≤ na
  la : na ≤ a.size
  b2 : 2 ≤ nb
  lb : nb ≤ b.size
  le : na + nb + m ≤ a.size + b.size
theorem HiS.pa {a b out : Array Keyed} {na nb m : Nat} (h : HiS a b out na nb m) : na - 1 < a.size := Nat.lt_of_lt_of_le (Nat.sub_lt h.a1 Nat.one_pos) h.la
theorem HiS.b1 {a b out : Array Keyed} {na nb m : Nat} (h : HiS a b out na nb m) : 1 ≤ nb := Nat.le_of_succ_le h.b2
theorem HiS.pb {a b out : Array Keyed} {na nb m : Nat} (h : HiS a b out na nb m) : nb - 1 < b.size := Nat.lt_of_lt_of_le (Nat.sub_lt h.b1 Nat.one_pos) h.lb
theorem HiS.lp {a b out : Array Keyed} {na nb m : Nat} (h : HiS a b out na nb m) : nb - 1 ≤ b.size := Nat.le_trans (Nat.sub_le _ _) h.lb
noncomputable abbrev HiV {τ : Type} (a b : Array Keyed) (m : Nat) (p : Nat × Nat × Array Keyed × τ) : Prop := HiS a b p.2.2.1 p.1 p.2.1 m
theorem HiV.end {τ : Type} {a b : Array Keyed} {m : Nat} {p : Nat × Nat × Array Keyed × τ} : ¬ HiV a b (m + (a.size + b.size)) p := fun h => by
  have h1 := h.le
  have h2 := h.a1
  (first | (clear h; lia) | lia | omega)
theorem pred_pos {n : Nat} (h1 : 1 ≤ n) (h : ¬ n - 1 = 0) : 1 ≤ n - 1 := Nat.one_le_iff_ne_zero.mpr h
theorem pred_two {n : Nat} (h1 : 2 ≤ n) (h : ¬ n - 1 = 1) : 2 ≤ n - 1 := by (first | lia | omega)
theorem step_a {na nb x y s : Nat} (h : na + nb + (x + y) ≤ s) (h1 : 1 ≤ na) : na - 1 + nb + (x + (y + 1)) ≤ s := by (first | lia | omega)
theorem step_b {na nb x y s : Nat} (h : na + nb + (x + y) ≤ s) (h1 : 1 ≤ nb) : na + (nb - 1) + (x + (y + 1)) ≤ s := by (first | lia | omega)
theorem less_m {k x y s : Nat} (h : k + (x + (y + 1)) ≤ s) : k + (x + 1) ≤ s := by (first | lia | omega)

theorem mergeHi_T {st : SortSt} {a b : Array Keyed} {Q : Array Keyed → SortSt → Prop} (hk : kindOf st = oneType') (I : MIn a b) (h : ∀ r g, Merged a b r → Q r (setGal st g)) : wpS (model prog w) A E s (mergeHi' a b) Q st := by
  have a1 := I.a1
  have la : a.size - 1 < a.size := Nat.sub_lt a1 Nat.one_pos
  refine wpS_bind (wpS_lift (wpAny_rule ⟨rfl, ?_⟩))
  refine item_T la ?_
  have m0 : MgH a.toList b.toList (#[a[a.size - 1]'la]).toList (a.size - 1) b.size := I.pushHA' (out := #[]) MgH.nil la a1 I.b1 (Nat.le_refl _) (Int.le_of_lt I.last)
  refine wpS_if size_eq (fun c1 => wpS_pure (h _ (gallopOf st) (I.noA' m0 c1))) fun c1 => ?_
  refine wpS_if size_eq (fun c2 => wpS_pure (h _ (gallopOf st) (I.oneB' m0 c2))) fun c2 => ?_
  refine wpS_bind (wpS_get ?_)
  refine loop_T (st := st) (g := gallopOf st) (Merged a b) (fun z_ => False) (fun x p => HiV a b (1 + x) p) ⟨m0, pred_pos a1 c1, Nat.sub_le _ _, Nat.lt_of_le_of_ne I.b1 (Ne.symm c2), Nat.le_refl _, by show a.size - 1 + b.size + (1 + 0) ≤ a.size + b.size; (first | lia | omega)⟩ (fun z_ => HiV.end) ?step (fun r p g hm => wpS_pure (h r g hm)) (fun z_ z_ hf => hf.elim)
  intro x p g hs
  refine loop_T (st := st) (g := g) (Merged a b) (fun p => HiV a b (1 + x + 1) p) (fun y p => HiV a b (1 + x + y) p) hs (fun z_ => HiV.end) ?s1 (fun r p g hm => wpS_pure ⟨⟨g, rfl⟩, hm⟩) ?p1
  case s1 =>
    clear hs
    intro y q g hs
    refine ask_T hk hs.pb hs.pa (I.kb _ _) (I.ka _ _) ?_
    refine wpS_if decide_eq_true_iff (fun hl => ?_) fun hl => ?_
    · refine item_T hs.pa ?_
      have m2 := I.pushHA' hs.mg hs.pa hs.a1 hs.b1 hs.lb (Int.le_of_lt hl)
      refine wpS_if size_eq (fun e1 => wpS_pure ⟨⟨g, rfl⟩, I.noA' m2 e1⟩) fun e1 => ?_
      have n1 := pred_pos hs.a1 e1
      have n2 := Nat.le_trans (Nat.sub_le _ 1) hs.la
      have n3 := step_a hs.le hs.a1
      exact wpS_if' (fun z_ => wpS_pure ⟨⟨g, rfl⟩, ⟨m2, n1, n2, hs.b2, hs.lb, less_m n3⟩⟩) fun z_ => wpS_pure ⟨⟨g, rfl⟩, ⟨m2, n1, n2, hs.b2, hs.lb, n3⟩⟩
    · refine item_T hs.pb ?_
      have m2 := I.pushHB' hs.mg hs.pb hs.b1 hs.a1 hs.la (Int.not_lt.mp hl)
      refine wpS_if size_eq (fun e1 => wpS_pure ⟨⟨g, rfl⟩, I.oneB' m2 e1⟩) fun e1 => ?_
      have n1 := pred_two hs.b2 e1
      have n3 := step_b hs.le hs.b1
      exact wpS_if' (fun z_ => wpS_pure ⟨⟨g, rfl⟩, ⟨m2, hs.a1, hs.la, n1, hs.lp, less_m n3⟩⟩) fun z_ => wpS_pure ⟨⟨g, rfl⟩, ⟨m2, hs.a1, hs.la, n1, hs.lp, n3⟩⟩
  case p1 =>
    clear hs
    generalize 1 + x + 1 = n
    intro p g hs
    refine wpS_bind (wpS_lift (wpAny_rule ⟨rfl, ?_⟩))
    refine loop_T (st := st) (g := g) (Merged a b) (fun p => HiV a b n p) (fun y p => HiV a b (n + y) p) hs (fun z_ => HiV.end) ?s2 (fun r p g hm => wpS_pure ⟨⟨g, rfl⟩, hm⟩) (fun p g hs => wpS_bind (wpS_modify (wpS_pure ⟨⟨_, rfl⟩, hs⟩)))
    clear hs
    intro y p g hs
    extract_lets s1 na s2 nb s3 out s4 mg s5 ac bc nb2 jp mg2
    have hle : na + nb + (n + y) ≤ a.size + b.size := hs.le
    refine wpS_ite1 (jp := jp) fun d => ?_
    refine wpS_bind (wpS_modify ?_)
    refine right_T hk I.ka hs.pb (I.kb _ _) (by rw [Nat.zero_add]; exact hs.la) ((asc_all I.sa).sub (Nat.zero_le _) (by rw [Nat.zero_add]; exact hs.la)) (Nat.sub_lt hs.a1 Nat.one_pos) fun at_ ku ky kn => ?_
    simp only [Nat.zero_add] at ky kn
    dsimp -zeta -zetaHave only
    have m1 := I.downA hs.mg ku hs.b1 hs.lb (fun j j1 j2 => Int.le_of_lt (kn j j1 j2))
    have nx : 1 ≤ at_ → K a (at_ - 1) ≤ K b (nb - 1) := fun h => ky _ (Nat.sub_lt h Nat.one_pos)
    extract_lets k ac2 jp2 out2 na2
    refine wpS_meet (jp := jp2) (fun i o => MgH a.toList b.toList o.toList i nb ∧ 1 ≤ i ∧ K a (i - 1) ≤ K b (nb - 1) ∧ i ≤ na) ?_ (fun hj => ?_)
    · rintro i o ⟨m2, n1, n2, n3⟩
      have n4 := Nat.le_trans n3 hs.la
      have q2 : i - 1 < a.size := Nat.lt_of_lt_of_le (Nat.sub_lt n1 Nat.one_pos) n4
      refine item_T hs.pb ?_
      have m3 := I.pushHB' m2 hs.pb hs.b1 n1 n4 n2
      refine wpS_if size_eq (fun e3 => wpS_pure ⟨⟨_, rfl⟩, I.oneB' m3 e3⟩) fun e3 => ?_
      have nb2' : 2 ≤ nb - 1 := pred_two hs.b2 e3
      refine left_T hk I.kb q2 (I.ka _ _) (by rw [Nat.zero_add]; exact hs.lp) ((asc_all I.sb).sub (Nat.zero_le _) (by rw [Nat.zero_add]; exact hs.lp)) (Nat.sub_lt (Nat.le_of_succ_le nb2') Nat.one_pos) fun at2 ku2 ky2 kn2 => ?_
      simp only [Nat.zero_add] at ky2 kn2
      dsimp -zeta -zetaHave only
      have m4 := I.downB m3 ku2 n1 n4 (fun j j1 j2 => kn2 j j1 j2)
      have nx2 : 1 ≤ at2 → K b (at2 - 1) ≤ K a (i - 1) := fun h => Int.le_of_lt (ky2 _ (Nat.sub_lt h Nat.one_pos))
      extract_lets kk bc2 na3 jp3 out4 nb3
      refine wpS_meet (jp := jp3) (fun j o => MgH a.toList b.toList o.toList i j ∧ 2 ≤ j ∧ K b (j - 1) ≤ K a (i - 1) ∧ j ≤ nb - 1) ?_ (fun hj3 => ?_)
      · rintro j o ⟨m5, u1, u2, u3⟩
        have u4 := Nat.le_trans u3 hs.lp
        refine item_T q2 ?_
        have m6 := I.pushHA' m5 q2 n1 (Nat.le_of_succ_le u1) u4 u2
        refine wpS_if size_eq (fun e5 => wpS_pure ⟨⟨_, rfl⟩, I.noA' m6 e5⟩) fun e5 => ?_
        have v1 := pred_pos n1 e5
        have v2 := Nat.le_trans (Nat.sub_le _ 1) n4
        have v3 : i - 1 + j + (n + (y + 1)) ≤ a.size + b.size := step_a (Nat.le_trans (Nat.add_le_add_right (Nat.add_le_add n3 (Nat.le_trans u3 (Nat.sub_le _ _))) _) hle) n1
        exact wpS_if' (fun z_ => wpS_pure ⟨⟨_, rfl⟩, ⟨m6, v1, v2, u1, u4, Nat.le_trans (Nat.add_le_add_left (Nat.le_add_right _ _) _) v3⟩⟩) fun z_ => wpS_pure ⟨⟨_, rfl⟩, ⟨m6, v1, v2, u1, u4, v3⟩⟩
      · refine wpS_if' (fun z_ => ?_) fun kk0 => ?_
        · refine wpS_if size_eq (fun e4 => wpS_pure ⟨⟨_, rfl⟩, I.oneB' m4 e4⟩) fun e4 => ?_
          refine wpS_if size_eq (fun e6 => wpS_pure ⟨⟨_, rfl⟩, I.noB' m4 e6⟩) fun e6 => ?_
          have p1 : 1 ≤ at2 := Nat.one_le_iff_ne_zero.mpr e6
          exact hj3 _ _ ⟨m4, Nat.lt_of_le_of_ne p1 (Ne.symm e4), nx2 p1, ku2⟩
        · have z : at2 = nb - 1 := Nat.le_antisymm ku2 (Nat.sub_eq_zero_iff_le.mp (Nat.eq_zero_of_not_pos kk0))
          rw [z] at nx2
          exact hj3 _ _ ⟨m3, nb2', nx2 (Nat.le_of_succ_le nb2'), Nat.le_refl _⟩
    · refine wpS_if' (fun z_ => ?_) fun k0 => ?_
      · refine wpS_if size_eq (fun e1 => wpS_pure ⟨⟨_, rfl⟩, I.noA' m1 e1⟩) fun e1 => ?_
        have p1 : 1 ≤ at_ := Nat.one_le_iff_ne_zero.mpr e1
        exact hj _ _ ⟨m1, p1, nx p1, ku⟩
      · have z : at_ = na := Nat.le_antisymm ku (Nat.sub_eq_zero_iff_le.mp (Nat.eq_zero_of_not_pos k0))
        rw [z] at nx
        exact hj _ _ ⟨hs.mg, hs.a1, nx hs.a1, Nat.le_refl _⟩
end
end Mine
end

section
set_option tactic.hygienic false
open PySem PyProof.Rows
set_option linter.unusedVariables false
namespace Mine

noncomputable def layFrom (base : Nat) (l : List Keyed) (c : Nat) (xs : Array Keyed) : Array Keyed := (l.zipIdx c).foldl (fun a (p, j) => a.setIfInBounds (base + j) p) xs
theorem layFrom_cons {base c : Nat} {p : Keyed} {l : List Keyed} {xs : Array Keyed} : layFrom base (p :: l) c xs = layFrom base l (c + 1) (xs.setIfInBounds (base + c) p) := rfl
theorem layFrom_get {base : Nat} : ∀ {l : List Keyed} {c p : Nat} {xs : Array Keyed} (_ : base + c = p) (_ : p + l.length ≤ xs.size) (k : Nat), (layFrom base l c xs)[k]? = if p ≤ k ∧ k < p + l.length then l[k - p]? else xs[k]?
  | [], c, p, xs, _, _, k => by rw [if_neg fun z => Nat.not_le.mpr z.2 z.1]; rfl
  | q :: l, c, p, xs, e, h, k => by
    have h : p + 1 + l.length ≤ xs.size := by rw [Nat.succ_add]; exact h
    rw [layFrom_cons, layFrom_get (p := p + 1) (congrArg Nat.succ e) (by rw [Array.size_setIfInBounds]; exact h), List.length_cons, e]
    by_cases a : k = p
    · subst a
      rw [if_neg fun z => Nat.not_succ_le_self _ z.1, if_pos ⟨Nat.le_refl _, Nat.lt_add_of_pos_right (Nat.succ_pos _)⟩, Nat.sub_self]
      rw [Array.getElem?_setIfInBounds_self_of_lt (Nat.lt_of_lt_of_le (Nat.lt_succ_self _) (Nat.le_trans (Nat.le_add_right _ _) h))]; rfl
    · by_cases z : p + 1 ≤ k ∧ k < p + 1 + l.length
      · have z2 := z.2
        rw [Nat.succ_add] at z2
        rw [if_pos z, if_pos ⟨Nat.le_of_succ_le z.1, z2⟩, ← Nat.succ_pred_eq_of_pos (Nat.sub_pos_of_lt z.1)]; rfl
      · rw [if_neg z, if_neg fun y => z ⟨Nat.lt_of_le_of_ne y.1 (Ne.symm a), by rw [Nat.succ_add]; exact y.2⟩, Array.getElem?_setIfInBounds_ne (fun e => a e.symm)]
theorem layFrom_list {base : Nat} : ∀ {l : List Keyed} {c p : Nat} {xs : Array Keyed} (_ : base + c = p) (_ : p + l.length ≤ xs.size), (layFrom base l c xs).toList = xs.toList.take p ++ (l ++ xs.toList.drop (p + l.length))
  | [], c, p, xs, _, _ => (List.take_append_drop p xs.toList).symm
  | q :: l, c, p, xs, e, h => by
    have h : p + 1 + l.length ≤ xs.size := by rw [Nat.succ_add]; exact h
    have hp : p < (xs.toList.set p q).length := by rw [List.length_set, Array.length_toList]; exact Nat.lt_of_lt_of_le (Nat.lt_succ_self _) (Nat.le_trans (Nat.le_add_right _ _) h)
    rw [layFrom_cons, layFrom_list (p := p + 1) (congrArg Nat.succ e) (by rw [Array.size_setIfInBounds]; exact h), e, Array.toList_setIfInBounds, List.take_succ_eq_append_getElem hp, List.take_set_of_le (Nat.le_refl _), List.getElem_set_self, List.drop_set_of_lt (Nat.lt_of_lt_of_le (Nat.lt_succ_self _) (Nat.le_add_right _ _)), List.append_assoc, Nat.succ_add]
    rfl
theorem merged_size {xs r : Array Keyed} {sa sb e : Nat} (h1 : sa ≤ sb) (h2 : sb ≤ e) (h3 : e ≤ xs.size) (hm : Merged (xs.extract sa sb) (xs.extract sb e) r) : r.size = e - sa := by
  have := hm.perm.length_eq
  rw [List.length_append, Array.length_toList, Array.length_toList, Array.length_toList, Array.size_extract, Array.size_extract, Nat.min_eq_left (Nat.le_trans h2 h3), Nat.min_eq_left h3, Nat.add_comm, Nat.sub_add_sub_cancel h2 h1] at this
  exact this
theorem split_at {α : Type} (l : List α) {a b : Nat} (h : a ≤ b) : l.drop a = (l.drop a).take (b - a) ++ l.drop b := by
  have := (List.take_append_drop (b - a) (l.drop a)).symm
  rw [List.drop_drop, Nat.add_sub_cancel' h] at this; exact this
theorem lay_perm {xs r : Array Keyed} {sa sb e : Nat} (h1 : sa ≤ sb) (h2 : sb ≤ e) (h3 : e ≤ xs.size) (hm : Merged (xs.extract sa sb) (xs.extract sb e) r) : (layFrom sa r.toList 0 xs).Perm xs := by
  have hl : sa + r.toList.length = e := by rw [Array.length_toList, merged_size h1 h2 h3 hm, Nat.add_sub_cancel' (Nat.le_trans h1 h2)]
  refine Array.perm_iff_toList_perm.mpr ?_
  rw [layFrom_list (p := sa) rfl (by rw [hl]; exact h3), hl]
  have hp := hm.perm
  rw [Array.toList_extract, Array.toList_extract, List.extract_eq_drop_take, List.extract_eq_drop_take] at hp
  have e1 : xs.toList = xs.toList.take sa ++ ((xs.toList.drop sa).take (sb - sa) ++ (xs.toList.drop sb).take (e - sb) ++ xs.toList.drop e) := by
    rw [List.append_assoc, ← split_at _ h2, ← split_at _ h1, List.take_append_drop]
  conv => rhs; rw [e1]
  exact (hp.append_right _).append_left _
end Mine
end

section
set_option tactic.hygienic false
open PySem PyProof.Rows
set_option linter.unusedVariables false
namespace Mine

theorem K_ext {xs : Array Keyed} {lo hi i : Nat} (h : i < hi - lo) (hh : hi ≤ xs.size) : K (xs.extract lo hi) i = K xs (lo + i) := by
  have h2 : i < (xs.extract lo hi).size := by rw [Array.size_extract, Nat.min_eq_left hh]; exact h
  rw [K_eq h2, K_eq (Nat.lt_of_lt_of_le (Nat.add_lt_of_lt_sub' h) hh : lo + i < xs.size), Array.getElem_extract]
theorem K_lay {xs r : Array Keyed} {lo e : Nat} (hl : r.size = e - lo) (hle : lo ≤ e) (h : e ≤ xs.size) (k : Nat) : K (layFrom lo r.toList 0 xs) k = if lo ≤ k ∧ k < e then K r (k - lo) else K xs k := by
  have he : lo + r.size = e := by rw [hl, Nat.add_sub_cancel' hle]
  unfold K
  rw [layFrom_get (p := lo) rfl (by rw [Array.length_toList, he]; exact h), Array.length_toList, he]
  by_cases q : lo ≤ k ∧ k < e
  · rw [if_pos q, if_pos q, Array.getElem?_toList]
  · rw [if_neg q, if_neg q]
theorem Asc.list {xs : Array Keyed} {lo hi : Nat} (h : Asc xs lo hi) (hh : hi ≤ xs.size) : (xs.extract lo hi).toList.Pairwise LeK :=
  List.pairwise_iff_getElem.mpr fun i j ui uj hij => by
    rw [Array.length_toList] at ui uj
    have q : j < hi - lo := by rw [Array.size_extract, Nat.min_eq_left hh] at uj; exact uj
    show numOf (xs.extract lo hi).toList[i].1 ≤ numOf (xs.extract lo hi).toList[j].1
    have ei := K_ext (lo := lo) (i := i) (Nat.lt_trans hij q) hh
    have ej := K_ext (lo := lo) (i := j) q hh
    rw [K_eq ui] at ei
    rw [K_eq uj] at ej
    rw [Array.getElem_toList, Array.getElem_toList, ei, ej]
    exact h _ _ (Nat.le_add_right _ _) (Nat.add_le_add_left (Nat.le_of_lt hij) _) (Nat.add_lt_of_lt_sub' q)
theorem ext_mem {xs : Array Keyed} {lo hi : Nat} (hh : hi ≤ xs.size) {x : Keyed} (h : x ∈ (xs.extract lo hi).toList) : ∃ l, lo ≤ l ∧ l < hi ∧ numOf x.1 = K xs l := by
  obtain ⟨i, hi', he⟩ := List.getElem_of_mem h
  rw [Array.length_toList] at hi'
  have h2 : i < hi - lo := by rw [Array.size_extract, Nat.min_eq_left hh] at hi'; exact hi'
  refine ⟨lo + i, Nat.le_add_right _ _, Nat.add_lt_of_lt_sub' h2, ?_⟩
  rw [← he, ← K_ext h2 hh, K_eq hi', Array.getElem_toList]
theorem merged_mem {xs r : Array Keyed} {sa sb e : Nat} (h1 : sa ≤ sb) (h2 : sb ≤ e) (h3 : e ≤ xs.size) (hm : Merged (xs.extract sa sb) (xs.extract sb e) r) {j : Nat} (hj : j < r.size) : ∃ l, sa ≤ l ∧ l < e ∧ K r j = K xs l := by
  have hmem : r[j] ∈ (xs.extract sa sb).toList ++ (xs.extract sb e).toList := hm.perm.mem_iff.mp (by rw [← Array.getElem_toList]; exact List.getElem_mem _)
  rw [K_eq hj]
  rcases List.mem_append.mp hmem with q | q
  · obtain ⟨l, l1, l2, l3⟩ := ext_mem (Nat.le_trans h2 h3) q
    exact ⟨l, l1, Nat.lt_of_lt_of_le l2 h2, l3⟩
  · obtain ⟨l, l1, l2, l3⟩ := ext_mem h3 q
    exact ⟨l, Nat.le_trans h1 l1, l2, l3⟩
theorem lay_asc {xs r : Array Keyed} {lo sa sb e hi : Nat} (h0 : lo ≤ sa) (h1 : sa ≤ sb) (h2 : sb ≤ e) (h4 : e ≤ hi) (h3 : hi ≤ xs.size) (hm : Merged (xs.extract sa sb) (xs.extract sb e) r)
    (a1 : ∀ i j, lo ≤ i → i ≤ j → i < sa → j < hi → K xs i ≤ K xs j) (a2 : ∀ i j, lo ≤ i → i ≤ j → e ≤ j → j < hi → K xs i ≤ K xs j) : Asc (layFrom sa r.toList 0 xs) lo hi ∧ Off (layFrom sa r.toList 0 xs) xs lo hi := by
  have h5 := Nat.le_trans h4 h3
  have h6 := Nat.le_trans h1 h2
  have hs := merged_size h1 h2 h5 hm
  have hk := K_lay (xs := xs) hs h6 h5
  have ar := asc_all hm.sorted
  refine ⟨fun i j i1 i2 i3 => ?_, fun k h => ?_⟩
  · rw [hk, hk]
    by_cases q : i < sa
    · rw [if_neg fun z => Nat.not_le.mpr q z.1]
      by_cases z : sa ≤ j ∧ j < e
      · rw [if_pos z]
        obtain ⟨l, l1, l2, l3⟩ := merged_mem h1 h2 h5 hm (j := j - sa) (by rw [hs]; exact Nat.sub_lt_sub_right z.1 z.2)
        rw [l3]
        exact a1 i l i1 (Nat.le_trans (Nat.le_of_lt q) l1) q (Nat.lt_of_lt_of_le l2 h4)
      · rw [if_neg z]
        exact a1 i j i1 i2 q i3
    · have q1 := Nat.le_of_not_lt q
      have q2 := Nat.le_trans q1 i2
      by_cases z : j < e
      · rw [if_pos ⟨q1, Nat.lt_of_le_of_lt i2 z⟩, if_pos ⟨q2, z⟩]
        exact ar _ _ (Nat.zero_le _) (Nat.sub_le_sub_right i2 _) (by rw [hs]; exact Nat.sub_lt_sub_right q2 z)
      · have z1 := Nat.le_of_not_lt z
        rw [if_neg fun y : sa ≤ j ∧ j < e => z y.2]
        by_cases y : i < e
        · rw [if_pos ⟨q1, y⟩]
          obtain ⟨l, l1, l2, l3⟩ := merged_mem h1 h2 h5 hm (j := i - sa) (by rw [hs]; exact Nat.sub_lt_sub_right q1 y)
          rw [l3]
          exact a2 l j (Nat.le_trans h0 l1) (Nat.le_trans (Nat.le_of_lt l2) z1) z1 i3
        · rw [if_neg fun x : sa ≤ i ∧ i < e => y x.2]
          exact a2 i j i1 i2 z1 i3
  · rw [hk, if_neg]
    rintro ⟨x, y⟩
    rcases h with h | h
    · exact Nat.not_le.mpr (Nat.lt_of_lt_of_le h h0) x
    · exact Nat.not_le.mpr y (Nat.le_trans h4 h)
theorem low_of {xs : Array Keyed} {sa sb e k : Nat} (c1 : Asc xs sa sb) (c2 : Asc xs sb e) (ky : ∀ i, i < k → K xs (sa + i) ≤ K xs sb) (i j : Nat) (i1 : sa ≤ i) (i2 : i ≤ j) (i3 : i < sa + k) (i4 : j < e) : K xs i ≤ K xs j := by
  by_cases q : j < sb
  · exact c1 i j i1 i2 q
  · have h := ky (i - sa) (Nat.sub_lt_left_of_lt_add i1 i3)
    rw [Nat.add_sub_cancel' i1] at h
    exact Int.le_trans h (c2 sb j (Nat.le_refl _) (Nat.le_of_not_lt q) i4)
theorem high_of {xs : Array Keyed} {sa sb e m : Nat} (c1 : Asc xs sa sb) (c2 : Asc xs sb e) (hab : sa < sb) (kn : ∀ i, m ≤ i → sb + i < e → K xs (sb - 1) ≤ K xs (sb + i)) (i j : Nat) (i1 : sa ≤ i) (i2 : i ≤ j) (i3 : sb + m ≤ j) (i4 : j < e) : K xs i ≤ K xs j := by
  by_cases q : i < sb
  · have hj : sb ≤ j := Nat.le_trans (Nat.le_add_right _ _) i3
    have h := kn (j - sb) (Nat.le_sub_of_add_le' i3) (by rw [Nat.add_sub_cancel' hj]; exact i4)
    rw [Nat.add_sub_cancel' hj] at h
    exact Int.le_trans (c1 i (sb - 1) i1 (Nat.le_sub_one_of_lt q) (Nat.sub_lt (Nat.zero_lt_of_lt hab) Nat.one_pos)) h
  · exact c2 i j (Nat.le_of_not_lt q) i2 i4
theorem mIn_of {xs : Array Keyed} {sa sb e : Nat} (hx : ∀ i (h : i < xs.size), IsK xs[i]) (h1 : sa < sb) (h2 : sb < e) (h3 : e ≤ xs.size) (c1 : Asc xs sa sb) (c2 : Asc xs sb e) (k1 : K xs sb < K xs sa) (k2 : K xs (e - 1) < K xs (sb - 1)) : MIn (xs.extract sa sb) (xs.extract sb e) := by
  have la : (xs.extract sa sb).size = sb - sa := by rw [Array.size_extract, Nat.min_eq_left (Nat.le_trans (Nat.le_of_lt h2) h3)]
  have lb : (xs.extract sb e).size = e - sb := by rw [Array.size_extract, Nat.min_eq_left h3]
  have pa := Nat.sub_pos_of_lt h1
  have pb := Nat.sub_pos_of_lt h2
  have hs := Nat.le_trans (Nat.le_of_lt h2) h3
  refine ⟨by rw [la]; exact pa, by rw [lb]; exact pb, fun i h => by rw [Array.getElem_extract]; exact hx _ _, fun i h => by rw [Array.getElem_extract]; exact hx _ _, c1.list hs, c2.list h3, ?_, ?_⟩
  · rw [K_ext pa hs, K_ext pb h3]; exact k1
  · rw [la, lb, K_ext (Nat.sub_lt pa Nat.one_pos) hs, K_ext (Nat.sub_lt pb Nat.one_pos) h3, ← Nat.add_sub_assoc pa, ← Nat.add_sub_assoc pb, Nat.add_sub_cancel' (Nat.le_of_lt h1), Nat.add_sub_cancel' (Nat.le_of_lt h2)]
    exact k2

section
variable {prog : Program} {w : World} {A : Around} {E : Value → Shared → Prop} {s : Shared} {a₀ : Array Keyed}
theorem wpS_set {M : Model} {σ : Type} {x st : σ} {Q : PUnit → σ → Prop} (h : Q ⟨⟩ x) : wpS M A E s (set x : StateT σ Sem PUnit) Q st := by
  unfold wpS; rw [StateT.run_set]; exact wpAny_pure ⟨rfl, h⟩
theorem TB.isK {st : SortSt} (hB : TB a₀ st) (h0 : IntKeys a₀) (i : Nat) (h : i < (arrOf st).size) : IsK (arrOf st)[i] := by
  obtain ⟨t, q, e⟩ := hB.at h0 (hB.size ▸ h)
  rw [getElem?_pos _ i h] at e
  exact ⟨_, t, congrArg Prod.fst (Option.some.inj e)⟩

theorem wpS_either {M : Model} {σ α β : Type} {jp : β → StateT σ Sem α} {c : Prop} [Decidable c] {m n : StateT σ Sem β} {P : β → σ → Prop} {Q : α → σ → Prop} {st : σ} (hm : wpS M A E s m P st) (hn : wpS M A E s n P st) (hj : ∀ r st', P r st' → wpS M A E s (jp r) Q st') :
    wpS M A E s (if c then m >>= jp else n >>= jp) Q st :=
  wpS_if' (fun z_ => wpS_bind (wpS_mono hm hj)) fun z_ => wpS_bind (wpS_mono hn hj)
theorem mergeAt_T {st : SortSt} {i sa na pw sb nb pw2 : Nat} {Q : Bool → SortSt → Prop} (h0 : IntKeys a₀) (hB : TB a₀ st) (e1 : (pendingOf st)[i]? = some (sa, na, pw)) (e2 : (pendingOf st)[i + 1]? = some (sb, nb, pw2))
    (hab : sb = sa + na) (n1 : 1 ≤ na) (n2 : 1 ≤ nb) (hb : sb + nb ≤ a₀.size) (c1 : Asc (arrOf st) sa sb) (c2 : Asc (arrOf st) sb (sb + nb))
    (h : ∀ xs g, xs.Perm (arrOf st) → Off xs (arrOf st) sa (sb + nb) → Asc xs sa (sb + nb) → Q true (SortSt.mk' (kindOf st) xs (((pendingOf st).setIfInBounds i (sa, na + nb, pw)).eraseIdxIfInBounds (i + 1)) g (failedOf st))) :
    wpS (model prog w) A E s (mergeAt' i) Q st := by
  have hk := hB.kind
  have hx := hB.isK h0
  have hsz : sb + nb ≤ (arrOf st).size := by rw [hB.size]; exact hb
  have fe : Option.isNone (failedOf st) = true := by rw [hB.failed]; rfl
  clear hB h0 hb
  refine wpS_bind (wpS_get ?_)
  erw [e1, e2]
  clear e1 e2
  dsimp -zeta -zetaHave only
  refine wpS_bind (wpS_set ?_)
  subst hab
  have hsb : sa + na < (arrOf st).size := Nat.lt_of_lt_of_le (Nat.lt_add_of_pos_right n2) hsz
  have hab : sa < sa + na := Nat.lt_add_of_pos_right n1
  refine right_T (xs := arrOf st) hk hx hsb (hx _ _) (Nat.le_of_lt hsb) c1 n1 fun k kle ky kn => ?_
  have low := low_of c1 c2 ky
  dsimp -zeta -zetaHave only
  refine wpS_if size_eq (fun k1 => wpS_pure (h _ (gallopOf st) (Array.Perm.refl _) Off.refl fun i j i1 i2 i3 => ?_)) fun k1 => ?_
  · have e : k = na := Nat.le_antisymm kle (Nat.sub_eq_zero_iff_le.mp k1)
    rw [e] at low
    by_cases q : i < sa + na
    · exact low i j i1 i2 q i3
    · exact c2 i j (Nat.le_of_not_lt q) i2 i3
  have kl : k < na := Nat.lt_of_le_of_ne kle fun z => k1 (by rw [z, Nat.sub_self])
  have ela : sa + k + (na - k) - 1 = sa + na - 1 := by rw [Nat.add_assoc, Nat.add_sub_cancel' kle]
  have hla : sa + k + (na - k) - 1 < (arrOf st).size := by rw [ela]; exact Nat.lt_of_le_of_lt (Nat.sub_le _ _) hsb
  refine left_T (xs := arrOf st) hk hx hla (hx _ _) hsz c2 (Nat.sub_lt n2 Nat.one_pos) fun m mle my mn => ?_
  simp only [ela] at my mn
  have high := high_of c1 c2 hab fun i i1 i2 => mn i i1 (Nat.lt_of_add_lt_add_left i2)
  dsimp -zeta -zetaHave only
  refine wpS_if size_eq (fun m1 => wpS_pure (h _ (gallopOf st) (Array.Perm.refl _) Off.refl fun i j i1 i2 i3 => ?_)) fun m1 => ?_
  · rw [m1] at high
    by_cases q : j < sa + na
    · exact c1 i j i1 i2 q
    · exact high i j i1 i2 (Nat.le_of_not_lt q) i3
  have mp : 0 < m := Nat.pos_of_ne_zero m1
  have sk : sa + k < sa + na := Nat.add_lt_add_left kl _
  have se : sa + na < sa + na + m := Nat.lt_add_of_pos_right mp
  have em : sa + na + m ≤ sa + na + nb := Nat.add_le_add_left mle _
  have es := Nat.le_trans em hsz
  have I : MIn ((arrOf st).extract (sa + k) (sa + na)) ((arrOf st).extract (sa + na) (sa + na + m)) :=
    mIn_of hx sk se es (c1.sub (Nat.le_add_right _ _) (Nat.le_refl _)) (c2.sub (Nat.le_refl _) em) (kn k (Nat.le_refl _) kl) (by rw [Nat.add_sub_assoc mp]; exact my _ (Nat.sub_lt mp Nat.one_pos))
  extract_lets x y jp
  refine wpS_either (jp := jp) (P := fun r st' => (∃ g, st' = SortSt.mk' (kindOf st) (arrOf st) (((pendingOf st).setIfInBounds i (sa, na + nb, pw)).eraseIdxIfInBounds (i + 1)) g (failedOf st)) ∧ Merged x y r) (mergeLo_T hk I fun r g hm => ⟨⟨g, rfl⟩, hm⟩) (mergeHi_T hk I fun r g hm => ⟨⟨g, rfl⟩, hm⟩) ?_
  rintro r _ ⟨⟨g, rfl⟩, hm⟩
  refine wpS_bind (wpS_modify (wpS_bind (wpS_get (wpS_pure ?_))))
  show Q (Option.isNone (failedOf st)) _
  rw [fe]
  obtain ⟨q1, q2⟩ := lay_asc (lo := sa) (hi := sa + na + nb) (Nat.le_add_right _ _) (Nat.le_of_lt sk) (Nat.le_of_lt se) em hsz hm low high
  exact h _ g (lay_perm (Nat.le_of_lt sk) (Nat.le_of_lt se) es hm) q2 q1
end
end Mine
end

section
set_option tactic.hygienic false
open PySem PyProof.Rows
set_option linter.unusedVariables false
namespace Mine

noncomputable def Runs (xs : Array Keyed) : List (Nat × Nat × Nat) → Nat → Nat → Prop
  | [], a, b => a = b
  | r :: l, a, b => r.1 = a ∧ 1 ≤ r.2.1 ∧ Asc xs a (a + r.2.1) ∧ Runs xs l (a + r.2.1) b
theorem Runs.len {xs : Array Keyed} {l : List (Nat × Nat × Nat)} : ∀ {a b : Nat}, Runs xs l a b → a + l.length ≤ b := by
  induction l with
  | nil => exact fun h => Nat.le_of_eq h
  | cons r l ih => exact fun ⟨_, h1, _, h⟩ => Nat.le_trans (by rw [List.length_cons, Nat.add_comm l.length 1, ← Nat.add_assoc]; exact Nat.add_le_add_right (Nat.add_le_add_left h1 _) _) (ih h)
theorem Runs.same {xs ys : Array Keyed} {l : List (Nat × Nat × Nat)} : ∀ {a b : Nat}, Runs xs l a b → (∀ k, a ≤ k → k < b → K ys k = K xs k) → Runs ys l a b := by
  induction l with
  | nil => exact fun h z_ => h
  | cons r l ih =>
    intro a b ⟨h0, h1, h2, h⟩ e
    have hl := Nat.le_trans (Nat.le_add_right _ _) h.len
    exact ⟨h0, h1, fun i j i1 i2 i3 => by rw [e i i1 (Nat.lt_of_lt_of_le (Nat.lt_of_le_of_lt i2 i3) hl), e j (Nat.le_trans i1 i2) (Nat.lt_of_lt_of_le i3 hl)]; exact h2 i j i1 i2 i3, ih h fun k k1 k2 => e k (Nat.le_trans (Nat.le_add_right _ _) k1) k2⟩
theorem Runs.snoc {xs : Array Keyed} {n p : Nat} {l : List (Nat × Nat × Nat)} : ∀ {a b : Nat}, Runs xs l a b → 1 ≤ n → Asc xs b (b + n) → Runs xs (l ++ [(b, n, p)]) a (b + n) := by
  induction l with
  | nil =>
    intro a b h h1 h2
    have e : a = b := h
    subst e
    exact ⟨rfl, h1, h2, rfl⟩
  | cons r l ih => exact fun ⟨g0, g1, g2, h⟩ h1 h2 => ⟨g0, g1, g2, ih h h1 h2⟩
theorem Runs.modify {xs : Array Keyed} {pw : Nat} {l : List (Nat × Nat × Nat)} : ∀ {a b i : Nat}, Runs xs l a b → Runs xs (l.modify i fun (st, len, _) => (st, len, pw)) a b := by
  induction l with
  | nil => intro a b i h; cases i <;> exact h
  | cons r l ih =>
    intro a b i h
    cases i with
    | zero => exact h
    | succ i => exact ⟨h.1, h.2.1, h.2.2.1, ih h.2.2.2⟩
structure Two (xs : Array Keyed) (r1 r2 : Nat × Nat × Nat) (a b : Nat) : Prop where
  next : r2.1 = r1.1 + r1.2.1
  n1 : 1 ≤ r1.2.1
  n2 : 1 ≤ r2.2.1
  c1 : Asc xs r1.1 r2.1
  c2 : Asc xs r2.1 (r2.1 + r2.2.1)
  lo : a ≤ r1.1
  hi : r2.1 + r2.2.1 ≤ b
theorem Runs.two {xs : Array Keyed} {r1 r2 : Nat × Nat × Nat} {l : List (Nat × Nat × Nat)} : ∀ {a b i : Nat}, Runs xs l a b → l[i]? = some r1 → l[i + 1]? = some r2 → Two xs r1 r2 a b := by
  induction l with
  | nil => intro a b i _ e; cases e
  | cons r l ih =>
    intro a b i h e1 e2
    cases i with
    | zero =>
      cases l with
      | nil => cases e2
      | cons q l =>
        obtain ⟨g0, g1, g2, k0, k1, k2, h⟩ := h
        cases e1; cases e2
        subst g0
        exact ⟨k0, g1, k1, by rw [k0]; exact g2, by rw [k0]; exact k2, Nat.le_refl _, by rw [k0]; exact Nat.le_trans (Nat.le_add_right _ _) h.len⟩
    | succ i =>
      have t := ih h.2.2.2 e1 e2
      exact ⟨t.next, t.n1, t.n2, t.c1, t.c2, Nat.le_trans (Nat.le_add_right _ _) t.lo, t.hi⟩
theorem Runs.join {xs ys : Array Keyed} {r1 r2 : Nat × Nat × Nat} {pw : Nat} {l : List (Nat × Nat × Nat)} : ∀ {a b i : Nat}, Runs xs l a b → l[i]? = some r1 → l[i + 1]? = some r2 → Off ys xs r1.1 (r2.1 + r2.2.1) → Asc ys r1.1 (r2.1 + r2.2.1) →
    Runs ys ((l.set i (r1.1, r1.2.1 + r2.2.1, pw)).eraseIdx (i + 1)) a b := by
  induction l with
  | nil => intro a b i _ e; cases e
  | cons r l ih =>
    intro a b i h e1 e2 ho hs
    cases i with
    | zero =>
      cases l with
      | nil => cases e2
      | cons q l =>
        obtain ⟨g0, g1, g2, k0, k1, k2, h⟩ := h
        cases e1; cases e2
        subst g0
        have e : r1.1 + (r1.2.1 + r2.2.1) = r2.1 + r2.2.1 := by rw [k0, Nat.add_assoc]
        refine ⟨rfl, Nat.le_trans g1 (Nat.le_add_right _ _), e.symm ▸ hs, ?_⟩
        show Runs ys l (r1.1 + (r1.2.1 + r2.2.1)) b
        rw [← Nat.add_assoc]
        exact h.same fun k k1 k2 => ho k (.inr (k0 ▸ k1))
    | succ i =>
      have tl := (Runs.two h.2.2.2 e1 e2).lo
      exact ⟨h.1, h.2.1, fun x y x1 x2 x3 => by rw [ho x (.inl (Nat.lt_of_lt_of_le (Nat.lt_of_le_of_lt x2 x3) tl)), ho y (.inl (Nat.lt_of_lt_of_le x3 tl))]; exact h.2.2.1 x y x1 x2 x3, ih h.2.2.2 e1 e2 ho hs⟩
theorem Runs.one {xs : Array Keyed} {l : List (Nat × Nat × Nat)} {a b : Nat} (h : Runs xs l a b) (h1 : l.length ≤ 1) : Asc xs a b := by
  cases l with
  | nil =>
    have e : a = b := h
    exact Asc.one (by (first | (subst_vars; lia) | lia | omega))
  | cons r l =>
    cases l with
    | nil =>
      obtain ⟨_, _, h2, e⟩ := h
      have e : a + r.2.1 = b := e
      rw [← e]; exact h2
    | cons _ _ => simp at h1

section
variable {prog : Program} {w : World} {A : Around} {E : Value → Shared → Prop} {s : Shared} {a₀ : Array Keyed}
structure Tl (a₀ : Array Keyed) (st : SortSt) (lo : Nat) : Prop where
  tb : TB a₀ st
  runs : Runs (arrOf st) (pendingOf st).toList 0 lo
theorem mergeAt_R {st : SortSt} {i lo : Nat} {Q : Bool → SortSt → Prop} (h0 : IntKeys a₀) (hB : Tl a₀ st lo) (hlo : lo ≤ a₀.size) (hi : i + 1 < (pendingOf st).size)
    (h : ∀ st', Tl a₀ st' lo → Off (arrOf st') (arrOf st) 0 lo → (pendingOf st').size + 1 = (pendingOf st).size → Q true st') : wpS (model prog w) A E s (mergeAt' i) Q st := by
  have hl : (pendingOf st).toList.length = (pendingOf st).size := Array.length_toList
  obtain ⟨⟨sa, na, pw⟩, e1⟩ : ∃ r, (pendingOf st)[i]? = some r := ⟨_, getElem?_pos _ i (by (first | exact Nat.le_of_lt (by assumption) | lia | omega))⟩
  obtain ⟨⟨sb, nb, pw2⟩, e2⟩ : ∃ r, (pendingOf st)[i + 1]? = some r := ⟨_, getElem?_pos _ (i + 1) hi⟩
  have f1 := e1
  have f2 := e2
  rw [← Array.getElem?_toList] at f1 f2
  have t := hB.runs.two f1 f2
  have hh : sb + nb ≤ lo := t.hi
  refine mergeAt_T h0 hB.tb e1 e2 t.next t.n1 t.n2 (Nat.le_trans hh hlo) t.c1 t.c2 fun xs g hp ho hs => ?_
  refine h _ ⟨⟨hp.trans hB.tb.perm, hB.tb.kind, hB.tb.failed⟩, ?_⟩ (ho.wide (Nat.zero_le _) hh) ?_
  · show Runs xs (((pendingOf st).setIfInBounds i (sa, na + nb, pw)).eraseIdxIfInBounds (i + 1)).toList 0 lo
    rw [Array.toList_eraseIdxIfInBounds, Array.toList_setIfInBounds]
    exact hB.runs.join f1 f2 ho hs
  · show (((pendingOf st).setIfInBounds i (sa, na + nb, pw)).eraseIdxIfInBounds (i + 1)).size + 1 = _
    rw [← Array.length_toList, Array.toList_eraseIdxIfInBounds, Array.toList_setIfInBounds, List.length_eraseIdx, List.length_set, hl, if_pos hi]
    (first | lia | omega)
end
end Mine
end

section
set_option tactic.hygienic false
open PySem PyProof.Rows
set_option linter.unusedVariables false
namespace Mine
section
variable {prog : Program} {w : World} {A : Around} {E : Value → Shared → Prop} {s : Shared} {a₀ : Array Keyed}
theorem Tl.push {st : SortSt} {lo n pw : Nat} (h : Tl a₀ st lo) (h1 : 1 ≤ n) (hs : Asc (arrOf st) lo (lo + n)) : Tl a₀ (setPending st ((pendingOf st).push (lo, n, pw))) (lo + n) :=
  ⟨⟨h.tb.perm, h.tb.kind, h.tb.failed⟩, by show Runs (arrOf st) ((pendingOf st).push (lo, n, pw)).toList 0 (lo + n); rw [Array.toList_push]; exact h.runs.snoc h1 hs⟩
theorem Tl.power {st : SortSt} {lo pw : Nat} (h : Tl a₀ st lo) : Tl a₀ (setPending st ((pendingOf st).modify ((pendingOf st).size - 1) fun (st, len, _) => (st, len, pw))) lo :=
  ⟨⟨h.tb.perm, h.tb.kind, h.tb.failed⟩, by
    show Runs (arrOf st) ((pendingOf st).modify ((pendingOf st).size - 1) fun (st, len, _) => (st, len, pw)).toList 0 lo
    rw [Array.toList_modify]; exact h.runs.modify⟩
theorem Tl.arr {st : SortSt} {lo hi : Nat} {xs : Array Keyed} (h : Tl a₀ st lo) (hp : xs.Perm (arrOf st)) (ho : Off xs (arrOf st) lo hi) : Tl a₀ (setArr st xs) lo :=
  ⟨h.tb.set hp, h.runs.same fun k z_ k2 => ho k (.inl k2)⟩

theorem less_le (p : Bool) (a : Nat) : (if p = true then a - 1 else a) ≤ a := by cases p <;> simp

theorem wpS_meetS {M : Model} {σ α δ : Type} {jp : PUnit → δ → StateT σ Sem α} {m : StateT σ Sem α} {Q : α → σ → Prop} {st : σ} (P : δ → σ → Prop) (h : ∀ d st', P d st' → wpS M A E s (jp ⟨⟩ d) Q st') (k : (∀ d st', P d st' → wpS M A E s (jp ⟨⟩ d) Q st') → wpS M A E s m Q st) : wpS M A E s m Q st := k h

theorem sortRuns_T {st : SortSt} {Q : Unit → SortSt → Prop} (h0 : IntKeys a₀) (hB : SBase a₀ st)
    (h : ∀ st', (arrOf st').Perm a₀ → failedOf st' = none → SortedTo (arrOf st') a₀.size → Q () st') : wpS (model prog w) A E s sortRuns' Q st := by
  rw [sortRuns'_eq]
  refine wpS_bind (wpS_get ?_)
  dsimp -zeta -zetaHave only
  simp -zeta -zetaHave only [hB.size]
  refine wpS_bind (wpS_mono (wpS_forRange (I := fun x c st' => ∃ lo, c = (none, lo) ∧ x ≤ lo ∧ lo ≤ a₀.size ∧ Tl a₀ st' lo)
    (Q := fun c st' => c = (none, a₀.size) ∧ Tl a₀ st' a₀.size) ?step ?fin ⟨0, rfl, Nat.le_refl _, Nat.zero_le _, ⟨hB.perm, hB.kind, hB.failed⟩, by rw [hB.pend]; rfl⟩) ?post)
  case fin =>
    rintro c st' ⟨lo, rfl, h1, h2, hT⟩
    have e : lo = a₀.size := by (first | lia | omega)
    subst e
    exact ⟨rfl, hT⟩
  case step =>
    rintro x c st' _ hx ⟨lo, rfl, l1, l2, T1⟩
    dsimp -zeta -zetaHave only
    by_cases q : lo ≥ a₀.size
    · rw [if_pos q]
      have e : lo = a₀.size := by (first | lia | omega)
      subst e
      exact wpS_pure ⟨rfl, T1⟩
    rw [if_neg q]
    refine wpS_bind (runG h0 (by (first | lia | omega)) (by (first | lia | omega)) T1.tb fun m xs hr => ?_)
    dsimp -zeta -zetaHave only
    have T2 := T1.arr hr.perm hr.off
    have m1 := hr.m1
    have m2 := hr.m2
    extract_lets n1 jp force n2
    refine wpS_meetS (jp := jp) (fun n st3 => Tl a₀ st3 lo ∧ 1 ≤ n ∧ lo + n ≤ a₀.size ∧ Asc (arrOf st3) lo (lo + n)) ?_ (fun hj => ?_)
    · rintro n st3 ⟨T3, n3, hn, A3⟩
      refine wpS_bind (wpS_get ?_)
      extract_lets jp2
      cases hb : (pendingOf st3).back? with
      | none => exact wpS_bind (wpS_modify (wpS_pure ⟨_, rfl, by (first | lia | omega), hn, T3.push n3 A3⟩))
      | some r =>
        obtain ⟨s1, n1, z⟩ := r
        dsimp -zeta -zetaHave only
        extract_lets pw
        refine wpS_bind (wpS_mono (wpS_forRange (I := fun z_ c st4 => c = (none, ()) ∧ Tl a₀ st4 lo ∧ Off (arrOf st4) (arrOf st3) 0 lo) (Q := fun c st4 => c = (none, ()) ∧ Tl a₀ st4 lo ∧ Off (arrOf st4) (arrOf st3) 0 lo) ?_ (fun z_ z_ hh => hh) ⟨rfl, T3, Off.refl⟩) ?_)
        · rintro y c st4 _ _ ⟨rfl, T4, O4⟩
          refine wpS_bind (wpS_get ?_)
          extract_lets p
          by_cases q : p.size > 1
          · rw [if_pos q]
            have hp : p = pendingOf st4 := rfl
            obtain ⟨⟨u1, u2, older⟩, e⟩ : ∃ r, p[p.size - 2]? = some r := ⟨_, getElem?_pos _ _ (by (first | lia | omega))⟩
            rw [e]
            dsimp only
            by_cases z : older ≤ pw
            · rw [if_pos z]
              exact wpS_pure ⟨rfl, T4, O4⟩
            · rw [if_neg z]
              refine wpS_bind (mergeAt_R h0 T4 (by omega) (by rw [← hp]; (first | lia | omega)) fun st5 T5 O5 z_ => ?_)
              simp only [Bool.not_true, Bool.false_eq_true, if_false]
              exact wpS_pure ⟨rfl, T5, O5.trans O4⟩
          · rw [if_neg q]
            exact wpS_pure ⟨rfl, T4, O4⟩
        · rintro c st4 ⟨rfl, T4, O4⟩
          refine wpS_bind (wpS_modify (wpS_bind (wpS_modify (wpS_pure ⟨_, rfl, by (first | lia | omega), hn, (T4.power).push n3 ?_⟩))))
          intro i j i1 i2 i3
          show K (arrOf st4) i ≤ K (arrOf st4) j
          rw [O4 i (.inr i1), O4 j (.inr (by (first | exact Nat.le_trans (by assumption) (by assumption) | lia | omega)))]
          exact A3 i j i1 i2 i3
    · by_cases hm : n1 < minRun' a₀.size a₀.size 0
      · rw [if_pos hm]
        refine wpS_bind (wpS_lift (wpAny_rule ⟨rfl, ?_⟩))
        have hf : force = min (a₀.size - lo) (minRun' a₀.size a₀.size 0) := rfl
        have hn1 : n1 = m := rfl
        refine wpS_bind (binG h0 (by (first | lia | omega)) (by (first | (clear hn1 hf hj T2 hr q T1 l2 l1 hx h hB h0; lia) | lia | omega)) T2.tb hr.asc fun ys p2 o2 s2 => ?_)
        simp only [Bool.not_true, Bool.false_eq_true, if_false]
        exact hj _ _ ⟨T2.arr p2 o2, by (first | (clear s2 o2 p2 hn1 hf hj T2 hr T1 l2 l1 hx h hB h0 m2 m1; lia) | lia | omega), by (first | lia | omega), s2⟩
      · rw [if_neg hm]
        exact hj _ _ ⟨T2, m1, by (first | lia | omega), hr.asc⟩
  case post =>
    rintro c st' ⟨rfl, hT⟩
    dsimp only
    have hl := hT.runs.len
    rw [Array.length_toList] at hl
    refine wpS_bind (wpS_mono (wpS_forRange (I := fun x c st'' => c = (none, ()) ∧ Tl a₀ st'' a₀.size ∧ (pendingOf st'').size + x ≤ a₀.size) (Q := fun c st'' => c = (none, ()) ∧ Tl a₀ st'' a₀.size ∧ (pendingOf st'').size ≤ 1) ?_ ?_ ⟨rfl, hT, by (first | lia | omega)⟩) ?_)
    · rintro x c st2 _ hx ⟨rfl, T2, hsz⟩
      refine wpS_bind (wpS_get ?_)
      by_cases q : (pendingOf st2).size ≤ 1
      · rw [if_pos q]
        exact wpS_pure ⟨rfl, T2, q⟩
      · rw [if_neg q]
        refine wpS_bind (mergeAt_R h0 T2 (Nat.le_refl _) ?_ fun st3 T3 z_ e3 => ?_)
        · exact Nat.lt_of_le_of_lt (Nat.succ_le_succ (less_le _ _)) (by (first | lia | omega))
        · simp only [Bool.not_true, Bool.false_eq_true, if_false]
          exact wpS_pure ⟨rfl, T3, by (first | lia | omega)⟩
    · rintro c st2 ⟨rfl, T2, hsz⟩
      exact ⟨rfl, T2, by (first | lia | omega)⟩
    · rintro c st2 ⟨rfl, T2, hsz⟩
      refine wpS_pure (h _ T2.tb.perm T2.tb.failed fun i j hij hj => (T2.runs.one ?_) i j (Nat.zero_le _) hij hj)
      rw [Array.length_toList]; exact hsz
end
end Mine
end

section
set_option tactic.hygienic false
open PySem PyProof.Rows
set_option linter.unusedVariables false
set_option maxRecDepth 100000
namespace Mine
section
variable {prog : Program} {w : World} {A : Around} {E : Value → Shared → Prop} {s : Shared}

theorem zip_self {vs : List Value} : (vs.toArray.zip vs.toArray).map (·.2) = vs.toArray := by
  apply Array.ext
  · simp
  · intro i h1 h2; simp
theorem sort_core {a : Addr} {vs : List Value} {n : Nat} {G : Array Value → Prop} {P : Fin → Shared → Prop} (ho : s.heap.get? a = some (seqObj "list" vs.toArray n)) (hn : vs.length ≤ 100000)
    (h1 : vs.length < 2 → G vs.toArray)
    (h2 : ¬ vs.length < 2 → ∀ h', (∀ b o, b ≠ a → s.heap.get? b = some o → h'.get? b = some o) → wpAny (model prog w) A (keyKind' vs.toArray) (fun κ s' => s' = { s with heap := h' } ∧
      wpS (model prog w) A (fun z_ z_ => False) s' sortRuns' (fun z_ st' => failedOf st' = none ∧ (arrOf st').size = vs.length ∧ G ((arrOf st').map (·.2))) (SortSt.mk' κ (vs.toArray.zip vs.toArray) #[] 7 none)) (fun z_ z_ => False) { s with heap := h' })
    (h : ∀ out, G out → P (.done (.ret .none)) { s with heap := sortedHeap s.heap a vs out }) : wpAny (model prog w) A (Builtin.«list.sort» ⟨[.ref a], []⟩) P E s := by
  rw [list_sort_plain]
  have hsl : vs.toArray.size ≤ sizeLine := by rw [List.size_toArray, sizeLine_eq]; exact Nat.le_trans hn (Nat.le_of_ble_eq_true rfl)
  have ha : a < s.heap.objs.size := Heap.lt_size ho
  refine wpAny_bind (listItems_at ho rfl ?_)
  refine wpAny_bind (listUpdate_at ho rfl ?_ hsl (Nat.zero_le _))
  obtain ⟨e1, ho1⟩ : ∃ e1, (s.heap.update a (Obj.mapSeq fun z_ => #[])).get? a = some (seqObj "list" #[] e1) := ⟨_, get?_update_seq ho (fun z_ => #[])⟩
  refine wpAny_bind (seqEpoch_at ho1 rfl ?_)
  refine wpAny_bind (wpAny_newTuple ?_ hsl)
  refine wpAny_bind (wpAny_newList ?_ (Nat.zero_le _))
  refine wpAny_holding ?_
  have keep : ∀ b o, b ≠ a → s.heap.get? b = some o → (((s.heap.update a (Obj.mapSeq fun z_ => #[])).push (seqObj "tuple" vs.toArray 0)).push (seqObj "list" #[] 0)).get? b = some o := fun b o hb q =>
    Heap.get?_push_of_some _ (Heap.get?_push_of_some _ (by rw [Heap.get?_update_ne _ _ _ _ hb]; exact q))
  have ho6 : (((s.heap.update a (Obj.mapSeq fun z_ => #[])).push (seqObj "tuple" vs.toArray 0)).push (seqObj "list" #[] 0)).get? a = some (seqObj "list" #[] e1) := Heap.get?_push_of_some _ (Heap.get?_push_of_some _ ho1)
  show wpAny (model prog w) A _ P E { s with heap := ((s.heap.update a (Obj.mapSeq fun z_ => #[])).push (seqObj "tuple" vs.toArray 0)).push (seqObj "list" #[] 0) }
  have h : ∀ out, G out → P (.done (.ret .none)) { s with heap := (((s.heap.update a (Obj.mapSeq fun z_ => #[])).push (seqObj "tuple" vs.toArray 0)).push (seqObj "list" #[] 0)).update a (Obj.mapSeq fun z_ => out) } := h
  generalize ((s.heap.update a (Obj.mapSeq fun z_ => #[])).push (seqObj "tuple" vs.toArray 0)).push (seqObj "list" #[] 0) = h6 at *
  dsimp only
  have fin : ∀ st' : SortSt, G ((arrOf st').map (·.2)) → (arrOf st').size = vs.length → failedOf st' = none → wpAny (model prog w) A (do
      let touched := (← seqEpoch a) != e1
      Builtin.List.listUpdate (.ref a) fun z_ => (arrOf st').map (·.2)
      if let some e := failedOf st' then rule "list.sort.comparison-raised"; throw e
      if touched then rule "list.sort.modified"; raiseError "ValueError" "list modified during sort"
      ret .none) P E { s with heap := h6 } := fun st' q1 q3 q2 => by
    rw [q2]
    refine wpAny_bind (seqEpoch_at ho6 rfl ?_)
    refine wpAny_bind (listUpdate_at ho6 rfl ?_ (Nat.zero_le _) (by rw [Array.size_map, q3]; exact Nat.le_succ_of_le hsl))
    simp only [bne_self_eq_false, Bool.false_eq_true, if_false]
    exact wpAny_pure (h _ q1)
  by_cases q : vs.length < 2
  · have q' : vs.toArray.size < 2 := q
    rw [if_pos q', if_pos q']
    refine wpAny_bind (wpAny_pure ?_)
    rw [StateT.run_pure]
    refine wpAny_bind (wpAny_pure ?_)
    exact fin (SortSt.mk' general' (vs.toArray.zip vs.toArray) #[] 7 none) (by show G ((vs.toArray.zip vs.toArray).map (·.2)); rw [zip_self]; exact h1 q) (by show (vs.toArray.zip vs.toArray).size = _; simp) rfl
  · have q' : ¬ vs.toArray.size < 2 := q
    rw [if_neg q', if_neg q']
    refine wpAny_bind (wpAny_mono (h2 q h6 keep) (fun κ s' hk => ?_) fun z_ z_ x => x.elim)
    obtain ⟨rfl, hk⟩ := hk
    refine wpAny_bind (wpAny_mono hk ?_ fun z_ z_ e => e.elim)
    rintro ⟨⟨⟩, st'⟩ s' ⟨rfl, b1, b2, b3⟩
    exact fin st' b3 b2 b1
theorem sorted_core {l : Addr} {vs : List Value} {G : Array Value → Prop} {Q : Value → Shared → Prop} (hl : s.heap.IsList l vs.toArray) (hn : vs.length ≤ 100000)
    (h1 : vs.length < 2 → G vs.toArray)
    (h2 : ¬ vs.length < 2 → ∀ (B : Around) h', (∀ b o, s.heap.get? b = some o → h'.get? b = some o) → wpAny (model prog w) B (keyKind' vs.toArray) (fun κ s' => s' = { s with heap := h' } ∧
      wpS (model prog w) B (fun z_ z_ => False) s' sortRuns' (fun z_ st' => failedOf st' = none ∧ (arrOf st').size = vs.length ∧ G ((arrOf st').map (·.2))) (SortSt.mk' κ (vs.toArray.zip vs.toArray) #[] 7 none)) (fun z_ z_ => False) { s with heap := h' })
    (h : ∀ out, G out → Q (.ref (s.heap.objs.size + 1)) { s with heap := sortedAll s.heap vs out }) : wpAny (model prog w) A (call (.builtin "sorted") [.ref l]) Q E s := by
  have hsl : vs.length ≤ sizeLine := by rw [sizeLine_eq]; exact Nat.le_trans hn (Nat.le_of_ble_eq_true rfl)
  refine PySem.Calls.call_function_entry kind_sorted plain_sorted entry_sorted (args_sorted1 _) ?_
  unfold Builtin.«sorted»
  refine wpAny_bind (m := checkCount "sorted" 1 1 _) (wpAny_pure ?_)
  refine wpAny_bind (collect_list hl ?_ hsl)
  refine wpAny_bind (wpAny_newList ?_ hsl)
  have hsz : ((s.heap.push (seqObj "list" #[] 0)).update s.heap.objs.size (Obj.mapSeq (· ++ vs.toArray))).objs.size = s.heap.objs.size + 1 := by rw [Heap.size_update, size_push']
  have hoL : (((s.heap.push (seqObj "list" #[] 0)).update s.heap.objs.size (Obj.mapSeq (· ++ vs.toArray))).push (seqObj "list" vs.toArray 0)).get? (s.heap.objs.size + 1) = some (seqObj "list" vs.toArray 0) := by
    rw [← hsz]; exact Heap.get?_push_size _ rfl
  have keep : ∀ b o, s.heap.get? b = some o → (((s.heap.push (seqObj "list" #[] 0)).update s.heap.objs.size (Obj.mapSeq (· ++ vs.toArray))).push (seqObj "list" vs.toArray 0)).get? b = some o := fun b o q =>
    Heap.get?_push_of_some _ (by rw [Heap.get?_update_ne _ _ _ _ (Nat.ne_of_lt (Heap.lt_size q))]; exact Heap.get?_push_of_some _ q)
  show wpAny _ _ _ _ _ { s with heap := ((s.heap.push (seqObj "list" #[] 0)).update s.heap.objs.size (Obj.mapSeq (· ++ vs.toArray))).push (seqObj "list" vs.toArray 0) }
  rw [hsz]
  refine wpAny_bind (wpAny_holding (wpAny_call_entry slot_list_sort ⟨_, hoL, rfl⟩ entry_list_sort (sort_core (G := G) hoL hn h1 (fun hge h' hk' => h2 hge _ h' fun b o e => hk' b o (Nat.ne_of_lt (Nat.lt_succ_of_lt (Heap.lt_size e))) (keep b o e)) fun out g => ⟨_, rfl, ?_⟩) (args_list_sort _)))
  exact wpAny_pure ⟨_, rfl, h out g⟩
theorem sortedT {l : Addr} {vs : List Value} {ns : List Int} {Q : Value → Shared → Prop} (hl : s.heap.IsList l vs.toArray) (hI : IntsAre vs ns) (hn : vs.length ≤ 100000)
    (h : ∀ (out : Array Value) (ns' : List Int), IntsAre out.toList ns' → ns'.Perm ns → ns'.Pairwise (· ≤ ·) → Q (.ref (s.heap.objs.size + 1)) { s with heap := sortedAll s.heap vs out }) :
    wpAny (model prog w) A (call (.builtin "sorted") [.ref l]) Q E s := by
  have fin : ∀ xs : Array Keyed, xs.Perm (pairsOf vs) → SortedTo xs (pairsOf vs).size → ∃ ns', IntsAre (xs.map (·.2)).toList ns' ∧ ns'.Perm ns ∧ ns'.Pairwise (· ≤ ·) := fun xs hp hs => by
    obtain ⟨ns', h1, h2, h3⟩ := sorted_out hI hp hs
    exact ⟨ns', h1, h2, h3⟩
  refine sorted_core (G := fun out => ∃ ns', IntsAre out.toList ns' ∧ ns'.Perm ns ∧ ns'.Pairwise (· ≤ ·)) hl hn (fun q => ?_) (fun q z_ h' z_ => ?_) fun out ⟨ns', a1, a2, a3⟩ => h out ns' a1 a2 a3
  · obtain ⟨ns', b⟩ := fin (pairsOf vs) (Array.Perm.refl _) fun i j hij hj => by
      rw [pairsOf_size] at hj
      have : i = j := by (first | lia | omega)
      rw [this]; exact Int.le_refl _
    exact ⟨ns', by rw [← zip_self]; exact b⟩
  · rcases vs with _ | ⟨v₁, _ | ⟨v₂, rest⟩⟩
    · exact absurd (Nat.zero_lt_succ 1) q
    · exact absurd (Nat.lt_succ_self 1) q
    rw [keyKind_ints hI]
    refine wpAny_pure ⟨rfl, ?_⟩
    refine sortRuns_T (a₀ := pairsOf (v₁ :: v₂ :: rest)) hI.intKeys ⟨Array.Perm.refl _, rfl, rfl, rfl⟩ fun st' a1 a2 a3 => ⟨a2, ?_, fin _ a1 a3⟩
    rw [a1.size_eq, pairsOf_size]
end
end Mine
end

section
set_option tactic.hygienic false
open PySem PySem.W PyProof.Rows PySem.Calls PySem.SeqAt
set_option linter.unusedVariables false
set_option maxRecDepth 100000
namespace Mine

theorem perm_sorted_eq {l₁ l₂ : List Int} (p : l₁.Perm l₂) (h₁ : l₁.Pairwise (· ≤ ·)) (h₂ : l₂.Pairwise (· ≤ ·)) : l₁ = l₂ := by
  induction l₁ generalizing l₂ with
  | nil => exact (List.nil_perm.mp p).symm
  | cons a r ih =>
    cases l₂ with
    | nil => exact absurd p.symm (by simp)
    | cons b s =>
      have ha := List.pairwise_cons.mp h₁
      have hb := List.pairwise_cons.mp h₂
      have e : a = b := by
        have m1 : a ∈ b :: s := p.subset List.mem_cons_self
        have m2 : b ∈ a :: r := p.symm.subset List.mem_cons_self
        rcases List.mem_cons.mp m1 with e | m1
        · exact e
        · rcases List.mem_cons.mp m2 with e | m2
          · exact e.symm
          · have := ha.1 b m2; have := hb.1 a m1; (first | lia | omega)
      subst e
      rw [ih (List.Perm.cons_inv p) ha.2 hb.2]
noncomputable def sortI (l : List Int) : List Int := l.mergeSort (fun a b => decide (a ≤ b))
theorem sortI_perm (l : List Int) : (sortI l).Perm l := List.mergeSort_perm _ _
theorem sortI_sorted (l : List Int) : (sortI l).Pairwise (· ≤ ·) := by
  have := List.pairwise_mergeSort (le := fun a b : Int => decide (a ≤ b)) (fun a b c h1 h2 => by simp at *; (first | exact Int.le_trans (by assumption) (by assumption) | lia | omega)) (fun a b => by simp; (first | lia | omega)) l
  exact this.imp (by simp)
theorem eq_sortI {l l' : List Int} (p : l'.Perm l) (h : l'.Pairwise (· ≤ ·)) : l' = sortI l := perm_sorted_eq (p.trans (sortI_perm l).symm) h (sortI_sorted l)

section
variable {W : Wk} {A : Around} {hid : PMap} {env : Env} {vars : Vars} {mu : Mu}

theorem op_sorted {d} {ns : List Int} (hl : AsList mu d (ns.map .int)) (h64 : ns.length ≤ 100000) : Op W A hid env vars mu [d] (fun us => call (.builtin "sorted") us) (.list ((sortI ns).map .int)) := fun g h t us Q E R i k => by
  cases i with
  | cons i r =>
    cases r
    obtain ⟨a, vs, rfl, q1, q2⟩ := hl.get R i
    have hi := q2.toInts
    have hlen : vs.toList.length = ns.length := by have := q2.length; simpa using this
    refine sortedT (vs := vs.toList) (by simpa using q1) hi (by rw [hlen]; exact h64) fun out ns' a1 a2 a3 => ?_
    obtain ⟨e, he⟩ := sortedAll_at h vs.toList out
    obtain ⟨R', l⟩ := R.freeze (h' := sortedAll h vs.toList out) (fun z_ z_ => sortedAll_old) (a := h.objs.size + 1) (by
      cases q : h.get? (h.objs.size + 1) with
      | none => rfl
      | some o => exact absurd (Heap.lt_size q) (Nat.not_lt.mpr (Nat.le_succ _))) he
    rw [← eq_sortI a2 a3] at k
    exact k _ _ _ _ l R' (.list (ins_same _ _ _) ((Iss.of_ints a1).mono l))
theorem op_min2 {a b : Int} (hh : A.handled = none) : Op W A hid env vars mu [.int a, .int b] (fun us => call (.builtin "min") us) (.int (min a b)) := fun g h t us Q E R i k => by
  cases i with
  | cons i r =>
    cases i
    cases r with
    | cons i r =>
      cases r; cases i
      refine min_two_ints hh fun h' tk hk => ?_
      (set_option tactic.hygienic true in split) <;> rename_i hc
      · rw [show min a b = b by (first | lia | omega)] at k; exact k _ g h' _ (Le.refl g) (R.keeps hk) .int
      · rw [show min a b = a by (first | lia | omega)] at k; exact k _ g h' _ (Le.refl g) (R.keeps hk) .int

noncomputable def PV.truth (mu : Mu) : PV → Bool → Prop
  | .none, b => b = false
  | .bool c, b => b = c
  | .int i, b => b = (i != 0)
  | .list l, b => b = (!l.isEmpty) ∧ l.length < 2 ^ 62
  | .loc a, b => ∃ l, (a, l) ∈ mu ∧ b = (!l.isEmpty) ∧ l.length < 2 ^ 62
  | _, _ => False
theorem truthy_list {g h t a l} {vs : Array Value} {Q : Bool → Shared → Prop} {E} (q1 : h.IsList a vs) (q2 : Iss g l vs.toList) (hs : vs.size < 2 ^ 62) (k : ∀ t', Q (!l.isEmpty) (W.S h t')) : wpAny W.M A (truthy (.ref a)) Q E (W.S h t) := by
  have e : (!l.isEmpty) = !vs.isEmpty := by
    have := q2.length
    obtain ⟨vs⟩ := vs
    cases l <;> cases vs <;> simp_all
  rw [e] at k
  exact wpAny_truthy_list q1 (by (first | lia | omega)) (k _)
theorem truthy_pv {g h t d u b} {Q : Bool → Shared → Prop} {E} (R : Rep W hid g env vars mu h) (i : Is g d u) (hb : d.truth mu b) (k : ∀ t', Q b (W.S h t')) : wpAny W.M A (truthy u) Q E (W.S h t) := by
  cases i with
  | none => cases hb; exact wpAny_pure (k t)
  | bool => cases hb; exact wpAny_truthy_bool (k t)
  | int => cases hb; exact P.truthy_int (k t)
  | str => exact hb.elim
  | tup => exact hb.elim
  | list e q =>
    obtain ⟨rfl, hb⟩ := hb
    exact truthy_list (g := g) ⟨_, R.gs _ _ e, rfl, _, rfl⟩ q (by have := q.length; simp at this; (first | lia | omega)) k
  | rng => exact hb.elim
  | loc =>
    obtain ⟨l, hm, rfl, hb⟩ := hb
    obtain ⟨vs, n, e, r, _⟩ := R.mus _ l hm
    exact truthy_list ⟨_, e, rfl, n, rfl⟩ r (by have := r.length; simp at this; (first | lia | omega)) k
  | val => exact hb.elim

theorem tr_of {e : Expr} {d b} (he : Ev W A hid env vars mu e d) (hb : d.truth mu b) (hf : ∀ v : Sem Value, isTrue e env v = (do let x ← v; standAt e.pos; holding [x] (truthy x))) : Tr W A hid env vars mu e b := fun g h t Q E R k => by
  rw [hf]
  refine wpAny_bind (he g h t _ E R fun u g1 h1 t1 l1 R1 i1 => wpAny_bind (wpAny_standAt (wpAny_holding ?_)))
  exact truthy_pv R1 i1 hb fun t' => k g1 h1 t' l1 R1
theorem tr_not {e : Expr} {pos b} (he : Tr W A hid env vars mu e b) : Tr W A hid env vars mu (.UnaryOp .Not e pos) (!b) := fun g h t Q E R k => by
  show wpAny _ _ (do return !(← isTrue e env (eval e env))) _ _ _
  exact wpAny_bind (he g h t _ E R fun g1 h1 t1 l1 R1 => wpAny_pure (k g1 h1 t1 l1 R1))
theorem all_and1 {es : List Expr} {a : Expr} (ha : Tr W A hid env vars mu a false) : ∀ g h t (Q : Bool → Shared → Prop) E, Rep W hid g env vars mu h → (∀ g' h' t', Le g g' → Rep W hid g' env vars mu h' → Q false (W.S h' t')) → wpAny W.M A (allTrue .And (a :: es) env) Q E (W.S h t) := fun g h t Q E R k => by
  show wpAny _ _ (do match BoolOp.And, ← isTrue a env (eval a env) with | .And, false => pure false | .Or, true => pure true | _, _ => allTrue .And es env) _ _ _
  exact wpAny_bind (ha g h t _ E R fun g1 h1 t1 l1 R1 => wpAny_pure (k g1 h1 t1 l1 R1))

inductive TrAll (W : Wk) (A : Around) (hid : PMap) (env : Env) (vars : Vars) (mu : Mu) (op : BoolOp) : List Expr → Bool → Prop where
  | nil : TrAll W A hid env vars mu op [] (op == .And)
  | stop {a es b} : Tr W A hid env vars mu a b → b = (op == .Or) → TrAll W A hid env vars mu op (a :: es) b
  | more {a es b c} : Tr W A hid env vars mu a b → b = (op == .And) → TrAll W A hid env vars mu op es c → TrAll W A hid env vars mu op (a :: es) c
theorem TrAll.run {op es b} (x : TrAll W A hid env vars mu op es b) : ∀ g h t (Q : Bool → Shared → Prop) E, Rep W hid g env vars mu h → (∀ g' h' t', Le g g' → Rep W hid g' env vars mu h' → Q b (W.S h' t')) → wpAny W.M A (allTrue op es env) Q E (W.S h t) := by
  induction x with
  | nil => intro g h t Q E R k; exact wpAny_pure (k g h t (Le.refl g) R)
  | @stop a es b ha hb =>
    intro g h t Q E R k
    show wpAny _ _ (do match op, ← isTrue a env (eval a env) with | .And, false => pure false | .Or, true => pure true | _, _ => allTrue op es env) _ _ _
    refine wpAny_bind (ha g h t _ E R fun g1 h1 t1 l1 R1 => ?_)
    subst hb
    cases op <;> exact wpAny_pure (k g1 h1 t1 l1 R1)
  | @more a es b c ha hb _ ih =>
    intro g h t Q E R k
    show wpAny _ _ (do match op, ← isTrue a env (eval a env) with | .And, false => pure false | .Or, true => pure true | _, _ => allTrue op es env) _ _ _
    refine wpAny_bind (ha g h t _ E R fun g1 h1 t1 l1 R1 => ?_)
    subst hb
    cases op <;> exact ih g1 h1 t1 Q E R1 fun g2 h2 t2 l2 R2 => k g2 h2 t2 (l1.trans l2) R2
theorem tr_bool {op es pos b} (x : TrAll W A hid env vars mu op es b) : Tr W A hid env vars mu (.BoolOp op es pos) b := fun g h t Q E R k => x.run g h t Q E R k

theorem ev_if {c a b : Expr} {pos d} {x : Bool} (hc : Tr W A hid env vars mu c x) (ht : x = true → Ev W A hid env vars mu a d) (he : x = false → Ev W A hid env vars mu b d) : Ev W A hid env vars mu (.IfExp c a b pos) d := fun g h t Q E R k => by
  show wpAny _ _ (do if ← isTrue c env (eval c env) then eval a env else eval b env) _ _ _
  refine wpAny_bind (hc g h t _ E R fun g1 h1 t1 l1 R1 => ?_)
  cases x
  · exact he rfl g1 h1 t1 Q E R1 fun u g2 h2 t2 l2 R2 i2 => k u g2 h2 t2 (l1.trans l2) R2 i2
  · exact ht rfl g1 h1 t1 Q E R1 fun u g2 h2 t2 l2 R2 i2 => k u g2 h2 t2 (l1.trans l2) R2 i2
end
end Mine
end

section
set_option tactic.hygienic false
open PySem PySem.W PyProof.Rows PySem.Calls PySem.SeqAt
set_option linter.unusedVariables false
set_option maxRecDepth 100000
namespace Mine

set_option genInjectivity false in
set_option genSizeOfSpec false in
inductive Out where
  | next (vars : Vars) (mu : Mu)
  | brk (vars : Vars) (mu : Mu)
  | cont (vars : Vars) (mu : Mu)
  | ret (d : PV)
  | exc (x : Value) (vars : Vars) (mu : Mu)

inductive FlowAt (W : Wk) (hid : PMap) (env : Env) (K : Out → Prop) (g : PMap) (mk : Vars → Mu → Out) (s : Shared) : Prop where
  | mk (vars : Vars) (mu : Mu) (g' : PMap) (h : Heap) (t : Nat) : s = W.S h t → K (mk vars mu) → (Le g g' ∧ Rep W hid g' env vars mu h) → FlowAt W hid env K g mk s
inductive FlowRet (W : Wk) (hid : PMap) (K : Out → Prop) (g : PMap) (u : Value) (s : Shared) : Prop where
  | mk (d : PV) (g' : PMap) (h : Heap) (t : Nat) : s = W.S h t → K (.ret d) → (Le g g' ∧ RepE W hid g' h ∧ Is g' d u) → FlowRet W hid K g u s
noncomputable def FlowOk (W : Wk) (hid : PMap) (env : Env) (K : Out → Prop) (g : PMap) : Flow → Shared → Prop
  | .next, s => FlowAt W hid env K g .next s
  | .brk, s => FlowAt W hid env K g .brk s
  | .cont, s => FlowAt W hid env K g .cont s
  | .ret u, s => FlowRet W hid K g u s

inductive XForm (W : Wk) (l : List Env) (g : PMap) (h₁ : Heap) (x : Value) (a : Addr) (h' : Heap) : Prop where
  | made (args : List Value) : Heap.MadeExcOf h₁ h' a x args → XForm W l g h₁ x a h'
  | fly (B : Heap) (a0 : Value) : Heap.FlyingW B l a x a0 h' → (∀ b o, g b = some o → B.get? b = some o) → (∀ b o, h₁.get? b = some o → (∀ es ep, o.data ≠ .dict es ep) → B.get? b = some o) → h₁.UpToSlots h' → XForm W l g h₁ x a h'
  | held (B : Heap) (a0 : Value) (L : Addr) (env : Env) (r : List Env) : l = env :: r → env.frame = some L → Heap.HeldW B l a x a0 L h' → (∀ b o, g b = some o → B.get? b = some o) → (∀ b o, h₁.get? b = some o → (∀ es ep, o.data ≠ .dict es ep) → B.get? b = some o) → h₁.UpToSlots h' → XForm W l g h₁ x a h'

inductive ExcOk (W : Wk) (A : Around) (hid : PMap) (env : Env) (K : Out → Prop) (g : PMap) (e : Value) (s : Shared) : Prop where
  | mk (x : Value) (vars : Vars) (mu : Mu) (g₁ : PMap) (h₁ : Heap) (a : Addr) (l : List Env) (h : Heap) (t : Nat) : e = .ref a → s = W.S h t → K (.exc x vars mu) → (Le g g₁ ∧ Rep W hid g₁ env vars mu h₁ ∧ A.frames = some l ∧ XForm W l g₁ h₁ x a h) → ExcOk W A hid env K g e s

noncomputable def Run (W : Wk) (A : Around) (hid : PMap) (env : Env) (vars : Vars) (mu : Mu) (t : Sem Flow) (K : Out → Prop) : Prop :=
  ∀ g h tk, Rep W hid g env vars mu h → wpAny W.M A t (FlowOk W hid env K g) (ExcOk W A hid env K g) (W.S h tk)

noncomputable abbrev Exs (W : Wk) (A : Around) (hid : PMap) (env : Env) (vars : Vars) (mu : Mu) (b : List Stmt) (K : Out → Prop) : Prop := Run W A hid env vars mu (execs b env) K
noncomputable abbrev Ex1 (W : Wk) (A : Around) (hid : PMap) (env : Env) (vars : Vars) (mu : Mu) (b : Stmt) (K : Out → Prop) : Prop := Run W A hid env vars mu (exec b env) K

section
variable {W : Wk} {A : Around} {hid : PMap} {env : Env} {vars : Vars} {mu : Mu} {K K' : Out → Prop}

theorem FlowOk.le {g g' f s} (l : Le g g') (x : FlowOk W hid env K g' f s) : FlowOk W hid env K g f s := by
  cases f with
  | ret u => obtain ⟨d, g'', h, t, e, k, l', r⟩ := x; exact ⟨d, g'', h, t, e, k, l.trans l', r⟩
  | next => obtain ⟨v, m, g'', h, t, e, k, l', r⟩ := x; exact ⟨v, m, g'', h, t, e, k, l.trans l', r⟩
  | brk => obtain ⟨v, m, g'', h, t, e, k, l', r⟩ := x; exact ⟨v, m, g'', h, t, e, k, l.trans l', r⟩
  | cont => obtain ⟨v, m, g'', h, t, e, k, l', r⟩ := x; exact ⟨v, m, g'', h, t, e, k, l.trans l', r⟩
theorem ExcOk.le {g g' e s} (l : Le g g') (x : ExcOk W A hid env K g' e s) : ExcOk W A hid env K g e s := by
  obtain ⟨x, vars, mu, g₁, h₁, a, fl, h, t, e1, e2, k, l', r⟩ := x
  exact ⟨x, vars, mu, g₁, h₁, a, fl, h, t, e1, e2, k, l.trans l', r⟩
theorem Run.imp {t} (x : Run W A hid env vars mu t K) (k : ∀ o, K o → K' o) : Run W A hid env vars mu t K' := fun g h tk R =>
  wpAny_mono (x g h tk R) (fun f s y => by
    cases f with
    | ret u => obtain ⟨d, g'', h, t, e, q, r⟩ := y; exact ⟨d, g'', h, t, e, k _ q, r⟩
    | next => obtain ⟨v, m, g'', h, t, e, q, r⟩ := y; exact ⟨v, m, g'', h, t, e, k _ q, r⟩
    | brk => obtain ⟨v, m, g'', h, t, e, q, r⟩ := y; exact ⟨v, m, g'', h, t, e, k _ q, r⟩
    | cont => obtain ⟨v, m, g'', h, t, e, q, r⟩ := y; exact ⟨v, m, g'', h, t, e, k _ q, r⟩) fun e s y => by
    obtain ⟨x, vars, mu, g₁, h₁, a, fl, h, t, e1, e2, q, r⟩ := y
    exact ⟨x, vars, mu, g₁, h₁, a, fl, h, t, e1, e2, k _ q, r⟩

noncomputable def Sub (v' v : Vars) : Prop := ∀ x d, v'.lookup x = some d → v.lookup x = some d
theorem Sub.nil {v : Vars} : Sub [] v := fun x d e => by cases e
theorem Sub.cons {v' v : Vars} {x : Str} {d : PV} (h : v.lookup x = some d) (s : Sub v' v) : Sub ((x, d) :: v') v := fun y e q => by
  rw [List.lookup_cons] at q
  cases hb : y == x with
  | true => rw [hb] at q; cases q; rw [beq_iff_eq.mp hb]; exact h
  | false => rw [hb] at q; exact s y e q
theorem Rep.forget {g h v' m'} (R : Rep W hid g env vars mu h) (s : Sub v' vars) (hm : m'.Sublist mu) : Rep W hid g env v' m' h :=
  ⟨R.bs, R.gs, R.hs, R.gh, R.ns, fun x d e => R.vs x d (s x d e), R.gL, R.hL, R.cell, R.cnd, fun a l e => R.mus a l (hm.subset e), (hm.map _).nodup R.mnd⟩
theorem run_forget {t v' m'} (s : Sub v' vars) (hm : m'.Sublist mu) (x : Run W A hid env v' m' t K) : Run W A hid env vars mu t K := fun g h tk R => x g h tk (R.forget s hm)

theorem exs_nil (k : K (.next vars mu)) : Exs W A hid env vars mu [] K := fun g h tk R => wpAny_execs_nil ⟨vars, mu, g, h, tk, rfl, k, Le.refl g, R⟩
theorem exs_cons {st rest} (x : Ex1 W A hid env vars mu st K') (h1 : ∀ v m, K' (.next v m) → Exs W A hid env v m rest K) (h2 : ∀ o, K' o → (∀ v m, o ≠ .next v m) → K o) : Exs W A hid env vars mu (st :: rest) K := fun g h tk R => by
  show wpAny _ _ (do match ← exec st env with | .next => execs rest env | f => pure f) _ _ _
  refine wpAny_bind (wpAny_mono (x g h tk R) (fun f s y => ?_) fun e s y => ?_)
  · cases f with
    | next =>
      obtain ⟨v, m, g', h', t', rfl, q, l, R'⟩ := y
      exact wpAny_mono (h1 v m q g' h' t' R') (fun f s y => y.le l) fun e s y => y.le l
    | brk => obtain ⟨v, m, g'', h, t, e, q, r⟩ := y; exact wpAny_pure ⟨v, m, g'', h, t, e, h2 _ q (fun z_ z_ z => nomatch z), r⟩
    | cont => obtain ⟨v, m, g'', h, t, e, q, r⟩ := y; exact wpAny_pure ⟨v, m, g'', h, t, e, h2 _ q (fun z_ z_ z => nomatch z), r⟩
    | ret u => obtain ⟨d, g'', h, t, e, q, r⟩ := y; exact wpAny_pure ⟨d, g'', h, t, e, h2 _ q (fun z_ z_ z => nomatch z), r⟩
  · obtain ⟨x, vars, mu, g₁, h₁, a, fl, h, t, e1, e2, q, r⟩ := y
    exact ⟨x, vars, mu, g₁, h₁, a, fl, h, t, e1, e2, h2 _ q (fun z_ z_ z => nomatch z), r⟩
theorem exs_next {st rest v m} (x : Ex1 W A hid env vars mu st (· = .next v m)) (k : Exs W A hid env v m rest K) : Exs W A hid env vars mu (st :: rest) K :=
  exs_cons x (fun v' m' e => by cases e; exact k) fun o e h => by subst e; exact absurd rfl (h _ _)

inductive Sto (hid : PMap) (env : Env) (x : Str) : Prop where
  | loc : env.kindOf x = some .local → Sto hid env x
  | cell (c : Addr) : env.kindOf x = some .cell → env.cells.lookup x = some c → hid c = none → Sto hid env x

theorem lookup_cons_ne {α : Type} {x y : Str} {d : α} {v : List (Str × α)} (h : y ≠ x) : ((x, d) :: v).lookup y = v.lookup y := by
  rw [List.lookup_cons, beq_false_of_ne h]
theorem lookup_cons_eq {α : Type} {x : Str} {d : α} {v : List (Str × α)} : ((x, d) :: v).lookup x = some d := by
  rw [List.lookup_cons, beq_self_eq_true]

theorem store_K {x : Str} {d : PV} {u : Value} {g h t} {Q : Unit → Shared → Prop} {E} (hs : Sto hid env x) (hk : env.scope.kind = .function) (hd : (x == ("__debug__" : Str)) = false) (R : Rep W hid g env vars mu h) (i : Is g d u)
    (k : ∀ h' t', Rep W hid g env ((x, d) :: vars) mu h' → Q () (W.S h' t')) : wpAny W.M A (storeName env x u) Q E (W.S h t) := by
  have vsStep : ∀ {h'}, (∀ y e, vars.lookup y = some e → y ≠ x → ∃ w, Is g e w ∧ VarAt h' env y w) → VarAt h' env x u → ∀ y e, ((x, d) :: vars).lookup y = some e → ∃ w, Is g e w ∧ VarAt h' env y w := by
    intro h' h1 h2 y e q
    by_cases hy : y = x
    · subst hy; rw [lookup_cons_eq] at q; cases q; exact ⟨u, i, h2⟩
    · rw [lookup_cons_ne hy] at q; exact h1 y e q hy
  rcases hs with hl | ⟨c, hl, hc, hh⟩
  · obtain ⟨m, hn⟩ := R.ns
    refine wpAny_storeName_local hl hn (fun h' hn' hs' => ?_) (by rw [hk]; rfl)
    refine k h' _ ⟨R.bs, fun a o e => ?_, fun a o e => ?_, R.gh, ⟨_, hn'⟩, vsStep (fun y e q hy => ?_) ⟨hd, .inl ⟨hl, _, hn', if_pos rfl⟩⟩, R.gL, R.hL, fun y c e => ?_, R.cnd, fun a l e => ?_, R.mnd⟩
    · exact (hs'.2 a (fun q => by rw [q, R.gL] at e; cases e)).trans (R.gs a o e)
    · obtain ⟨sl, e1, e2⟩ := R.hs a o e
      exact ⟨sl, (hs'.2 a (fun q => by rw [q, R.hL] at e; cases e)).trans e1, e2⟩
    · obtain ⟨w, i', hd', ⟨hl', m', hn2, hm'⟩ | ⟨c, hk', hc', hv'⟩⟩ := R.vs y e q
      · have : m' y = m y := by
          obtain ⟨o1, es1, ep1, p1, p2, p3, p4⟩ := hn
          obtain ⟨o2, es2, ep2, q1, q2, q3, q4⟩ := hn2
          rw [p1] at q1; cases q1; rw [p2] at q2; cases q2
          rw [← q4, ← p4]
        exact ⟨w, i', hd', .inl ⟨hl', _, hn', by rw [if_neg hy, ← this]; exact hm'⟩⟩
      · exact ⟨w, i', hd', .inr ⟨c, hk', hc', hv'.sameBut hs' (R.cell y c hc').2.2⟩⟩
    · obtain ⟨⟨v, hv⟩, r⟩ := R.cell y c e
      exact ⟨⟨v, hv.sameBut hs' r.2⟩, r⟩
    · obtain ⟨vs, n, e1, r1, r2, r3, r4, r5⟩ := R.mus a l e
      exact ⟨vs, n, (hs'.2 a r4).trans e1, r1, r2, r3, r4, r5⟩
  · obtain ⟨⟨v₀, hv₀⟩, hgc, hcL⟩ := R.cell x c hc
    obtain ⟨m, hn⟩ := R.ns
    refine wpAny_storeName_cell hk hl hc hv₀ fun h' hv' hs' => ?_
    refine k h' _ ⟨R.bs, fun a o e => ?_, fun a o e => ?_, R.gh, ⟨m, hn.sameBut hs' (Ne.symm hcL)⟩, vsStep (fun y e q hy => ?_) ⟨hd, .inr ⟨c, .inl hl, hc, hv'⟩⟩, R.gL, R.hL, fun y c' e => ?_, R.cnd, fun a l e => ?_, R.mnd⟩
    · exact (hs'.2 a (fun q => by rw [q, hgc] at e; cases e)).trans (R.gs a o e)
    · obtain ⟨sl, e1, e2⟩ := R.hs a o e
      exact ⟨sl, (hs'.2 a (fun q => by rw [q, hh] at e; cases e)).trans e1, e2⟩
    · obtain ⟨w, i', hd', ⟨hl', m', hn2, hm'⟩ | ⟨c', hk', hc', hvv⟩⟩ := R.vs y e q
      · exact ⟨w, i', hd', .inl ⟨hl', m', hn2.sameBut hs' (Ne.symm hcL), hm'⟩⟩
      · exact ⟨w, i', hd', .inr ⟨c', hk', hc', hvv.sameBut hs' fun q => hy (R.cnd y x c (q ▸ hc') hc)⟩⟩
    · obtain ⟨⟨v, hv⟩, r⟩ := R.cell y c' e
      by_cases q : c' = c
      · subst q; exact ⟨⟨_, hv'⟩, r⟩
      · exact ⟨⟨v, hv.sameBut hs' q⟩, r⟩
    · obtain ⟨vs, n, e1, r1, r2, r3, r4, r5⟩ := R.mus a l e
      exact ⟨vs, n, (hs'.2 a (fun q => r5 x c hc q.symm)).trans e1, r1, r2, r3, r4, r5⟩

theorem ex_assign {x : Str} {p pos : Pos} {e : Expr} {d : PV} (he : Ev W A hid env vars mu e d) (hs : Sto hid env x) (hsw : swapsWith e (some (.Name x p)) pos.line env = pure false) (hk : env.scope.kind = .function) (hd : (x == ("__debug__" : Str)) = false) :
    Ex1 W A hid env vars mu (.Assign [.Name x p] e pos) (· = .next ((x, d) :: vars) mu) := fun g h t R =>
  wpAny_Assign_Name (he g h t _ _ R fun u g1 h1 t1 l1 R1 i1 => store_K hs hk hd R1 i1 fun h2 t2 R2 => ⟨_, _, g1, h2, t2, rfl, rfl, l1, R2⟩) hsw

theorem a_add {a b : Int} : Op W A hid env vars mu [.int a, .int b] (fun us => inplaceOp .Add (us.getD 0 .none) (us.getD 1 .none)) (.int (a + b)) :=
  op2 fun g h t u v Q E R i j k => by cases i; cases j; exact P.iadd_int (k _ g h _ (Le.refl g) R .int)
theorem ex_if {c : Expr} {b1 b2 : List Stmt} {pos} {x : Bool} (hc : Tr W A hid env vars mu c x) (ht : x = true → Exs W A hid env vars mu b1 K) (he : x = false → Exs W A hid env vars mu b2 K) : Ex1 W A hid env vars mu (.If c b1 b2 pos) K := fun g h t R => by
  refine wpAny_If (hc g h t _ _ R fun g1 h1 t1 l1 R1 => ?_)
  cases x
  · exact wpAny_mono (he rfl g1 h1 t1 R1) (fun f s y => y.le l1) fun e s y => y.le l1
  · exact wpAny_mono (ht rfl g1 h1 t1 R1) (fun f s y => y.le l1) fun e s y => y.le l1
theorem ex_ret {e : Expr} {pos d} (he : Ev W A hid env vars mu e d) : Ex1 W A hid env vars mu (.Return (some e) pos) (· = .ret d) := fun g h t R =>
  wpAny_Return_some (he g h t _ _ R fun u g1 h1 t1 l1 R1 i1 => ⟨_, g1, h1, t1, rfl, rfl, l1, R1.e, i1⟩)

theorem Rep.freezeLoc {g h a l} (R : Rep W hid g env vars mu h) (hm : (a, l) ∈ mu) : ∃ o, Rep W hid (ins g a o) env vars (mu.filter (·.1 != a)) h ∧ Le g (ins g a o) ∧ Is (ins g a o) (.list l) (.ref a) := by
  obtain ⟨vs, n, e, r, hg, hh, hL, hc⟩ := R.mus a l hm
  have lle := le_ins (o := lobj vs n) hg
  refine ⟨_, ⟨fun b o q => lle _ _ (R.bs b o q), fun b o q => ?_, R.hs, fun b o q => ?_, R.ns, fun x d e => let ⟨u, i, v⟩ := R.vs x d e; ⟨u, i.mono lle, v⟩, by rw [ins_other (Ne.symm hL)]; exact R.gL, R.hL,
    fun x c q => ?_, R.cnd, fun b lb q => ?_, (List.filter_sublist.map _).nodup R.mnd⟩, lle, .list (ins_same _ _ _) (r.mono lle)⟩
  · by_cases z : b = a
    · subst z; rw [ins_same] at q; cases q; exact e
    · rw [ins_other z] at q; exact R.gs b o q
  · by_cases z : b = a
    · subst z; exact hh
    · rw [ins_other z] at q; exact R.gh b o q
  · obtain ⟨k1, k2, k3⟩ := R.cell x c q
    exact ⟨k1, by rw [ins_other (hc x c q)]; exact k2, k3⟩
  · obtain ⟨q1, q2⟩ := List.mem_filter.mp q
    have z : b ≠ a := by simpa using q2
    obtain ⟨vs', n', e', r', g', rest⟩ := R.mus b lb q1
    exact ⟨vs', n', e', r'.mono lle, by rw [ins_other z]; exact g', rest⟩
theorem ex_retloc {e : Expr} {pos a l} (he : Ev W A hid env vars mu e (.loc a)) (hm : (a, l) ∈ mu) : Ex1 W A hid env vars mu (.Return (some e) pos) (· = .ret (.list l)) := fun g h t R =>
  wpAny_Return_some (he g h t _ _ R fun u g1 h1 t1 l1 R1 i1 => by
    cases i1
    obtain ⟨o, R2, l2, i2⟩ := R1.freezeLoc hm
    exact ⟨_, _, h1, t1, rfl, rfl, l1.trans l2, R2.e, i2⟩)
end
end Mine
end

section
set_option tactic.hygienic false
open PySem PySem.W PyProof.Rows PySem.Calls PySem.SeqAt
set_option linter.unusedVariables false
set_option maxRecDepth 100000
namespace Mine

noncomputable def rngL (a b : Int) : List PV := (List.range (b - a).toNat).map fun (i : Nat) => PV.int (a + (i : Int))

inductive Src (mu : Mu) : PV → List PV → Prop where
  | list {d l} : AsList mu d l → Src mu d l
  | tup {l} : Src mu (.tup l) l
  | rng {a b} : -(2 ^ 62) ≤ a → a < 2 ^ 62 → -(2 ^ 62) ≤ b → b < 2 ^ 62 → Src mu (.rng a b) (rngL a b)

inductive ItAt (u : Value) : PV → Nat → Addr → Heap → Prop where
  | list {d a i I h} : u = .ref a → (∀ l, d ≠ .tup l) → (∀ x y, d ≠ .rng x y) → h.IsListIter I a i → ItAt u d i I h
  | tup {l a i I h} : u = .ref a → h.IsTupleIter I a i → ItAt u (.tup l) i I h
  | rng {x y i I h} : IsRangeIter h I (x + (i : Nat)) (((y - x).toNat : Int) - (i : Nat)) 1 → ItAt u (.rng x y) i I h
theorem ItAt.at {u d i I h h'} (x : ItAt u d i I h) (k : ∀ o, h.get? I = some o → h'.get? I = some o) : ItAt u d i I h' := by
  cases x with
  | list e h1 h2 q => obtain ⟨o, e1, r⟩ := q; exact .list e h1 h2 ⟨o, k _ e1, r⟩
  | tup e q => obtain ⟨o, e1, r⟩ := q; exact .tup e ⟨o, k _ e1, r⟩
  | rng q => exact .rng (k _ q)
theorem ItAt.fields {u d i I h} (x : ItAt u d i I h) : ∃ o vs, h.get? I = some o ∧ o.data = .fields vs := by
  cases x with
  | list _ _ _ q => obtain ⟨o, e1, _, e2⟩ := q; exact ⟨o, _, e1, e2⟩
  | tup _ q => obtain ⟨o, e1, _, e2⟩ := q; exact ⟨o, _, e1, e2⟩
  | rng q => exact ⟨_, _, q, rfl⟩

theorem turns_fall {n i : Nat} (h : i < n) : n + 1 - (i + 1) < n + 1 - i := Nat.sub_lt_sub_left (Nat.lt_succ_of_lt h) (Nat.lt_succ_self i)
theorem ItAt.keep {u d i I h h' o vs} (x : ItAt u d i I h) (e : h.get? I = some o) (f : o.data = .fields vs) (k : UpTo o h' I) : h'.get? I = some o ∧ ItAt u d i I h' :=
  have q := k.get fun es ep z => nomatch f.symm.trans z
  ⟨q, x.at fun z_ z => (Option.some.inj (e.symm.trans z)) ▸ q⟩

section
variable {W : Wk} {A : Around} {hid : PMap} {env : Env} {vars : Vars} {mu : Mu} {K K' : Out → Prop}

theorem AsList.notTup {d l} (x : AsList mu d l) : (∀ l, d ≠ .tup l) ∧ ∀ x y, d ≠ .rng x y := by
  rcases x with rfl | ⟨a, rfl, _⟩ <;> exact ⟨fun z_ e => (nomatch e), fun z_ z_ e => (nomatch e)⟩

theorem iter_start {g h t d its u} {Q : Value → Shared → Prop} {E} (R : Rep W hid g env vars mu h) (s : Src mu d its) (i : Is g d u)
    (k : ∀ o, o.isFreed = false → ItAt u d 0 h.objs.size (h.push o) → Q (.ref h.objs.size) (W.S (h.push o) t)) : wpAny W.M A (pyIter u) Q E (W.S h t) := by
  cases s with
  | list hl =>
    obtain ⟨a, vs, rfl, q1, q2⟩ := hl.get R i
    exact wpAny_pyIter_list q1 (k _ rfl (.list rfl hl.notTup.1 hl.notTup.2 ⟨_, Heap.get?_push_size _ rfl, rfl, rfl⟩))
  | tup =>
    cases i with
    | tup e q2 =>
      refine wpAny_pyIter_tuple (s := W.S h t) ⟨_, R.gs _ _ e, rfl, _, rfl⟩ (k _ rfl (.tup rfl ⟨_, Heap.get?_push_size _ rfl, rfl, rfl⟩))
  | @rng a b h1 h2 h3 h4 =>
    set_option tactic.hygienic true in cases i with
    | rng e =>
      rename_i r t1 t2 t3
      refine wpAny_pyIter_range (s := W.S h t) (R.gs _ _ e) (small_one h1 h2 h3 h4) (k _ rfl (.rng ?_))
      have e2 : Builtin.Range.rangeSize a b 1 = ((b - a).toNat : Int) := by rw [rangeSize_one]; split <;> (first | lia | omega)
      rw [e2]
      have e3 : (a + ((0 : Nat) : Int)) = a := by (first | (simp; done) | lia | omega)
      have e4 : (((b - a).toNat : Int) - ((0 : Nat) : Int)) = ((b - a).toNat : Int) := by (first | (simp; done) | lia | omega)
      rw [e3, e4]
      exact Heap.get?_push_size _ rfl

theorem iter_next {g h t d its u I i} {Q : Option Value → Shared → Prop} {E} (hh : A.handled = none) (R : Rep W hid g env vars mu h) (s : Src mu d its) (is : Is g d u) (x : ItAt u d i I h)
    (item : ∀ a v h' t', its[i]? = some a → Is g a v → Heap.SameBut I h h' → ItAt u d (i + 1) I h' → Q (some v) (W.S h' t'))
    (done : its.length ≤ i → ∀ h' t', Heap.ExtBut I h h' → Q none (W.S h' t')) : wpAny W.M A (pyNext (.ref I)) Q E (W.S h t) := by
  cases s with
  | list hl =>
    obtain ⟨a, vs, rfl, q1, q2⟩ := hl.get R is
    cases x with
    | list e n1 n2 q =>
      cases e
      by_cases hi : i < its.length
      · obtain ⟨v, e1, iv⟩ := q2.get i its[i] (List.getElem?_eq_getElem hi)
        exact wpAny_pyNext_list_item q q1 (by simpa using e1) fun h' q' hs => item _ v h' t (List.getElem?_eq_getElem hi) iv hs (.list rfl n1 n2 q')
      · have : vs.size ≤ i := by have := q2.length; simp at this; (first | lia | omega)
        exact wpAny_pyNext_list_end hh q q1 (by simpa using this) fun h' he => done (by (first | exact Nat.le_of_not_lt (by assumption) | lia | omega)) h' t he
    | tup e q => exact absurd rfl (hl.notTup.1 _)
    | rng q => exact absurd rfl (hl.notTup.2 _ _)
  | tup =>
    set_option tactic.hygienic true in cases is with
    | tup e q2 =>
      rename_i a vs n
      have ht : h.IsTuple a vs := ⟨_, R.gs _ _ e, rfl, n, rfl⟩
      cases x with
      | list e n1 n2 q => exact absurd rfl (n1 _)
      | tup e q =>
        cases e
        by_cases hi : i < its.length
        · obtain ⟨v, e1, iv⟩ := q2.get i its[i] (List.getElem?_eq_getElem hi)
          exact wpAny_pyNext_tuple_item (s := W.S h t) q ht (by simpa using e1) fun h' q' hs => item _ v h' t (List.getElem?_eq_getElem hi) iv hs (.tup rfl q')
        · have : vs.size ≤ i := by have := q2.length; simp at this; (first | lia | omega)
          exact wpAny_pyNext_tuple_end (s := W.S h t) hh q ht (by simpa using this) fun h' he => done (by (first | exact Nat.le_of_not_lt (by assumption) | lia | omega)) h' t he
  | @rng a b h1 h2 h3 h4 =>
    cases x with
    | list e n1 n2 q => exact absurd rfl (n2 _ _)
    | rng q =>
      by_cases hi : i < (b - a).toNat
      · refine wpAny_pyNext_range_item (s := W.S h t) q (by (first | (clear q item done is h4 h3 h2 h1 R hh; lia) | lia | omega)) fun h' q' hs => item (.int (a + i)) _ h' _ ?_ .int hs (.rng ?_)
        · simp [rngL, hi]
        · have e1 : a + ((i + 1 : Nat) : Int) = a + (i : Nat) + 1 := by (first | (simp only [Int.natCast_add, Int.natCast_one] at *; lia) | lia | omega)
          have e2 : ((b - a).toNat : Int) - ((i + 1 : Nat) : Int) = ((b - a).toNat : Int) - (i : Nat) - 1 := by (first | (simp only [Int.natCast_add, Int.natCast_one] at *; lia) | lia | omega)
          rw [e1, e2]; exact q'
      · exact wpAny_pyNext_range_end (s := W.S h t) hh q (by (first | (clear q item done is h4 h3 h2 h1 R hh; lia) | lia | omega)) fun h' he => done (by simp [rngL]; (first | (clear he q item done is h4 h3 h2 h1 R hh; lia) | lia | omega)) h' t he

theorem nocell_of {o : Obj} (hf : ∃ vs, o.data = .fields vs) : ∀ v, o.data ≠ .cell v := fun v e => by obtain ⟨vs, q⟩ := hf; rw [q] at e; cases e
theorem Rep.hide {g h h'} {I : Addr} {o : Obj} (R : Rep W hid g env vars mu h) (hI : h.get? I = none) (k : Kept h h') (e : h'.get? I = some o) : Rep W (ins hid I o) g env vars mu h' := by
  have R' := R.keeps k
  have ne : ∀ {b o'}, h.get? b = some o' → b ≠ I := fun e q => by rw [q, hI] at e; cases e
  refine ⟨R'.bs, R'.gs, fun a o' q => ?_, fun a o' q => ?_, R'.ns, R'.vs, R'.gL, ?_, R'.cell, R'.cnd, fun a l q => ?_, R'.mnd⟩
  · by_cases z : a = I
    · subst z; rw [ins_same] at q; cases q; exact .of e
    · rw [ins_other z] at q; exact R'.hs a o' q
  · rw [ins_other (ne (R.gs a o' q))]; exact R.gh a o' q
  · obtain ⟨m, _, _, _, e, _⟩ := R.ns
    rw [ins_other (ne e)]; exact R.hL
  · obtain ⟨vs, n, e1, r1, r2, r3, r4⟩ := R.mus a l q
    exact ⟨vs, n, k _ _ e1, r1, r2, by rw [ins_other (ne e1)]; exact r3, r4⟩
theorem Rep.unhide {g h} {I : Addr} {o : Obj} (hI : hid I = none) (R : Rep W (ins hid I o) g env vars mu h) : Rep W hid g env vars mu h := by
  have l : ∀ a o', hid a = some o' → ins hid I o a = some o' := fun a o' q => by
    by_cases z : a = I
    · subst z; rw [hI] at q; cases q
    · rw [ins_other z]; exact q
  have l2 : ∀ a, ins hid I o a = none → hid a = none := fun a q => by
    by_cases z : a = I
    · subst z; exact hI
    · rw [ins_other z] at q; exact q
  exact ⟨R.bs, R.gs, fun a o' q => R.hs a o' (l a o' q), fun a o' q => l2 a (R.gh a o' q), R.ns, R.vs, R.gL, l2 _ R.hL, R.cell, R.cnd, fun a l' q => by
    obtain ⟨vs, n, e1, r1, r2, r3, r4⟩ := R.mus a l' q
    exact ⟨vs, n, e1, r1, r2, l2 _ r3, r4⟩, R.mnd⟩
theorem RepE.unhide {g h} {I : Addr} {o : Obj} (hI : hid I = none) (R : RepE W (ins hid I o) g h) : RepE W hid g h := by
  have l : ∀ a o', hid a = some o' → ins hid I o a = some o' := fun a o' q => by
    by_cases z : a = I
    · subst z; rw [hI] at q; cases q
    · rw [ins_other z]; exact q
  have l2 : ∀ a, ins hid I o a = none → hid a = none := fun a q => by
    by_cases z : a = I
    · subst z; exact hI
    · rw [ins_other z] at q; exact q
  exact ⟨R.bs, R.gs, fun a o' q => R.hs a o' (l a o' q), fun a o' q => l2 a (R.gh a o' q)⟩
theorem Rep.rehide {g h h'} {I : Addr} {o o' : Obj} (R : Rep W (ins hid I o) g env vars mu h) (hI : hid I = none) (hf : ∀ v, o.data ≠ .cell v) (hs : Heap.SameBut I h h') (e : h'.get? I = some o') : Rep W (ins hid I o') g env vars mu h' := by
  have nocell : ∀ {c v}, h.IsCell c v → c ≠ I := by
    rintro c v ⟨oc, e1, e2⟩ rfl
    obtain ⟨sl, e3, _⟩ := R.hs c o (ins_same _ _ _)
    rw [e1] at e3; cases e3
    exact hf _ e2
  have gI : g I = none := by
    cases q : g I with
    | none => rfl
    | some x => have := R.gh I x q; rw [ins_same] at this; cases this
  have LI : env.locals ≠ I := fun q => by have := R.hL; rw [q, ins_same] at this; cases this
  refine ⟨R.bs, fun a x q => (hs.2 a (fun z => by rw [z, gI] at q; cases q)).trans (R.gs a x q), fun a x q => ?_, fun a x q => ?_, ?_, fun x d q => ?_, R.gL, ?_, fun x c q => ?_, R.cnd, fun a l q => ?_, R.mnd⟩
  · by_cases z : a = I
    · subst z; rw [ins_same] at q; cases q; exact .of e
    · rw [ins_other z] at q
      obtain ⟨sl, e1, e2⟩ := R.hs a x (by rw [ins_other z]; exact q)
      exact ⟨sl, (hs.2 a z).trans e1, e2⟩
  · have := R.gh a x q
    have z : a ≠ I := fun z => by rw [z, gI] at q; cases q
    rw [ins_other z] at this ⊢; exact this
  · obtain ⟨m, hn⟩ := R.ns; exact ⟨m, hn.sameBut hs LI⟩
  · obtain ⟨u, i, hd, ⟨hl, m, hn, hm⟩ | ⟨c, hk, hc, hv⟩⟩ := R.vs x d q
    · exact ⟨u, i, hd, .inl ⟨hl, m, hn.sameBut hs LI, hm⟩⟩
    · refine ⟨u, i, hd, .inr ⟨c, hk, hc, ?_⟩⟩
      exact hv.sameBut hs (nocell hv)
  · have := R.hL; rw [ins_other LI] at this ⊢; exact this
  · obtain ⟨⟨v, hv⟩, r⟩ := R.cell x c q
    exact ⟨⟨v, hv.sameBut hs (nocell hv)⟩, r⟩
  · obtain ⟨vs, n, e1, r1, r2, r3, r4⟩ := R.mus a l q
    have z : a ≠ I := fun z => by rw [z, ins_same] at r3; cases r3
    exact ⟨vs, n, (hs.2 a z).trans e1, r1, r2, by rw [ins_other z] at r3 ⊢; exact r3, r4⟩

theorem Rep.letgo {g h h'} {I : Addr} {o : Obj} (R : Rep W (ins hid I o) g env vars mu h) (hI : hid I = none) (hf : ∀ v, o.data ≠ .cell v) (hs : Heap.ExtBut I h h') : Rep W hid g env vars mu h' := by
  have nocell : ∀ {c v}, h.IsCell c v → c ≠ I := by
    rintro c v ⟨oc, e1, e2⟩ rfl
    obtain ⟨sl, e3, _⟩ := R.hs c o (ins_same _ _ _)
    rw [e1] at e3; cases e3
    exact hf _ e2
  have R0 := R.unhide hI
  have gI : g I = none := by
    cases q : g I with
    | none => rfl
    | some x => have := R.gh I x q; rw [ins_same] at this; cases this
  have LI : env.locals ≠ I := fun q => by have := R.hL; rw [q, ins_same] at this; cases this
  have keepNs : ∀ {m}, h.Ns env.locals m → h'.Ns env.locals m := fun hn => by
    obtain ⟨o1, es1, ep1, p1, p2⟩ := hn; exact ⟨o1, es1, ep1, hs _ _ LI p1, p2⟩
  have keepCell : ∀ {c v}, h.IsCell c v → h'.IsCell c v := fun hc => by
    obtain ⟨oc, e1, e2⟩ := id hc; exact ⟨oc, hs _ _ (nocell hc) e1, e2⟩
  refine ⟨R0.bs, fun a x q => hs a x (fun z => by rw [z, gI] at q; cases q) (R.gs a x q), fun a x q => ?_, R0.gh, ?_, fun x d q => ?_, R.gL, R0.hL, fun x c q => ?_, R.cnd, fun a l q => ?_, R.mnd⟩
  · obtain ⟨sl, e1, e2⟩ := R0.hs a x q
    exact ⟨sl, hs a _ (fun z => by rw [z, hI] at q; cases q) e1, e2⟩
  · obtain ⟨m, hn⟩ := R.ns; exact ⟨m, keepNs hn⟩
  · obtain ⟨u, i, hd, ⟨hl, m, hn, hm⟩ | ⟨c, hk, hc, hv⟩⟩ := R.vs x d q
    · exact ⟨u, i, hd, .inl ⟨hl, m, keepNs hn, hm⟩⟩
    · exact ⟨u, i, hd, .inr ⟨c, hk, hc, keepCell hv⟩⟩
  · obtain ⟨⟨v, hv⟩, r⟩ := R.cell x c q
    exact ⟨⟨v, keepCell hv⟩, r⟩
  · obtain ⟨vs, n, e1, r1, r2, r3, r4⟩ := R.mus a l q
    have z : a ≠ I := fun z => by rw [z, ins_same] at r3; cases r3
    exact ⟨vs, n, hs a _ z e1, r1, r2, by rw [ins_other z] at r3; exact r3, r4⟩

noncomputable def TurnK (J : Vars → Mu → Prop) (K : Out → Prop) : Out → Prop
  | .next v m => ∃ v' m', Sub v' v ∧ m'.Sublist m ∧ J v' m'
  | .cont v m => ∃ v' m', Sub v' v ∧ m'.Sublist m ∧ J v' m'
  | .brk v m => K (.next v m)
  | .ret d => K (.ret d)
  | .exc _ _ _ => False

end
end Mine
end

section
set_option tactic.hygienic false
open PySem PySem.W PyProof.Rows PySem.Calls PySem.SeqAt
set_option linter.unusedVariables false
set_option maxRecDepth 100000
namespace Mine

noncomputable def clFrom (env : Env) : List (Str × NameKind) → List (Str × Addr) → List (Str × Addr)
  | [], acc => acc
  | (n, k) :: r, acc => if k == .free then clFrom env r ((n, (env.cells.lookup n).getD 0) :: acc) else clFrom env r acc
noncomputable def freeFound (env : Env) (names : List (Str × NameKind)) : Bool := names.all fun p => p.2 != .free || (env.cells.lookup p.1).isSome
theorem closure_is {scope : Scope} {env : Env} (h : freeFound env scope.names = true) : closureFor scope env = pure (clFrom env scope.names []) := by
  unfold closureFor
  have key : ∀ (names : List (Str × NameKind)) (acc : List (Str × Addr)), freeFound env names = true →
      (forIn names acc fun x cs => (if (x.2 == NameKind.free) = true then do let a ← cellOf env x.1; pure (ForInStep.yield ((x.1, a) :: cs)) else pure (ForInStep.yield cs) : Sem (ForInStep (List (Str × Addr))))) = pure (clFrom env names acc) := by
    intro names
    induction names with
    | nil => intro acc _; rfl
    | cons p r ih =>
      obtain ⟨n, k⟩ := p
      intro acc hf
      have hf' : ((k != NameKind.free || (env.cells.lookup n).isSome) && freeFound env r) = true := hf
      obtain ⟨h1, h2⟩ := Bool.and_eq_true_iff.mp hf'
      rw [List.forIn_cons]
      unfold clFrom
      by_cases hk : (k == NameKind.free) = true
      · have hs : (env.cells.lookup n).isSome = true := by
          rcases Bool.or_eq_true_iff.mp h1 with q | q
          · simp at q; simp [q] at hk
          · exact q
        obtain ⟨c, hc⟩ := Option.isSome_iff_exists.mp hs
        rw [if_pos hk, if_pos hk, hc]
        simp only [cellOf, hc, pure_bind, Option.getD_some]
        exact ih _ h2
      · rw [if_neg hk, if_neg hk]
        simp only [pure_bind]
        exact ih _ h2
  have := key scope.names [] h
  simpa using this

theorem clFrom_lookup {env : Env} : ∀ {names : List (Str × NameKind)} {acc : List (Str × Addr)} {x c}, freeFound env names = true → (clFrom env names acc).lookup x = some c → acc.lookup x = some c ∨ env.cells.lookup x = some c
  | [], _, _, _, _, h => .inl h
  | (n, k) :: r, acc, x, c, hf, h => by
    have hf' : ((k != NameKind.free || (env.cells.lookup n).isSome) && freeFound env r) = true := hf
    obtain ⟨h1, h2⟩ := Bool.and_eq_true_iff.mp hf'
    unfold clFrom at h
    set_option tactic.hygienic true in split at h
    · rename_i hk
      rcases clFrom_lookup h2 h with q | q
      · by_cases hx : x = n
        · subst hx
          rw [lookup_cons_eq] at q
          rcases Bool.or_eq_true_iff.mp h1 with z | z
          · simp at z; simp [z] at hk
          · obtain ⟨c', hc⟩ := Option.isSome_iff_exists.mp z
            rw [hc] at q; simp at q; subst q; exact .inr hc
        · rw [lookup_cons_ne hx] at q; exact .inl q
      · exact .inr q
    · exact clFrom_lookup h2 h
theorem clFrom_acc {env : Env} : ∀ {names : List (Str × NameKind)} {acc : List (Str × Addr)} {x}, (∀ k, (x, k) ∈ names → k ≠ .free) → (clFrom env names acc).lookup x = acc.lookup x
  | [], _, _, _ => rfl
  | (n, k) :: r, acc, x, h => by
    unfold clFrom
    set_option tactic.hygienic true in split
    · rename_i hk
      rw [clFrom_acc (fun k hk => h k (.tail _ hk)), lookup_cons_ne]
      rintro rfl
      exact h k (.head _) (by simpa using hk)
    · exact clFrom_acc (fun k hk => h k (.tail _ hk))
theorem clFrom_free {env : Env} : ∀ {names : List (Str × NameKind)} {acc : List (Str × Addr)} {x c}, (x, NameKind.free) ∈ names → env.cells.lookup x = some c → (clFrom env names acc).lookup x = some c
  | (n, k) :: r, acc, x, c, h, hc => by
    unfold clFrom
    by_cases hr : (x, NameKind.free) ∈ r
    · split <;> exact clFrom_free hr hc
    · rcases List.mem_cons.mp h with e | h
      · cases e
        rw [if_pos (by simp), clFrom_acc (fun k hk e => hr (e ▸ hk)), lookup_cons_eq, hc]; rfl
      · exact absurd h hr

theorem cellsFrom_lookup : ∀ {names : List (Str × NameKind)} {h : Heap} {acc : List (Str × Addr)} {x c}, (cellsFrom h.objs.size names acc).lookup x = some c → acc.lookup x = some c ∨ ((pushCells h names).IsCell c none ∧ h.objs.size ≤ c)
  | [], _, _, _, _, e => .inl e
  | (n, k) :: r, h, acc, x, c, e => by
    unfold cellsFrom at e
    unfold pushCells
    set_option tactic.hygienic true in split at e
    · rename_i hk
      rw [if_pos hk]
      have e' : (cellsFrom (h.push { cls := .type "cell", data := .cell none }).objs.size r ((n, h.objs.size) :: acc)).lookup x = some c := by rw [Heap.size_push]; exact e
      rcases cellsFrom_lookup e' with q | ⟨q1, q2⟩
      · by_cases hx : x = n
        · subst hx; rw [lookup_cons_eq] at q; cases q
          exact .inr ⟨⟨_, pushCells_keeps _ _ _ _ (Heap.get?_push_size _ rfl), rfl⟩, Nat.le_refl _⟩
        · rw [lookup_cons_ne hx] at q; exact .inl q
      · rw [Heap.size_push] at q2; exact .inr ⟨q1, by (first | exact Nat.le_of_lt (by assumption) | lia | omega)⟩
    · rename_i hk
      rw [if_neg hk]
      exact cellsFrom_lookup e
theorem cellsFrom_inj : ∀ {names : List (Str × NameKind)} {n : Nat} {acc : List (Str × Addr)}, (∀ x y c, acc.lookup x = some c → acc.lookup y = some c → x = y) → (∀ x c, acc.lookup x = some c → c < n) →
    ∀ x y c, (cellsFrom n names acc).lookup x = some c → (cellsFrom n names acc).lookup y = some c → x = y
  | [], _, _, h1, _ => h1
  | (nm, k) :: r, n, acc, h1, h2 => by
    unfold cellsFrom
    split
    · refine cellsFrom_inj (fun x y c e1 e2 => ?_) (fun x c e => ?_)
      · by_cases hx : x = nm <;> by_cases hy : y = nm
        · rw [hx, hy]
        · subst hx; rw [lookup_cons_eq] at e1; rw [lookup_cons_ne hy] at e2; cases e1; exact absurd (h2 _ _ e2) (Nat.lt_irrefl _)
        · subst hy; rw [lookup_cons_eq] at e2; rw [lookup_cons_ne hx] at e1; cases e2; exact absurd (h2 _ _ e1) (Nat.lt_irrefl _)
        · rw [lookup_cons_ne hx] at e1; rw [lookup_cons_ne hy] at e2; exact h1 x y c e1 e2
      · by_cases hx : x = nm
        · subst hx; rw [lookup_cons_eq] at e; cases e; exact Nat.lt_succ_self _
        · rw [lookup_cons_ne hx] at e; exact Nat.lt_succ_of_lt (h2 x c e)
    · exact cellsFrom_inj h1 h2
theorem cellsFrom_not : ∀ {names : List (Str × NameKind)} {n : Nat} {acc : List (Str × Addr)} {x}, (∀ k, (x, k) ∈ names → k ≠ .cell) → (cellsFrom n names acc).lookup x = acc.lookup x
  | [], _, _, _, _ => rfl
  | (nm, k) :: r, n, acc, x, h => by
    unfold cellsFrom
    set_option tactic.hygienic true in split
    · rename_i hk
      rw [cellsFrom_not (fun k hk => h k (.tail _ hk)), lookup_cons_ne]
      rintro rfl; exact h k (.head _) (by simpa using hk)
    · exact cellsFrom_not (fun k hk => h k (.tail _ hk))

noncomputable def cEnv (scope : Scope) (C : Addr) (env : Env) : Env :=
  { scope := relabel scope env, locals := C, globals := env.globals, cells := cellsFrom (C + 1) scope.names (clFrom env scope.names []), qual := env.qual, func := none, code := env.code, frame := env.frame, builtins := env.builtins }

theorem wpAny_newCompEnv {M : Model} {A : Around} {E : Value → Shared → Prop} {s : Shared} {scope : Scope} {globals : Addr} {cl : List (Str × Addr)} {qual : Str} {outer : Env} {Q : Env → Shared → Prop}
    (hQ : Q { scope, locals := s.heap.objs.size, globals, cells := cellsFrom (s.heap.objs.size + 1) scope.names cl, qual, func := none, code := outer.code, frame := outer.frame, builtins := outer.builtins }
      { s with heap := pushCells (s.heap.push { cls := .type "dict", data := .dict #[] }) scope.names }) :
    wpAny M A (newFunctionEnv scope globals cl [] qual none .none (some outer)) Q E s := by
  simp only [newFunctionEnv, Option.isSome_some, if_true]
  refine wpAny_bind (wpAny_alloc ?_)
  refine wpAny_bind (wpAny_layCells _ (fun name kind cells => by cases hkc : kind == NameKind.cell <;> simp [hkc]) _ _ _ _ ?_)
  rw [show ({ s with heap := s.heap.push { cls := .type "dict", data := .dict #[] } } : Shared).heap.objs.size = s.heap.objs.size + 1 from Heap.size_push ..]
  simp only [List.forIn_nil]
  exact wpAny_bind (wpAny_pure (wpAny_pure hQ))

noncomputable def rest (g : PMap) (mu : Mu) (h : Heap) : PMap := fun b => if (g b).isSome || (mu.map (·.1)).contains b then none else h.get? b
theorem rest_some {g : PMap} {mu : Mu} {h : Heap} {b : Addr} {o : Obj} (e : rest g mu h b = some o) : h.get? b = some o ∧ g b = none ∧ b ∉ mu.map (·.1) := by
  unfold rest at e
  set_option tactic.hygienic true in split at e
  · cases e
  · rename_i hc
    simp only [Bool.or_eq_true, not_or, Bool.not_eq_true, Option.isSome_eq_false_iff, Option.isNone_iff_eq_none] at hc
    exact ⟨e, hc.1, fun hm => by have := hc.2; rw [List.contains_iff_mem.mpr hm] at this; cases this⟩
theorem rest_of {g : PMap} {mu : Mu} {h : Heap} {b : Addr} {o : Obj} (e : h.get? b = some o) (hg : g b = none) (hm : b ∉ mu.map (·.1)) : rest g mu h b = some o := by
  unfold rest
  rw [if_neg]
  · exact e
  · simp only [Bool.or_eq_true, not_or, hg, Option.isSome_none, Bool.false_eq_true, not_false_eq_true, true_and]
    intro q; exact hm (List.contains_iff_mem.mp q)
theorem rest_none {g : PMap} {mu : Mu} {h : Heap} {b : Addr} (e : h.get? b = none) : rest g mu h b = none := by
  cases q : rest g mu h b with
  | none => rfl
  | some o => rw [(rest_some q).1] at e; cases e

noncomputable def Over (scope : Scope) (env : Env) (vars' vars : Vars) : Prop := ∀ x d, vars'.lookup x = some d → vars.lookup x = some d ∧ scope.names.lookup x = some .free ∧ env.kindOf x ≠ some .local
theorem Over.nil {scope env vars} : Over scope env [] vars := fun x d e => by cases e
theorem Over.cons {scope env vars' vars x d} (h : vars.lookup x = some d) (k : scope.names.lookup x = some .free) (nl : (env.kindOf x == some .local) = false) (s : Over scope env vars' vars) : Over scope env ((x, d) :: vars') vars := fun y e q => by
  by_cases hb : y = x
  · subst hb; rw [lookup_cons_eq] at q; cases q; exact ⟨h, k, fun z => by rw [z] at nl; simp at nl⟩
  · rw [lookup_cons_ne hb] at q; exact s y e q

structure BlockOk (scope : Scope) (env : Env) : Prop where
  found : freeFound env scope.names = true
  kind : scope.kind = .function
  nodup : (scope.names.map (·.1)).Nodup

theorem lookup_mem_nodup {α : Type} {x : Str} {a b : α} {l : List (Str × α)} : (l.map (·.1)).Nodup → l.lookup x = some a → (x, b) ∈ l → b = a := by
  induction l with
  | nil => exact fun z_ h => nomatch h
  | cons p r ih =>
    intro hn h1 h2
    obtain ⟨n1, n2⟩ := List.nodup_cons.mp hn
    rcases List.mem_cons.mp h2 with e | e
    · cases e
      rw [lookup_cons_eq] at h1
      exact Option.some.inj h1
    · by_cases hx : x = p.1
      · exact absurd (List.mem_map.mpr ⟨_, e, hx⟩) n1
      · exact ih n2 ((lookup_cons_ne hx).symm.trans h1) e

theorem relabel_lookup {env : Env} {x : Str} {k} {names : List (Str × NameKind)} : names.lookup x = some k →
    (names.map fun (n, k) => if (k == NameKind.free && env.scope.kind == .function && env.kindOf n == some .cell) then (n, NameKind.cell) else (n, k)).lookup x = some (if (k == NameKind.free && env.scope.kind == .function && env.kindOf x == some .cell) then .cell else k) := by
  induction names with
  | nil => exact fun h => nomatch h
  | cons p r ih =>
    intro h
    rw [List.map_cons]
    by_cases hx : x = p.1
    · subst hx
      cases (lookup_cons_eq (v := r) (x := p.1) (d := p.2)).symm.trans h
      dsimp only
      split <;> rw [lookup_cons_eq]
    · have ih := ih ((lookup_cons_ne hx).symm.trans h)
      dsimp only
      split <;> rw [lookup_cons_ne hx] <;> exact ih

section
variable {W : Wk} {A : Around} {hid : PMap} {env : Env} {vars : Vars} {mu : Mu} {K K' : Out → Prop}

theorem Rep.comp {scope : Scope} {vars' : Vars} {g h h2} (B : BlockOk scope env) (hk : env.scope.kind = .function) (R : Rep W hid g env vars mu h) (k2 : Kept h h2) (hv : Over scope env vars' vars) :
    Rep W (rest g mu h) g (cEnv scope h2.objs.size env) vars' mu (pushCells (h2.push { cls := .type "dict", data := .dict #[] }) scope.names) := by
  have kp : Kept h2 (pushCells (h2.push { cls := .type "dict", data := .dict #[] }) scope.names) := fun b o e => pushCells_keeps _ _ b o (Heap.get?_push_of_some _ e)
  have k := kept_trans k2 kp
  have hC2 : h2.get? h2.objs.size = none := Rep.fresh_size
  have hC : h.get? h2.objs.size = none := by
    cases q : h.get? h2.objs.size with
    | none => rfl
    | some o => rw [k2 _ _ q] at hC2; cases hC2
  have hns : (pushCells (h2.push { cls := .type "dict", data := .dict #[] }) scope.names).Ns h2.objs.size fun z_ => none := (Heap.Ns.new h2 (.type "dict")).keeps (pushCells_keeps _ _)
  have hcl : ∀ x c, (clFrom env scope.names []).lookup x = some c → env.cells.lookup x = some c := fun x c e => (clFrom_lookup B.found e).elim (fun q => by cases q) id
  have hcells : ∀ x c, (cEnv scope h2.objs.size env).cells.lookup x = some c → env.cells.lookup x = some c ∨ ((pushCells (h2.push { cls := .type "dict", data := .dict #[] }) scope.names).IsCell c none ∧ h2.objs.size < c) := by
    intro x c e
    have e' : (cellsFrom (h2.push { cls := .type "dict", data := .dict #[] }).objs.size scope.names (clFrom env scope.names [])).lookup x = some c := by rw [Heap.size_push]; exact e
    rcases cellsFrom_lookup e' with q | ⟨q1, q2⟩
    · exact .inl (hcl x c q)
    · rw [Heap.size_push] at q2; exact .inr ⟨q1, q2⟩
  have old : ∀ {c}, h2.objs.size < c → h.get? c = none := fun {c} hlt => by
    cases q : h.get? c with
    | none => rfl
    | some o => exact absurd (Heap.lt_size (k2 _ _ q)) (Nat.not_lt.mpr (Nat.le_of_lt hlt))
  have Rk := R.keeps k
  refine ⟨R.bs, fun a o e => k _ _ (R.gs a o e), fun a o e => .of (k _ _ (rest_some e).1), fun a o e => ?_, ⟨_, hns⟩, fun x d e => ?_, R.gnone hC, rest_none hC, fun x c e => ?_, ?_, fun a l e => ?_, R.mnd⟩
  · cases q : rest g mu h a with
    | none => rfl
    | some o' => rw [(rest_some q).2.1] at e; cases e
  · obtain ⟨e1, e2, e3⟩ := hv x d e
    obtain ⟨u, i, hdb, hva⟩ := Rk.vs x d e1
    have hmem : (x, NameKind.free) ∈ scope.names := mem_of_lookup e2
    rcases hva with ⟨hl, _⟩ | ⟨c, hk', hc, hv'⟩
    · exact absurd hl e3
    · have hce : (cEnv scope h2.objs.size env).cells.lookup x = some c := by
        show (cellsFrom _ scope.names _).lookup x = some c
        rw [cellsFrom_not (fun k hk => by rw [lookup_mem_nodup B.nodup e2 hk]; intro q; cases q)]
        exact clFrom_free hmem hc
      have hkind : (cEnv scope h2.objs.size env).kindOf x = some (if (NameKind.free == NameKind.free && env.scope.kind == .function && env.kindOf x == some .cell) then .cell else .free) := relabel_lookup (env := env) e2
      refine ⟨u, i, hdb, .inr ⟨c, ?_, hce, hv'⟩⟩
      rw [hkind]
      set_option tactic.hygienic true in split
      · exact .inl rfl
      · rename_i hn
        rcases hk' with q | ⟨q, q2⟩
        · exact absurd (by rw [hk, q]; rfl) hn
        · exact .inr ⟨rfl, q2⟩
  · rcases hcells x c e with q | ⟨q1, q2⟩
    · obtain ⟨⟨v, hv'⟩, r1, r2⟩ := Rk.cell x c q
      obtain ⟨⟨v0, oc, hv0, _⟩, _⟩ := R.cell x c q
      exact ⟨⟨v, hv'⟩, r1, fun z => by rw [show (cEnv scope h2.objs.size env).locals = h2.objs.size from rfl] at z; rw [z, hC] at hv0; cases hv0⟩
    · exact ⟨⟨_, q1⟩, R.gnone (old q2), fun z => Nat.lt_irrefl _ (by rw [show (cEnv scope h2.objs.size env).locals = h2.objs.size from rfl] at z; rw [z] at q2; exact q2)⟩
  · refine cellsFrom_inj (fun x y c e1 e2 => R.cnd x y c (hcl x c e1) (hcl y c e2)) fun x c e => ?_
    obtain ⟨⟨v, oc, e1, _⟩, _⟩ := R.cell x c (hcl x c e)
    exact Nat.lt_succ_of_lt (Heap.lt_size (k2 _ _ e1))
  · obtain ⟨vs, n, e1, r1, r2, r3, r4, r5⟩ := R.mus a l e
    have hma : a ∈ mu.map (·.1) := List.mem_map.mpr ⟨_, e, rfl⟩
    refine ⟨vs, n, k _ _ e1, r1, r2, ?_, fun z => ?_, fun x c q => ?_⟩
    · cases q : rest g mu h a with
      | none => rfl
      | some o' => exact absurd hma (rest_some q).2.2
    · rw [show (cEnv scope h2.objs.size env).locals = h2.objs.size from rfl] at z; rw [z, hC] at e1; cases e1
    · rcases hcells x c q with q | ⟨_, q2⟩
      · exact r5 x c q
      · rintro rfl; rw [old q2] at e1; cases e1

structure Lone (W : Wk) (hid g : PMap) (env : Env) (mu : Mu) (a : Addr) : Prop where
  g : g a = none
  hid : hid a = none
  loc : a ≠ env.locals
  cell : ∀ x c, env.cells.lookup x = some c → c ≠ a
  mu : a ∉ mu.map (·.1)
theorem Rep.lone {g h a} (R : Rep W hid g env vars mu h) (e : h.get? a = none) : Lone W hid g env mu a where
  g := R.gnone e
  hid := R.hnone e
  loc := fun z => by obtain ⟨m, _, _, _, q, _⟩ := R.ns; rw [z, q] at e; cases e
  cell := fun x c q z => by obtain ⟨⟨v, oc, e1, _⟩, _⟩ := R.cell x c q; rw [z, e] at e1; cases e1
  mu := fun hm => by
    obtain ⟨p, hp, rfl⟩ := List.mem_map.mp hm
    obtain ⟨vs, n, e1, _⟩ := R.mus p.1 p.2 hp
    rw [e] at e1; cases e1
theorem Rep.hideAt {g h a o} (R : Rep W hid g env vars mu h) (L : Lone W hid g env mu a) (e : h.get? a = some o) : Rep W (ins hid a o) g env vars mu h := by
  refine ⟨R.bs, R.gs, fun b o' q => ?_, fun b o' q => ?_, R.ns, R.vs, R.gL, by rw [ins_other (Ne.symm L.loc)]; exact R.hL, R.cell, R.cnd, fun b l q => ?_, R.mnd⟩
  · by_cases z : b = a
    · subst z; rw [ins_same] at q; cases q; exact .of e
    · rw [ins_other z] at q; exact R.hs b o' q
  · rw [ins_other (fun z => by rw [z, L.g] at q; cases q)]; exact R.gh b o' q
  · obtain ⟨vs, n, e1, r1, r2, r3, r4⟩ := R.mus b l q
    exact ⟨vs, n, e1, r1, r2, by rw [ins_other (fun z : b = a => L.mu (List.mem_map.mpr ⟨_, q, z⟩))]; exact r3, r4⟩
theorem Rep.freezeAt {g h a o} (R : Rep W hid g env vars mu h) (L : Lone W hid g env mu a) (e : h.get? a = some o) : Rep W hid (ins g a o) env vars mu h := by
  have lle := le_ins (o := o) L.g
  refine ⟨fun b o q => lle _ _ (R.bs b o q), fun b o' q => ?_, R.hs, fun b o' q => ?_, R.ns, fun x d e => let ⟨u, i, v⟩ := R.vs x d e; ⟨u, i.mono lle, v⟩, by rw [ins_other (Ne.symm L.loc)]; exact R.gL, R.hL, fun x c q => ?_, R.cnd, fun b l q => ?_, R.mnd⟩
  · by_cases z : b = a
    · subst z; rw [ins_same] at q; cases q; exact e
    · rw [ins_other z] at q; exact R.gs b o' q
  · by_cases z : b = a
    · subst z; exact L.hid
    · rw [ins_other z] at q; exact R.gh b o' q
  · obtain ⟨k1, k2, k3⟩ := R.cell x c q
    exact ⟨k1, by rw [ins_other (L.cell x c q)]; exact k2, k3⟩
  · obtain ⟨vs, n, e1, r1, r2, r3, r4⟩ := R.mus b l q
    exact ⟨vs, n, e1, r1.mono lle, by rw [ins_other (fun z : b = a => L.mu (List.mem_map.mpr ⟨_, q, z⟩))]; exact r2, r3, r4⟩
theorem Rep.own {g h a l vs n} (R : Rep W hid g env vars mu h) (L : Lone W hid g env mu a) (e : h.get? a = some (lobj vs n)) (i : Iss g l vs.toList) : Rep W hid g env vars ((a, l) :: mu) h :=
  ⟨R.bs, R.gs, R.hs, R.gh, R.ns, R.vs, R.gL, R.hL, R.cell, R.cnd, fun b lb q => by
    rcases List.mem_cons.mp q with q | q
    · cases q; exact ⟨vs, n, e, i, L.g, L.hid, L.loc, L.cell⟩
    · exact R.mus b lb q, List.nodup_cons.mpr ⟨L.mu, R.mnd⟩⟩

theorem Rep.back {g g' h h' mu₂} (R : Rep W hid g env vars mu h) (l : Le g g') (RE : RepE W (rest g mu₂ h) g' h') (hsub : ∀ a, a ∈ mu₂.map (·.1) → a ∈ mu.map (·.1))
    (hm : ∀ a l, (a, l) ∈ mu → a ∈ mu₂.map (·.1) → ∃ vs n, h'.get? a = some (lobj vs n) ∧ Iss g' l vs.toList ∧ g' a = none) : Rep W hid g' env vars mu h' := by
  have up : ∀ {a o}, h.get? a = some o → g a = none → a ∉ mu₂.map (·.1) → UpTo o h' a ∧ g' a = none := fun {a o} e hg hmm => by
    have e' := rest_of e hg hmm
    refine ⟨RE.hs a o e', ?_⟩
    cases q : g' a with
    | none => rfl
    | some x => have := RE.gh a x q; rw [e'] at this; cases this
  have muL : ∀ {a}, a ∈ mu₂.map (·.1) → g a = none ∧ hid a = none ∧ a ≠ env.locals ∧ ∀ x c, env.cells.lookup x = some c → c ≠ a := fun {a} hma => by
    obtain ⟨p, hp, rfl⟩ := List.mem_map.mp (hsub _ hma)
    obtain ⟨_, _, _, _, r1, r2, r3, r4⟩ := R.mus p.1 p.2 hp
    exact ⟨r1, r2, r3, r4⟩
  have ns' : ∀ {m}, h.Ns env.locals m → h'.Ns env.locals m := fun hn => by
    obtain ⟨o, es, ep, e1, e2, r⟩ := hn
    obtain ⟨⟨sl, q, _⟩, _⟩ := up e1 R.gL (fun hma => (muL hma).2.2.1 rfl)
    exact ⟨_, es, ep, q, e2, r⟩
  have cell' : ∀ {x c v}, env.cells.lookup x = some c → h.IsCell c v → h'.IsCell c v ∧ g' c = none := fun hc hv => by
    obtain ⟨o, e1, e2⟩ := hv
    obtain ⟨⟨sl, q, _⟩, q2⟩ := up e1 (R.cell _ _ hc).2.1 (fun hma => (muL hma).2.2.2 _ _ hc rfl)
    exact ⟨⟨_, q, e2⟩, q2⟩
  refine ⟨RE.bs, RE.gs, fun a o e => ?_, fun a o e => ?_, ?_, fun x d e => ?_, ?_, R.hL, fun x c e => ?_, R.cnd, fun a lb e => ?_, R.mnd⟩
  · obtain ⟨sl, e1, e2⟩ := R.hs a o e
    have hg : g a = none := by
      cases q : g a with
      | none => rfl
      | some x => have := R.gh a x q; rw [e] at this; cases this
    obtain ⟨⟨sl', q1, q2⟩, _⟩ := up e1 hg (fun hma => by have := (muL hma).2.1; rw [e] at this; cases this)
    exact ⟨sl', q1, fun hf => (q2 hf).trans (e2 hf)⟩
  · cases q : hid a with
    | none => rfl
    | some o' =>
      obtain ⟨sl, e1, _⟩ := R.hs a o' q
      have hg : g a = none := by
        cases q' : g a with
        | none => rfl
        | some x => have := R.gh a x q'; rw [q] at this; cases this
      obtain ⟨_, q2⟩ := up e1 hg (fun hma => by have := (muL hma).2.1; rw [q] at this; cases this)
      rw [q2] at e; cases e
  · obtain ⟨m, hn⟩ := R.ns; exact ⟨m, ns' hn⟩
  · obtain ⟨u, i, hd, ⟨hl, m, hn, hm'⟩ | ⟨c, hk, hc, hv⟩⟩ := R.vs x d e
    · exact ⟨u, i.mono l, hd, .inl ⟨hl, m, ns' hn, hm'⟩⟩
    · exact ⟨u, i.mono l, hd, .inr ⟨c, hk, hc, (cell' hc hv).1⟩⟩
  · obtain ⟨m, o, es, ep, e1, _⟩ := R.ns
    exact (up e1 R.gL (fun hma => (muL hma).2.2.1 rfl)).2
  · obtain ⟨⟨v, hv⟩, r1, r2⟩ := R.cell x c e
    exact ⟨⟨v, (cell' e hv).1⟩, (cell' e hv).2, r2⟩
  · obtain ⟨vs, n, e1, r1, r2, r3, r4⟩ := R.mus a lb e
    by_cases hma : a ∈ mu₂.map (·.1)
    · obtain ⟨vs', n', e1', r1', r2'⟩ := hm a lb e hma
      exact ⟨vs', n', e1', r1', r2', r3, r4⟩
    · obtain ⟨⟨sl', q, q3⟩, q2⟩ := up e1 r2 hma
      have hs : sl' = #[] := q3 (fun es ep (z : Data.seq vs n = Data.dict es ep) => nomatch z)
      subst hs
      exact ⟨vs, n, q, r1.mono l, q2, r3, r4⟩
end
end Mine
end

section
set_option tactic.hygienic false
open PySem PySem.W PyProof.Rows PySem.Calls PySem.SeqAt
set_option linter.unusedVariables false
set_option maxRecDepth 100000
namespace Mine
section
variable {W : Wk} {A : Around} {hid : PMap} {env : Env} {vars : Vars} {mu : Mu} {K K' : Out → Prop}

theorem iter_self {h : Heap} {t : Nat} {d : PV} {u : Value} {I : Addr} {i : Nat} {Q : Value → Shared → Prop} {E} (x : ItAt u d i I h) (k : Q (.ref I) (W.S h t)) : wpAny W.M A (pyIter (.ref I)) Q E (W.S h t) := by
  cases x with
  | list _ _ _ q => exact wpAny_pyIter_listiter (s := W.S h t) q k
  | tup _ q => exact wpAny_pyIter_tupleiter (s := W.S h t) q k
  | rng q => exact wpAny_pyIter_rangeiter (s := W.S h t) q k

theorem append_K {h : Heap} {t : Nat} {D : Addr} {vs : Array Value} {n : Nat} {x : Value} {Q : Value → Shared → Prop} {E} (e : h.get? D = some (lobj vs n)) (hs : vs.size ≤ 100000)
    (k : ∀ h' n', h'.get? D = some (lobj (vs.push x) n') → Heap.SameBut D h h' → Q .none (W.S h' t)) : wpAny W.M A (call (.builtin "list.append") [.ref D, x]) Q E (W.S h t) := by
  have T : (W.S h t).TypeIs (.ref D) "list" := ⟨_, e, rfl⟩
  exact call_meets slot_list_append T entry_list_append (args_list_append _ _) (PySem.list_append D vs n x (by rw [sizeLine_eq]; (first | lia | omega))) ⟨e, k _ _ (IsL.update e (·.push x)) (Heap.SameBut.update ..)⟩

noncomputable def Tests (W : Wk) (A : Around) (hid : PMap) (env : Env) (vars : Vars) (mu : Mu) (ifs : List Expr) (b : Bool) : Prop :=
  ∀ g h t (Q : Bool → Shared → Prop) (E : Value → Shared → Prop), Rep W hid g env vars mu h → (∀ g' h' t', Le g g' → Rep W hid g' env vars mu h' → Q b (W.S h' t')) →
    wpAny W.M A (forIn ifs true fun c r => if r = true then do let ok ← isTrue c env (eval c env); pure (ForInStep.yield ok) else pure (ForInStep.yield r)) Q E (W.S h t)
theorem tests_nil : Tests W A hid env vars mu [] true := fun g h t Q E R k => wpAny_tests_nil (k g h t (Le.refl g) R)
theorem tests_one {c b} (hc : Tr W A hid env vars mu c b) : Tests W A hid env vars mu [c] b := fun g h t Q E R k => wpAny_tests_one (hc g h t Q E R k)

noncomputable def Tgt (W : Wk) (A : Around) (hid : PMap) (env : Env) (vars : Vars) (mu : Mu) (target : Expr) (a : PV) (vars' : Vars) : Prop :=
  ∀ g h t v (Q : Unit → Shared → Prop) (E : Value → Shared → Prop), Rep W hid g env vars mu h → Is g a v → (∀ h' t', Rep W hid g env vars' mu h' → Q () (W.S h' t')) → wpAny W.M A (assign target env v) Q E (W.S h t)
theorem tgt_name {x : Str} {p : Pos} {a} (hs : Sto hid env x) (hk : env.scope.kind = .function) (hd : (x == ("__debug__" : Str)) = false) : Tgt W A hid env vars mu (.Name x p) a ((x, a) :: vars) := fun g h t v Q E R i k =>
  wpAny_assign_Name (store_K hs hk hd R i k)

theorem store_own {scope : Scope} {C : Addr} {x : Str} (hid : PMap) (h : (scope.names.lookup x = some .local)) : Sto hid (cEnv scope C env) x := .loc (lookup_relabel_local h)

noncomputable def OwnFree (hid : PMap) (scope : Scope) (C : Addr) (env : Env) : Prop := ∀ x c, scope.names.lookup x = some .cell → (cEnv scope C env).cells.lookup x = some c → hid c = none
theorem sto_cell {scope : Scope} {C : Addr} {x : Str} (hn : (scope.names.map (·.1)).Nodup) (h : scope.names.lookup x = some .cell) (o : OwnFree hid scope C env) : Sto hid (cEnv scope C env) x := by
  have key : ∀ {names : List (Str × NameKind)} {n : Nat} {acc : List (Str × Addr)}, (x, NameKind.cell) ∈ names → ∃ c, (cellsFrom n names acc).lookup x = some c := by
    intro names
    induction names with
    | nil => intro n acc hm; cases hm
    | cons p r ih =>
      obtain ⟨nm, k⟩ := p
      intro n acc hm
      unfold cellsFrom
      by_cases hr : (x, NameKind.cell) ∈ r
      · split <;> exact ih hr
      · rcases List.mem_cons.mp hm with e | e
        · cases e
          rw [if_pos (by simp), cellsFrom_not (fun k hk e => hr (e ▸ hk)), lookup_cons_eq]
          exact ⟨_, rfl⟩
        · exact absurd e hr
  obtain ⟨c, hc⟩ := key (n := C + 1) (acc := clFrom env scope.names []) (mem_of_lookup h)
  refine .cell c ?_ hc (o x c h hc)
  have := relabel_lookup (env := env) h
  exact this

theorem ins_comm {g : PMap} {a b : Addr} {o o' : Obj} (h : a ≠ b) : ins (ins g a o) b o' = ins (ins g b o') a o := by
  funext x
  unfold ins
  by_cases h1 : x = b
  · subst h1; simp [Ne.symm h]
  · simp [h1]
theorem cellsFrom_ge : ∀ {names : List (Str × NameKind)} {n : Nat} {acc : List (Str × Addr)} {x c}, (cellsFrom n names acc).lookup x = some c → acc.lookup x = some c ∨ n ≤ c
  | [], _, _, _, _, e => .inl e
  | (nm, k) :: r, n, acc, x, c, e => by
    unfold cellsFrom at e
    split at e
    · rcases cellsFrom_ge e with q | q
      · by_cases hx : x = nm
        · subst hx; rw [lookup_cons_eq] at q; cases q; exact .inr (Nat.le_refl _)
        · rw [lookup_cons_ne hx] at q; exact .inl q
      · exact .inr (Nat.le_of_succ_le q)
    · exact cellsFrom_ge e
theorem cEnv_cells {scope : Scope} {C : Addr} {x c} (B : freeFound env scope.names = true) (e : (cEnv scope C env).cells.lookup x = some c) : env.cells.lookup x = some c ∨ C < c := by
  rcases cellsFrom_ge e with q | q
  · exact .inl ((clFrom_lookup B q).elim (fun q => by cases q) id)
  · exact .inr q
theorem cEnv_own {scope : Scope} {C : Addr} {x c} (hn : (scope.names.map (·.1)).Nodup) (h : scope.names.lookup x = some .cell) (e : (cEnv scope C env).cells.lookup x = some c) : C < c := by
  rcases cellsFrom_ge e with q | q
  · rw [clFrom_acc (fun k hk => by rw [lookup_mem_nodup hn h hk]; intro z; cases z)] at q; cases q
  · exact q

structure NewL (W : Wk) (hid g : PMap) (env : Env) (mu : Mu) (h : Heap) (D : Addr) (ds : List PV) : Prop where
  lone : Lone W hid g env mu D
  obj : ∃ vs n, h.get? D = some (lobj vs n) ∧ Iss g ds vs.toList

inductive LoOk (mu : Mu) (target : Expr) (d : PV) (its : List PV) : Prop where
  | any : (∀ v it, letOwnedTupleGo target it v = pure ()) → LoOk mu target d its
  | tup {es n p} : target = .Tuple es n p → AsList mu d its → (∀ a, a ∈ its → ∃ l, a = .tup l) → LoOk mu target d its
theorem LoOk.run {target : Expr} {d : PV} {its : List PV} {u : Value} {i : Nat} {I : Addr} {h : Heap} {t : Nat} {g : PMap} {a : PV} {v : Value} {Q : Unit → Shared → Prop} {E} (lo : LoOk mu target d its) (x : ItAt u d i I h) (ha : a ∈ its) (iv : Is g a v) (q : Q () (W.S h t)) : wpAny W.M A (letOwnedTupleGo target (.ref I) v) Q E (W.S h t) := by
  cases lo with
  | any e => rw [e]; exact wpAny_pure q
  | tup e hl ht =>
    subst e
    obtain ⟨l, rfl⟩ := ht a ha
    cases iv with
    | tup e1 _ =>
      cases x with
      | list _ _ _ y => exact wpAny_letOwnedTupleGo_listiter (s := W.S h t) y q
      | tup _ _ => exact absurd rfl (hl.notTup.1 _)
      | rng _ => exact absurd rfl (hl.notTup.2 _ _)

theorem loop_tests {prog : Program} {w : World} {R : Result → Shared → Prop} {s : Shared} {elt target iter : Expr} {ifs : List Expr} {scope : Scope} {pos : Pos} {it acc : Value} {env : Env} (I : Nat → Shared → Prop)
    (turn : ∀ n s, I n s → wpAny (model prog w) A (pyNext it) (fun r s₁ => match r with
      | none => R (.ok .next) s₁
      | some v => wpAny (model prog w) A (letOwnedTupleGo target it v) (fun z_ s₀ => wpAny (model prog w) A (assign target env v) (fun z_ s₂ =>
          wpAny (model prog w) A (forIn ifs true fun c r => if r = true then do let ok ← isTrue c env (eval c env); pure (ForInStep.yield ok) else pure (ForInStep.yield r)) (fun ok s₃ =>
            if ok = true then wpAny (model prog w) A (eval elt env) (fun x s₄ =>
              wpAny (model prog w) A (call (.builtin "list.append") [acc, x]) (fun z_ s₅ => ∃ m, m < n ∧ I m s₅) (notedBy (model prog w) A env fun e s' => R (.error e) s') s₄) (notedBy (model prog w) A env fun e s' => R (.error e) s') s₃
            else ∃ m, m < n ∧ I m s₃) (notedBy (model prog w) A env fun e s' => R (.error e) s') s₂) (notedBy (model prog w) A env fun e s' => R (.error e) s') s₀) (notedBy (model prog w) A env fun e s' => R (.error e) s') s₁) (notedBy (model prog w) A env fun e s' => R (.error e) s') s)
    (n : Nat) (h : I n s) :
    codeAny (model prog w) A (.compLoop (.ListComp elt [⟨target, iter, ifs, 0⟩] scope pos) 0 it acc env) R s := by
  refine codeAny_loop rfl I (fun n s hI => ?_) n h
  show wpAny _ A ((compTurn (.ListComp elt [⟨target, iter, ifs, 0⟩] scope pos) 0 it acc env).onRaise (fun x => do noteFrame x env; theTreesLotGoes x)) _ _ s
  refine wpAny_noted ?_
  rw [compTurn_list]
  refine wpAny_bind (wpAny_standAt (wpAny_bind (wpAny_mono (turn n s hI) (fun r s₁ h₁ => ?_) fun z_ z_ h' => h')))
  cases r with
  | none => exact wpAny_pure h₁
  | some v =>
    refine wpAny_bind (wpAny_mono h₁ (fun z_ s₂ h₂ => wpAny_bind (wpAny_mono h₂ (fun z_ s₂ h₂ => wpAny_bind (wpAny_mono h₂ (fun ok s₃ h₃ => ?_) fun z_ z_ h' => h')) fun z_ z_ h' => h')) fun z_ z_ h' => h')
    cases ok with
    | false => exact wpAny_pure ⟨rfl, h₃⟩
    | true => exact wpAny_bind (wpAny_bind (wpAny_mono h₃ (fun x s₄ h₄ => wpAny_bind (wpAny_mono h₄ (fun z_ s₅ h₅ => wpAny_pure (wpAny_pure ⟨rfl, h₅⟩)) fun z_ z_ h' => h')) fun z_ z_ h' => h'))

inductive ListLoop (W : Wk) (hid0 g0 : PMap) (env : Env) (vars : Vars) (mu : Mu) (I D : Addr) (d : PV) (u : Value) (len : Nat) (out : Nat → List PV) (n : Nat) (s : Shared) : Prop where
  | mk (i : Nat) (g' : PMap) (h' : Heap) (t' : Nat) (oI : Obj) (vs : Array Value) (nn : Nat) : n = len + 1 - i → i ≤ len → s = W.S h' t' → Le g0 g' → h'.get? I = some oI → (∃ vs, oI.data = .fields vs) → ItAt u d i I h' →
    h'.get? D = some (lobj vs nn) → Iss g' (out i) vs.toList → Rep W (ins (ins hid0 D (lobj vs nn)) I oI) g' env vars mu h' → ListLoop W hid0 g0 env vars mu I D d u len out n s
noncomputable def appOut (ds0 its : List PV) (p : PV → Bool) (f : PV → PV) (i : Nat) : List PV := ds0 ++ ((its.take i).filter p).map f
theorem appOut_succ {ds0 its : List PV} {p : PV → Bool} {f : PV → PV} {i : Nat} {a : PV} (ha : its[i]? = some a) : appOut ds0 its p f (i + 1) = appOut ds0 its p f i ++ (if p a then [f a] else []) := by
  unfold appOut
  rw [take_succ_filter p its i a ha, List.map_append, List.append_assoc]
  cases p a <;> rfl

theorem list_turn {elt target : Expr} {ifs : List Expr} {cenv : Env} {hid0 g0 : PMap} {vv : Vars} {D I : Addr} {d : PV} {u : Value} {its ds0 : List PV} {p : PV → Bool} {f : PV → PV} {tv : PV → Vars} {n : Nat} {s : Shared} {RR : Shared → Prop} {E E0 E1 E2 E3 E4 : Value → Shared → Prop}
    (hh : A.handled = none) (hI0 : hid0 I = none) (hD0 : hid0 D = none) (hDI : D ≠ I) (hsrc : Src mu d its) (i1 : Is g0 d u) (hlen : ds0.length + its.length ≤ 100000) (hlo : LoOk mu target d its)
    (htgt : ∀ oD oI a, a ∈ its → Tgt W A (ins (ins hid0 D oD) I oI) cenv vv mu target a (tv a)) (htest : ∀ hid' a, a ∈ its → Tests W A hid' cenv (tv a) mu ifs (p a)) (helt : ∀ hid' a, a ∈ its → p a = true → Ev W A hid' cenv (tv a) mu elt (f a)) (hsub : ∀ a, a ∈ its → Sub vv (tv a))
    (inv : ListLoop W hid0 g0 cenv vv mu I D d u its.length (appOut ds0 its p f) n s)
    (fin : ∀ g' h' t' vs' nn', Le g0 g' → Rep W (ins hid0 D (lobj vs' nn')) g' cenv vv mu h' → h'.get? D = some (lobj vs' nn') → Iss g' (ds0 ++ (its.filter p).map f) vs'.toList → RR (W.S h' t')) :
    wpAny W.M A (pyNext (.ref I)) (fun r s₁ => match r with
      | none => RR s₁
      | some v => wpAny W.M A (letOwnedTupleGo target (.ref I) v) (fun z_ s₀ => wpAny W.M A (assign target cenv v) (fun z_ s₂ =>
          wpAny W.M A (forIn ifs true fun c r => if r = true then do let ok ← isTrue c cenv (eval c cenv); pure (ForInStep.yield ok) else pure (ForInStep.yield r)) (fun ok s₃ =>
            if ok = true then wpAny W.M A (eval elt cenv) (fun x s₄ =>
              wpAny W.M A (call (.builtin "list.append") [.ref D, x]) (fun z_ s₅ => ∃ m, m < n ∧ ListLoop W hid0 g0 cenv vv mu I D d u its.length (appOut ds0 its p f) m s₅) E4 s₄) E3 s₃
            else ∃ m, m < n ∧ ListLoop W hid0 g0 cenv vv mu I D d u its.length (appOut ds0 its p f) m s₃) E2 s₂) E1 s₀) E0 s₁) E s := by
  have hrI : ∀ oD, ins hid0 D oD I = none := fun oD => by rw [ins_other (Ne.symm hDI)]; exact hI0
  have hrD : ∀ oI, ins hid0 I oI D = none := fun oI => by rw [ins_other hDI]; exact hD0
  obtain ⟨i, g', h', t', oI, vs, nn, rfl, hile, rfl, lg, eIh, hoI, hita, eDh, iss, R'⟩ := inv
  refine iter_next hh R' hsrc (i1.mono lg) hita (fun a w h2 t2 ha iw hsb hit2 => ?_) fun hge h2 t2 hext => ?_
  · have hlt : i < its.length := (List.getElem?_eq_some_iff.mp ha).1
    have hmem : a ∈ its := List.mem_of_getElem? ha
    obtain ⟨o2, vs2, eo2, ef2⟩ := hit2.fields
    have R4 := R'.rehide (hrI _) (nocell_of hoI) hsb eo2
    refine hlo.run hit2 hmem iw (htgt _ _ a hmem g' h2 t2 w _ _ R4 iw fun h3 t3 R5 => ?_)
    refine htest _ a hmem g' h3 t3 _ _ R5 fun g4 h4 t4 l4 R6 => ?_
    have out := appOut_succ (ds0 := ds0) (p := p) (f := f) ha
    have fin2 : ∀ {gg hh tt vs' nn'}, Le g' gg → hh.get? D = some (lobj vs' nn') → Iss gg (appOut ds0 its p f (i + 1)) vs'.toList →
        Rep W (ins (ins hid0 D (lobj vs' nn')) I o2) gg cenv (tv a) mu hh → ∃ m, m < its.length + 1 - i ∧ ListLoop W hid0 g0 cenv vv mu I D d u its.length (appOut ds0 its p f) m (W.S hh tt) := by
      intro gg hh tt vs' nn' ll eD' is' RR
      have q3 := hit2.keep eo2 ef2 (RR.hs I o2 (ins_same _ _ _))
      exact ⟨its.length + 1 - (i + 1), turns_fall hlt, i + 1, gg, hh, tt, o2, vs', nn', rfl, hlt, rfl, lg.trans ll, q3.1, ⟨vs2, ef2⟩, q3.2, eD', is', RR.forget (hsub a hmem) (List.Sublist.refl _)⟩
    have getD : ∀ {gg hh vv}, Rep W (ins (ins hid0 D (lobj vs nn)) I o2) gg cenv vv mu hh → hh.get? D = some (lobj vs nn) := fun RR => by
      exact (RR.hs D _ (by rw [ins_other hDI, ins_same])).get fun es ep z => nomatch (show Data.seq vs nn = Data.dict es ep from z)
    cases hp : p a with
    | false =>
      simp only [Bool.false_eq_true, if_false]
      refine fin2 l4 (getD R6) ?_ R6
      rw [out, hp]; simpa using iss.mono l4
    | true =>
      simp only [if_true]
      refine helt _ a hmem hp g4 h4 t4 _ _ R6 fun y g5 h5 t5 l5 R7 iy => ?_
      have hvs : vs.size ≤ 100000 := by
        have := iss.length
        have h3 : (((its.take i).filter p).map f).length ≤ (its.take i).length := by rw [List.length_map]; exact List.length_filter_le _ _
        unfold appOut at this
        simp at this h3
        (first | (clear iy R7 l5 hp getD fin2 out R6 l4 R5 R4 ef2 eo2 hmem hit2 hsb iw ha R' iss eDh hita hoI eIh lg hrD hrI fin hsub helt htest htgt hlo i1 hsrc hDI hD0 hI0 hh hlt; lia) | lia | omega)
      refine append_K (getD R7) hvs fun h6 n6 e6 hs6 => ?_
      refine fin2 (l4.trans l5) e6 ?_ ?_
      · rw [out, hp]
        simpa using ((iss.mono (l4.trans l5)).append (.cons iy .nil))
      · have R8 := R7
        rw [ins_comm hDI] at R8 ⊢
        exact R8.rehide (hrD _) (fun v z => by cases z) hs6 e6
  · have e : i = its.length := by (first | lia | omega)
    subst e
    have R4 := R'.letgo (hrI _) (nocell_of hoI) hext
    unfold appOut at iss
    rw [List.take_length] at iss
    exact fin g' h2 t2 vs nn lg R4 (hext _ _ hDI eDh) iss

theorem comp_frame {elt target iter : Expr} {ifs : List Expr} {cls : List Comprehension} {scope : Scope} {pos cpos : Pos} {use : Option (Value → Sem Unit)} {d : PV} {its out : List PV} {vars' : Vars}
    {g h t} {Q : Value → Shared → Prop} {E : Value → Shared → Prop}
    (he : Ev W A hid env vars mu iter d) (hsrc : Src mu d its) (B : BlockOk scope env) (hk : env.scope.kind = .function) (hv : Over scope env vars' vars) (hf : ∀ x, foldedSetIterable iter env x = pure x)
    (R : Rep W hid g env vars mu h)
    (loop : ∀ D I C hid0 g1 h4 t u oI (RR : Result → Shared → Prop), Is g1 d u → ItAt u d 0 I h4 → (∃ vs, oI.data = .fields vs) → h4.get? I = some oI → h4.get? D = some (lobj #[] 0) → hid0 I = none → hid0 D = none → D ≠ I →
      Rep W (ins (ins hid0 D (lobj #[] 0)) I oI) g1 (cEnv scope C env) vars' mu h4 → (∀ oD oI, OwnFree (ins (ins hid0 D oD) I oI) scope C env) →
      (∀ g' h' t' vs nn, Le g1 g' → Rep W (ins hid0 D (lobj vs nn)) g' (cEnv scope C env) vars' mu h' → Iss g' out vs.toList → RR (.ok .next) (W.S h' t')) →
      codeAny W.M A (.compLoop (.ListComp elt (⟨target, iter, ifs, 0⟩ :: cls) scope pos) 0 (.ref I) (.ref D) (cEnv scope C env)) RR (W.S h4 t))
    (fin : ∀ C D g' h' t' oC, Le g g' → Rep W (ins hid C oC) g' env vars mu h' → hid C = none → (∀ v, oC.data ≠ .cell v) → (∀ h2, UpTo oC h2 C → ∃ m, h2.Ns C m) → NewL W (ins hid C oC) g' env mu h' D out → compPost W.M A E use Q (.ref D) C (.ok .next) (W.S h' t')) :
    wpAny W.M A (comprehension (.ListComp elt (⟨target, iter, ifs, 0⟩ :: cls) scope pos) scope env cpos (newList []) false (eval iter env) use) Q E (W.S h t) := by
  refine wpAny_comprehension_free rfl hf (closure_is B.found) B.kind (fun x hx hl => ?_) (he g h t _ E R fun u g1 h1 t1 l1 R1 i1 => iter_start R1 hsrc i1 fun o ho hit => wpAny_newObj_type ?_)
  · obtain ⟨k, hk'⟩ : ∃ k, scope.names.lookup x.1 = some k := by
      cases q : scope.names.lookup x.1 with
      | some k => exact ⟨k, rfl⟩
      | none => exact absurd hx (fun hm => by
          have : ∀ {l : List (Str × NameKind)}, (x.1, x.2) ∈ l → l.lookup x.1 ≠ none := by
            intro l; induction l with
            | nil => intro h; cases h
            | cons p r ih =>
              obtain ⟨n, k⟩ := p
              intro h
              by_cases e : x.1 = n
              · subst e; rw [lookup_cons_eq]; simp
              · rw [lookup_cons_ne e]
                rcases List.mem_cons.mp h with z | z
                · cases z; exact absurd rfl e
                · exact ih z
          exact this hm q)
    rw [hk', ← lookup_mem_nodup B.nodup hk' hx, hl]
  refine wpAny_newCompEnv ?_
  -- the addresses
  have I1 : h1.get? h1.objs.size = none := Rep.fresh_size
  have eI : (h1.push o).get? h1.objs.size = some o := Heap.get?_push_size _ ho
  have hsz : (h1.push o).objs.size = h1.objs.size + 1 := Heap.size_push ..
  have D1 : h1.get? (h1.push o).objs.size = none := by
    cases q : h1.get? (h1.push o).objs.size with
    | none => rfl
    | some o' => have := Heap.lt_size q; rw [hsz] at this; exact absurd this (Nat.not_lt.mpr (Nat.le_succ _))
  have eD : ((h1.push o).push { cls := .type "list", data := .seq #[] }).get? (h1.push o).objs.size = some { cls := .type "list", data := .seq #[] } := Heap.get?_push_size _ rfl
  have hDI : (h1.push o).objs.size ≠ h1.objs.size := by rw [hsz]; exact Nat.succ_ne_self _
  generalize hH : (h1.push o).push { cls := .type "list", data := .seq #[] } = H at *
  have kH : Kept h1 H := hH ▸ kept_trans (kept_push h1 o) (kept_push _ _)
  have eI' : H.get? h1.objs.size = some o := hH ▸ Heap.get?_push_of_some _ eI
  have hit' : ItAt u d 0 h1.objs.size H := hit.at fun o' q => hH ▸ Heap.get?_push_of_some _ q
  have hIH : h1.objs.size < H.objs.size := Heap.lt_size eI'
  have hDH : (h1.push o).objs.size < H.objs.size := Heap.lt_size eD
  have RC := R1.comp B hk kH hv
  have lone : ∀ {a}, h1.get? a = none → a < H.objs.size → Lone W (rest g1 mu h1) g1 (cEnv scope H.objs.size env) mu a := fun {a} ha hlt =>
    ⟨R1.gnone ha, rest_none ha, fun z => Nat.lt_irrefl _ (show H.objs.size < H.objs.size from (show a = H.objs.size from z) ▸ hlt), fun x c e z => by
      rcases cEnv_cells B.found e with q | q
      · exact (R1.lone ha).cell x c q z
      · rw [z] at q; exact Nat.lt_irrefl _ (Nat.lt_trans q hlt), (R1.lone ha).mu⟩
  have kP : Kept H (pushCells (H.push { cls := .type "dict", data := .dict #[] }) scope.names) := fun b o e => pushCells_keeps _ _ b o (Heap.get?_push_of_some _ e)
  have hC1 : h1.get? H.objs.size = none := by
    cases q : h1.get? H.objs.size with
    | none => rfl
    | some o' => exact absurd (Heap.lt_size (kH _ _ q)) (Nat.lt_irrefl _)
  show codeAny _ _ (.compStart _ 0 _ _ (cEnv scope H.objs.size env)) (compPost W.M A E use Q (.ref (h1.push o).objs.size) H.objs.size) _
  generalize hP : pushCells (H.push { cls := .type "dict", data := .dict #[] }) scope.names = H4 at *
  have R2 := RC.hideAt (lone D1 hDH) (kP _ _ eD)
  have R3 := R2.hideAt (a := h1.objs.size) (by
    have L := lone I1 hIH
    exact ⟨L.g, by rw [ins_other (Ne.symm hDI)]; exact L.hid, L.loc, L.cell, L.mu⟩) (kP _ _ eI')
  generalize (h1.push o).objs.size = D at *
  generalize h1.objs.size = I at *
  have hit4 : ItAt u d 0 I H4 := hit'.at fun o' q => kP _ _ q
  have hrI : ∀ oD, ins (rest g1 mu h1) D oD I = none := fun oD => by rw [ins_other (Ne.symm hDI)]; exact rest_none I1
  have hrD : ∀ oI, ins (rest g1 mu h1) I oI D = none := fun oI => by rw [ins_other hDI]; exact rest_none D1
  have hof : ∃ vs, o.data = .fields vs := by obtain ⟨o', vs, e1, e2⟩ := hit4.fields; rw [kP _ _ eI'] at e1; cases e1; exact ⟨vs, e2⟩
  have ownfree : ∀ oD oI, OwnFree (ins (ins (rest g1 mu h1) D oD) I oI) scope H.objs.size env := fun oD oI x c e1 e2 => by
    have hlt := cEnv_own B.nodup e1 e2
    rw [ins_other (Ne.symm (Nat.ne_of_lt (Nat.lt_trans hIH hlt))), ins_other (Ne.symm (Nat.ne_of_lt (Nat.lt_trans hDH hlt)))]
    refine rest_none ?_
    cases q : h1.get? c with
    | none => rfl
    | some o' => exact absurd (Heap.lt_size (kH _ _ q)) (Nat.not_lt.mpr (Nat.le_of_lt hlt))
  refine (fun key => codeAny_compStart_list key (iter_self hit4 key)) ?_
  refine loop D I H.objs.size (rest g1 mu h1) g1 H4 t1 u o _ i1 hit4 hof (kP _ _ eI') (kP _ _ eD) (rest_none I1) (rest_none D1) hDI R3 ownfree fun g' h2 t2 vs nn lg R4 iss => ?_
  obtain ⟨slD, qD, qD2⟩ := R4.hs D _ (ins_same _ _ _)
  have : slD = #[] := qD2 (fun es ep z => nomatch (show Data.seq vs nn = Data.dict es ep from z))
  subst this
  have gD : g' D = none := by
    cases q : g' D with
    | none => rfl
    | some x => have := R4.gh D x q; rw [ins_same] at this; cases this
  have R5 := R4.unhide (rest_none D1)
  have RO := R1.back lg R5.e (fun a h => h) (fun a l hm z_ => by
    obtain ⟨vs, n, e1, r1, r2, _⟩ := R5.mus a l hm
    exact ⟨vs, n, e1, r1, r2⟩)
  obtain ⟨m, oC, es, ep, eC, eCd, hrest⟩ := R5.ns
  have eC' : h2.get? H.objs.size = some oC := eC
  have LC : Lone W hid g' env mu H.objs.size := ⟨R5.gL, R1.hnone hC1, (R1.lone hC1).loc, (R1.lone hC1).cell, (R1.lone hC1).mu⟩
  have hDC : D ≠ H.objs.size := Nat.ne_of_lt hDH
  refine fin H.objs.size D g' h2 t2 oC (l1.trans lg) (RO.hideAt LC eC') LC.hid (fun v z => by rw [eCd] at z; cases z) (fun h3 ⟨sl3, q3, _⟩ => ⟨m, _, es, ep, q3, eCd, hrest⟩) ⟨⟨gD, by rw [ins_other hDC]; exact R1.hnone D1, (R1.lone D1).loc, (R1.lone D1).cell, (R1.lone D1).mu⟩, vs, nn, qD, iss⟩

theorem comp_core {elt target iter : Expr} {ifs : List Expr} {scope : Scope} {pos cpos : Pos} {use : Option (Value → Sem Unit)} {d : PV} {its : List PV} {vars' : Vars} {p : PV → Bool} {f : PV → PV} {tv : PV → Vars}
    {g h t} {Q : Value → Shared → Prop} {E : Value → Shared → Prop}
    (hh : A.handled = none) (he : Ev W A hid env vars mu iter d) (hsrc : Src mu d its) (B : BlockOk scope env) (hk : env.scope.kind = .function) (hv : Over scope env vars' vars) (hf : ∀ x, foldedSetIterable iter env x = pure x)
    (hlo : LoOk mu target d its) (hlen : its.length ≤ 100000)
    (htgt : ∀ hid' C a, a ∈ its → OwnFree hid' scope C env → Tgt W A hid' (cEnv scope C env) vars' mu target a (tv a))
    (htest : ∀ hid' C a, a ∈ its → Tests W A hid' (cEnv scope C env) (tv a) mu ifs (p a))
    (helt : ∀ hid' C a, a ∈ its → p a = true → Ev W A hid' (cEnv scope C env) (tv a) mu elt (f a))
    (hsub : ∀ a, a ∈ its → Sub vars' (tv a))
    (R : Rep W hid g env vars mu h)
    (fin : ∀ C D g' h' t' oC, Le g g' → Rep W (ins hid C oC) g' env vars mu h' → hid C = none → (∀ v, oC.data ≠ .cell v) → (∀ h2, UpTo oC h2 C → ∃ m, h2.Ns C m) → NewL W (ins hid C oC) g' env mu h' D ((its.filter p).map f) → compPost W.M A E use Q (.ref D) C (.ok .next) (W.S h' t')) :
    wpAny W.M A (comprehension (.ListComp elt [⟨target, iter, ifs, 0⟩] scope pos) scope env cpos (newList []) false (eval iter env) use) Q E (W.S h t) :=
  comp_frame he hsrc B hk hv hf R (fun D I C hid0 g1 h4 t4 u oI RR i1 hit hof eI eD hI0 hD0 hDI R3 ow k => by
    refine loop_tests (ListLoop W hid0 g1 (cEnv scope C env) vars' mu I D d u its.length (appOut [] its p f)) (fun n s inv => ?_) (its.length + 1) ⟨0, g1, h4, t4, oI, #[], 0, rfl, Nat.zero_le _, rfl, Le.refl g1, eI, hof, hit, eD, Iss.nil, R3⟩
    exact list_turn hh hI0 hD0 hDI hsrc i1 (by simpa using hlen) hlo (fun oD oI a ha => htgt _ C a ha (ow _ _)) (fun hid' a ha => htest hid' C a ha) (fun hid' a ha hp => helt hid' C a ha hp) hsub inv fun g' h' t' vs nn lg R4 z_ iss => k g' h' t' vs nn lg R4 iss) fin
end
end Mine
end

section
set_option tactic.hygienic false
open PySem PySem.W PyProof.Rows PySem.Calls PySem.SeqAt
set_option linter.unusedVariables false
set_option maxRecDepth 100000
namespace Mine
section
variable {W : Wk} {A : Around} {hid : PMap} {env : Env} {vars : Vars} {mu : Mu} {K K' : Out → Prop}

noncomputable def EvNew (W : Wk) (A : Around) (hid : PMap) (env : Env) (vars : Vars) (mu : Mu) (e : Expr) (ds : List PV) : Prop :=
  ∀ g h t (Q : Value → Shared → Prop) (E : Value → Shared → Prop), Rep W hid g env vars mu h →
    (∀ D g' h' t', Le g g' → Rep W hid g' env vars mu h' → NewL W hid g' env mu h' D ds → Q (.ref D) (W.S h' t')) → wpAny W.M A (eval e env) Q E (W.S h t)
theorem EvNew.ev {e ds} (x : EvNew W A hid env vars mu e ds) : Ev W A hid env vars mu e (.list ds) := fun g h t Q E R k =>
  x g h t Q E R fun D g' h' t' l R' N => by
    obtain ⟨L, vs, n, e, i⟩ := N
    have lle := le_ins (o := lobj vs n) L.g
    exact k _ _ h' t' (l.trans lle) (R'.freezeAt L e) (.list (ins_same _ _ _) (i.mono lle))

theorem new_obj {g h D vs n ds} (R : Rep W hid g env vars mu h) (h0 : h.get? D = none) {h'} (k : Kept h h') (e : h'.get? D = some (lobj vs n)) (i : Iss g ds vs.toList) : NewL W hid g env mu h' D ds :=
  ⟨R.lone h0, vs, n, e, i⟩

theorem evnew_list {es : List Expr} {ds pos} (ha : EvArgs W A hid env vars mu es ds) (hl : ds.length ≤ 1000) : EvNew W A hid env vars mu (.List es pos) ds := fun g h t Q E R k =>
  List_ (ha pos g h t _ E R fun us g1 h1 t1 l1 R1 i1 => by
    refine wpAny_newObj_type ?_ (by show us.toArray.size ≤ sizeLine; rw [List.size_toArray, i1.length, sizeLine_eq]; (first | lia | omega))
    exact k _ g1 _ t1 l1 (R1.keeps (kept_push h1 _)) (new_obj R1 Rep.fresh_size (kept_push h1 _) (Heap.get?_push_size _ rfl) (by simpa using i1)))

theorem times_new {h : Heap} {t : Nat} {l : Addr} {items : Array Value} {k : Nat} {x : Int} {u : Tok} {Q : Value → Shared → Prop} {E} (hl : h.get? l = some { cls := .type "list", dict := none, data := .seq items k, slots := #[] }) (h0 : 0 ≤ x) (h1 : x ≤ 100000) (h2 : items.size ≤ 100)
    (q : Q (.ref h.objs.size) (W.S (h.push { cls := .type "list", data := .seq (List.foldl (fun x1 x2 => x1 ++ x2) #[] (List.replicate (if items.isEmpty = true then 0 else x.toNat) items)) }) t)) :
    wpAny W.M A (binaryOp .Mult (.ref l) (.int x u)) Q E (W.S h t) := by
  have b : items.size * x.toNat ≤ 100 * 100000 := Nat.mul_le_mul h2 (by (first | lia | omega))
  have T : (W.S h t).TypeIs (.ref l) "list" := ⟨_, hl, rfl⟩
  refine wpAny_binaryOp_repeat_ref (T := "list") (U := "int") (by decide) T (fun s' => typeIs_int s' x u) noFill_list_mul F.fills_int_mul F.slot_int_rmul repeat_list F.slot_int_index.lookup ?_
  refine call_meets F.slot_int_rmul (typeIs_int (W.S h t) x u) F.entry_int_rmul (F.args_int_rmul_2 _ _) (int___rmul___int_list x u l items k) ⟨hl, rfl, T, ?_⟩
  refine call_meets F.slot_list_mul T F.entry_list_mul (F.args_list_mul_2 _ _) (AutoListH.list___mul___list_int_3 l items k x u ?_ ?_ ?_) ⟨hl, q⟩
  · simp [Builtin.List.listFitsIndex]; (first | lia | omega)
  · (first | lia | omega)
  · simp [Builtin.List.listTooLong, sizeLine]; (first | lia | omega)

theorem evnew_rep {c e : Expr} {p pos : Pos} {a : PV} {n : Int} (hc : EvArgs W A hid env vars mu [c] [a]) (he : Ev W A hid env vars mu e (.int n)) (h0 : 0 ≤ n) (hn : n ≤ 100000) : EvNew W A hid env vars mu (.BinOp (.List [c] p) .Mult e pos) (List.replicate n.toNat a) := fun g h t Q E R k => by
  refine wpAny_BinOp (List_ (hc p g h t _ E R fun us g1 h1 t1 l1 R1 i1 => ?_))
  set_option tactic.hygienic true in cases i1 with
  | cons i1 r =>
    set_option tactic.hygienic true in cases r
    rename_i v
    refine wpAny_newObj_type ?_ (by show (1 : Nat) ≤ sizeLine; rw [sizeLine_eq]; (first | (simp; done) | lia | omega))
    obtain ⟨R2, l2⟩ := R1.alloc { cls := .type "list", data := .seq [v].toArray } rfl
    refine he _ _ t1 _ E R2 fun w g3 h3 t3 l3 R3 i3 => ?_
    cases i3
    have e0 : h3.get? h1.objs.size = some { cls := .type "list", data := .seq [v].toArray } := R3.gs _ _ (l3 _ _ (ins_same _ _ _))
    refine times_new e0 h0 hn (by simp) ?_
    have hrep : (List.foldl (fun x1 x2 => x1 ++ x2) #[] (List.replicate (if ([v].toArray).isEmpty = true then 0 else n.toNat) [v].toArray) : Array Value).toList = List.replicate n.toNat v := by
      have key : ∀ (m : Nat) (acc : Array Value), (List.foldl (fun x1 x2 => x1 ++ x2) acc (List.replicate m [v].toArray) : Array Value).toList = acc.toList ++ List.replicate m v := by
        intro m
        induction m with
        | zero => intro acc; simp
        | succ m ih => intro acc; rw [List.replicate_succ, List.foldl_cons, ih, List.replicate_succ]; simp
      simpa using key n.toNat #[]
    refine k _ g3 _ t3 ((l1.trans l2).trans l3) (R3.keeps (kept_push h3 _)) (new_obj R3 Rep.fresh_size (kept_push h3 _) (Heap.get?_push_size _ rfl) ?_)
    rw [hrep]
    have iv : Is g3 a v := i1.mono (l2.trans l3)
    clear hrep
    induction n.toNat with
    | zero => exact .nil
    | succ m ih => exact .cons iv ih

theorem compPost_ok {M : Model} {A : Around} {E} {Q : Value → Shared → Prop} {acc : Value} {C : Addr} {s : Shared} (h : ∃ m, s.heap.Ns C m) (k : ∀ h', Heap.SameBut C s.heap h' → Q acc { s with heap := h' }) : compPost M A E none Q acc C (.ok .next) s := by
  obtain ⟨m, hm⟩ := h
  exact ⟨m, hm, k⟩

structure CompOk (W : Wk) (A : Around) (hid : PMap) (env : Env) (vars : Vars) (mu : Mu) (elt target iter : Expr) (ifs : List Expr) (scope : Scope) (its : List PV) (p : PV → Bool) (f : PV → PV) : Prop where
  run : ∃ (d : PV) (vars' : Vars) (tv : PV → Vars), Ev W A hid env vars mu iter d ∧ Src mu d its ∧ BlockOk scope env ∧ Over scope env vars' vars ∧ (∀ x, foldedSetIterable iter env x = pure x) ∧ LoOk mu target d its ∧ its.length ≤ 100000 ∧
    (∀ hid' C a, a ∈ its → OwnFree hid' scope C env → Tgt W A hid' (cEnv scope C env) vars' mu target a (tv a)) ∧
    (∀ hid' C a, a ∈ its → Tests W A hid' (cEnv scope C env) (tv a) mu ifs (p a)) ∧
    (∀ hid' C a, a ∈ its → p a = true → Ev W A hid' (cEnv scope C env) (tv a) mu elt (f a)) ∧ (∀ a, a ∈ its → Sub vars' (tv a))
  hh : A.handled = none
  hk : env.scope.kind = .function

theorem evnew_comp {elt target iter : Expr} {ifs : List Expr} {scope : Scope} {pos : Pos} {its p f} (c : CompOk W A hid env vars mu elt target iter ifs scope its p f) :
    EvNew W A hid env vars mu (.ListComp elt [⟨target, iter, ifs, 0⟩] scope pos) ((its.filter p).map f) := fun g h t Q E R k => by
  obtain ⟨⟨d, vars', tv, he, hsrc, B, hv, hf, hlo, hlen, htgt, htest, helt, hsub⟩, hh, hk⟩ := c
  rw [eval_ListComp]
  refine comp_core hh he hsrc B hk hv hf hlo hlen htgt htest helt hsub R fun C D g' h' t' oC l R' hC hnc hns N => ?_
  refine compPost_ok (hns _ (R'.hs C oC (ins_same _ _ _))) fun h2 hs2 => ?_
  have R2 := R'.letgo hC hnc hs2.extBut
  obtain ⟨L, vs, n, e, i⟩ := N
  have hDC : D ≠ C := fun z => by have := L.hid; rw [z, ins_same] at this; cases this
  refine k D g' h2 t' l R2 ⟨⟨L.g, by have := L.hid; rw [ins_other hDC] at this; exact this, L.loc, L.cell, L.mu⟩, vs, n, (hs2.2 D hDC).trans e, i⟩

theorem ex_own {x : Str} {p pos : Pos} {e : Expr} {ds : List PV} (he : EvNew W A hid env vars mu e ds) (hs : Sto hid env x) (hsw : swapsWith e (some (.Name x p)) pos.line env = pure false) (hk : env.scope.kind = .function) (hd : (x == ("__debug__" : Str)) = false) :
    Ex1 W A hid env vars mu (.Assign [.Name x p] e pos) (fun o => ∃ D, o = .next ((x, .loc D) :: vars) ((D, ds) :: mu)) := fun g h t R =>
  wpAny_Assign_Name (he g h t _ _ R fun D g1 h1 t1 l1 R1 N => by
    obtain ⟨L, vs, n, e, i⟩ := N
    exact store_K hs hk hd (R1.own L e i) .loc fun h2 t2 R2 => ⟨_, _, g1, h2, t2, rfl, ⟨D, rfl⟩, l1, R2⟩) hsw

theorem ex_comp {x : Str} {px spos : Pos} {elt target iter : Expr} {ifs : List Expr} {scope : Scope} {pos : Pos} {its p f} (c : CompOk W A hid env vars mu elt target iter ifs scope its p f)
    (hsw : swapsWith (.ListComp elt [⟨target, iter, ifs, 0⟩] scope pos) (some (.Name x px)) spos.line env = pure true) (hl : env.kindOf x = some .local) (hd : (x == ("__debug__" : Str)) = false) :
    Ex1 W A hid env vars mu (.Assign [.Name x px] (.ListComp elt [⟨target, iter, ifs, 0⟩] scope pos) spos) (· = .next ((x, .list ((its.filter p).map f)) :: vars) mu) := fun g h t R => by
  obtain ⟨⟨d, vars', tv, he, hsrc, B, hv, hf, hlo, hlen, htgt, htest, helt, hsub⟩, hh, hk⟩ := c
  rw [exec_Assign_Name_used x px _ spos hsw]
  refine wpAny_bind (wpAny_standAt (wpAny_bind ?_))
  show wpAny _ _ (do let _ ← comprehension (.ListComp elt [⟨target, iter, ifs, 0⟩] scope pos) scope env _ (newList []) false (eval iter env) (some (assign (.Name x px) env))) _ _ _
  refine wpAny_bind ?_
  refine comp_core hh he hsrc B hk hv hf hlo hlen htgt htest helt hsub R fun C D g' h' t' oC l R' hC hnc hns N => ?_
  obtain ⟨L, vs, n, e, i⟩ := N
  have lle := le_ins (o := lobj vs n) L.g
  show wpAny _ _ (assign (.Name x px) env (.ref D)) _ _ _
  refine wpAny_assign_Name (store_K (.loc hl) hk hd (R'.freezeAt L e) (.list (ins_same _ _ _) (i.mono lle)) fun h2 t2 R2 => ?_)
  obtain ⟨m, hm⟩ := hns _ (R2.hs C oC (ins_same _ _ _))
  refine ⟨m, hm, fun h3 hs3 => ?_⟩
  exact wpAny_pure (wpAny_pure ⟨_, _, _, h3, t2, rfl, rfl, l.trans lle, R2.letgo hC hnc hs3.extBut⟩)
end
end Mine
end

section
set_option tactic.hygienic false
open PySem PySem.W PyProof.Rows PySem.Calls PySem.SeqAt
set_option linter.unusedVariables false
set_option maxRecDepth 100000
namespace Mine

noncomputable def FrIn (h : Heap) (l : List Env) : Prop := ∀ e ∈ l, e.scope.kind = .function ∧ ∃ L o es ep, e.frame = some L ∧ h.get? L = some o ∧ o.data = .dict es ep
noncomputable def FrHid (hid : PMap) (l : List Env) : Prop := ∀ e ∈ l, e.scope.kind = .function ∧ ∃ L o es ep, e.frame = some L ∧ hid L = some o ∧ o.data = .dict es ep
theorem funFrames_in {h : Heap} {as : List Addr} : ∀ {l : List Env}, FrIn h l → (∀ e ∈ l, ∀ a, e.frame = some a → a ∈ as) → h.FunFrames (hideAll h as) l
  | [], _, _ => trivial
  | env :: r, f, hin => by
    obtain ⟨hk, L, o, es, ep, hf, ho, hd⟩ := f env (.head _)
    exact ⟨by rw [hk]; decide, ⟨L, o, hf, hideAll_none _ (hin env (.head _) L hf), ho, fun vs q => by rw [hd] at q; cases q⟩, funFrames_in (fun e he => f e (.tail _ he)) fun e he => hin e (.tail _ he)⟩

noncomputable def Fly (l : List Env) (g : PMap) (h₁ : Heap) (x : Value) (a : Addr) (h' : Heap) : Prop :=
  ∃ B a0, Heap.FlyingW B l a x a0 h' ∧ (∀ b o, g b = some o → B.get? b = some o) ∧ (∀ b o, h₁.get? b = some o → (∀ es ep, o.data ≠ .dict es ep) → B.get? b = some o) ∧ h₁.UpToSlots h'

section
variable {W : Wk} {A : Around} {hid g : PMap} {env : Env} {outer : List Env} {L a : Addr} {h₁ : Heap} {x : Value} {s : Shared}

structure FrOk (g : PMap) (h₁ : Heap) (l : List Env) : Prop where
  here : FrIn h₁ l
  free : ∀ e ∈ l, ∀ L, e.frame = some L → g L = none
  old : ∀ b o, g b = some o → h₁.get? b = some o

theorem FrOk.base (f : FrOk g h₁ outer) : (∀ b o, (hideAll h₁ (outer.filterMap (·.frame))).get? b = some o → h₁.get? b = some o) ∧ h₁.FunFrames (hideAll h₁ (outer.filterMap (·.frame))) outer ∧
    (∀ b o, g b = some o → (hideAll h₁ (outer.filterMap (·.frame))).get? b = some o) ∧ (∀ b o, h₁.get? b = some o → (∀ es ep, o.data ≠ .dict es ep) → (hideAll h₁ (outer.filterMap (·.frame))).get? b = some o) := by
  refine ⟨fun b o q => of_hideAll _ q, funFrames_in f.here fun e he b hb => List.mem_filterMap.mpr ⟨e, he, hb⟩, fun b o q => hideAll_get _ (f.old b o q) fun hm => ?_, fun b o q hn => hideAll_get _ q fun hm => ?_⟩
  · obtain ⟨e, he, hf⟩ := List.mem_filterMap.mp hm
    rw [f.free e he b hf] at q; cases q
  · obtain ⟨e, he, hf⟩ := List.mem_filterMap.mp hm
    obtain ⟨_, L, o', es, ep, hf', ho, hd⟩ := f.here e he
    rw [hf] at hf'; cases hf'
    rw [q] at ho; cases ho
    exact hn es ep hd

theorem leaves_held {M : Model} {base : Heap} {e : Addr} {cls a0 : Value} {E} {Q : Unit → Shared → Prop} (hf : env.frame = some L) (hh : Heap.HeldW base (env :: outer) e cls a0 L s.heap)
    (hQ : ∀ h', Heap.FlyingW base outer e cls a0 h' → s.heap.UpToSlots h' → Q () { s with heap := h' }) : wpAny M A (leaving env (.ref e)) Q E s := by
  unfold leaving
  refine wpAny_bind (wpAny_noteFrame_againW hf hh.2.2.2 ?_)
  refine wpAny_landsW hh fun h' hfl hs => ?_
  obtain ⟨k1, k2, ⟨_, _, k3⟩, k4⟩ := hfl
  exact hQ h' ⟨k1, k2, k3, k4⟩ hs

theorem leave_x {E} {Q : Unit → Shared → Prop} (hfr : A.frames = some (env :: outer)) (f : FrOk g h₁ (env :: outer)) (X : XForm W (env :: outer) g h₁ x a s.heap)
    (hQ : ∀ h', Fly outer g h₁ x a h' → Q () { s with heap := h' }) : wpAny W.M A (leaving env (.ref a)) Q E s := by
  obtain ⟨_, L, _, _, _, hf, _, _⟩ := f.here env (.head _)
  cases X with
  | made args hx =>
    obtain ⟨b1, b2, b3, b4⟩ := f.base
    exact wpAny_leaves_madeW hfr hf b1 b2 hx fun h' t x1 x2 x3 x4 => hQ h' ⟨_, _, x1, b3, b4, (Heap.UpToSlots.of_keeps hx.keeps).trans x4⟩
  | fly B a0 q1 q2 q3 q4 => exact wpAny_leaves_onW hfr hf q1 fun h' x1 x2 => hQ h' ⟨B, a0, x1, q2, q3, q4.trans x2⟩
  | held B a0 L' env' r e hf' q1 q2 q3 q4 =>
    cases e
    rw [hf] at hf'; cases hf'
    exact leaves_held hf q1 fun h' x1 x2 => hQ h' ⟨B, a0, x1, q2, q3, q4.trans x2⟩

theorem note_x {E} {Q : Unit → Shared → Prop} (hfr : A.frames = some (env :: outer)) (f : FrOk g h₁ (env :: outer)) (hf : env.frame = some L) (X : XForm W (env :: outer) g h₁ x a s.heap)
    (hQ : ∀ h' B a0, Heap.HeldW B (env :: outer) a x a0 L h' → (∀ b o, g b = some o → B.get? b = some o) → (∀ b o, h₁.get? b = some o → (∀ es ep, o.data ≠ .dict es ep) → B.get? b = some o) → h₁.UpToSlots h' → Q () { s with heap := h' }) :
    wpAny W.M A (noteFrame (.ref a) env) Q E s := by
  cases X with
  | made args hx =>
    obtain ⟨b1, b2, b3, b4⟩ := f.base
    obtain ⟨t, he, htn, ht⟩ := hx.there
    have fresh : ∀ b, h₁.get? b = none → (hideAll h₁ ((env :: outer).filterMap (·.frame))).get? b = none := fun b hb => by
      cases hq : (hideAll h₁ ((env :: outer).filterMap (·.frame))).get? b with
      | none => rfl
      | some o' => have := b1 b o' hq; rw [hb] at this; cases this
    unfold noteFrame
    simp only [hf]
    refine wpAny_bind (wpAny_field he rfl rfl ?_)
    rw [if_neg (by simp)]
    refine wpAny_entryW (a0 := .ref t) hfr (b2.of_keeps fun b o hb z_ => ⟨o, hx.keeps b o hb, rfl⟩) hf he (fun b o hb => hx.keeps b o (b1 b o hb)) (fresh a hx.new) rfl (by show 1 < 6; decide) rfl fun h' N => ?_
    obtain ⟨k1, k2, k3, k4⟩ := N
    exact hQ h' _ _ ⟨k1, fresh a hx.new, k2, k3⟩ b3 b4 ((Heap.UpToSlots.of_keeps hx.keeps).trans k4)
  | fly B a0 q1 q2 q3 q4 => exact wpAny_looks_onW hfr hf q1 fun h' x1 x2 => hQ h' B a0 x1 q2 q3 (q4.trans x2)
  | held B a0 L' env' r e hf' q1 q2 q3 q4 =>
    cases e
    rw [hf] at hf'; cases hf'
    exact wpAny_noteFrame_againW hf q1.2.2.2 (hQ s.heap B a0 q1 q2 q3 q4)

theorem setFlight_held {M : Model} {base : Heap} {l : List Env} {e : Addr} {cls a0 : Value} {E} {Q : Unit → Shared → Prop} (R : Heap.HeldW base l e cls a0 L s.heap)
    (h : ∀ h', Heap.HeldW base l e cls a0 L h' → s.heap.UpToSlots h' → Q () { s with heap := h' }) : wpAny M A (setFlight (.ref e) (some L)) Q E s := by
  obtain ⟨hkb, hen, hl, oe, vs, T, oT, ts, he, hcls, hd, h1, hnT, hTe, hT, hdT, h3⟩ := R
  have hsz3 : 3 < ts.size := (Array.getElem?_eq_some_iff.mp h3).1
  have other : ∀ b, b ≠ T → (s.heap.update T (Obj.mapFields (·.setIfInBounds 3 ((some L).elim Value.none fun f => rawInt f)))).get? b = s.heap.get? b :=
    fun b hb => Heap.get?_update_other _ _ (Ne.symm hb)
  have noRecord : ∀ b o, s.heap.get? b = some o → (∀ vs, o.data ≠ .fields vs) → b ≠ T := fun b o hb hnf q => by
    rw [q, hT] at hb; injection hb with hb; subst hb; exact hnf ts hdT
  unfold setFlight
  refine wpAny_bind (wpAny_field he hd h1 ?_)
  rw [if_pos (show (Value.ref T != Value.none) = true from by simp)]
  refine wpAny_setField hT hdT hsz3 (h _ ⟨fun b o hbo => (other b fun q => by rw [q, hnT] at hbo; cases hbo).trans (hkb b o hbo), hen,
    hl.of_keeps fun b o hb hnf => ⟨o, (other b (noRecord b o hb hnf)).trans hb, rfl⟩, ?_⟩ fun b o hb hnf => ⟨o.slots, (other b (noRecord b o hb hnf)).trans hb⟩)
  exact ⟨oe, vs, T, _, _, (other e (Ne.symm hTe)).trans he, hcls, hd, h1, hnT, hTe, Heap.get?_update_self _ hT (Obj.isFreed_of_fields (Obj.data_mapFields hdT _)), Obj.data_mapFields hdT _, by simp [hsz3]⟩

theorem back_x {E : Value → Shared → Prop} {B : Heap} {a0 : Value} (hf : env.frame = some L) (q1 : Heap.HeldW B (env :: outer) a x a0 L s.heap) (q2 : ∀ b o, g b = some o → B.get? b = some o) (q3 : ∀ b o, h₁.get? b = some o → (∀ es ep, o.data ≠ .dict es ep) → B.get? b = some o)
    (q4 : h₁.UpToSlots s.heap) (hE : ∀ h', XForm W (env :: outer) g h₁ x a h' → E (.ref a) { s with heap := h' }) : cameBackBy W.M A env E (.ref a) s := by
  show wpAny _ _ (do
    if (← field (.ref a) 1) == .none then unsupported "frame.own-activation:exception-without-traceback"
    setFlight (.ref a) env.frame) _ _ _
  have q := q1
  obtain ⟨_, _, _, oe, vs, T, oT, ts, he, hcls, hd, h1, _⟩ := q
  refine wpAny_bind (wpAny_field he hd h1 ?_)
  rw [if_neg (by simp)]
  rw [hf]
  exact setFlight_held q1 fun h' k1 k2 => hE h' (.held B a0 L env outer rfl hf k1 q2 q3 (q4.trans k2))
end
end Mine
end

section
set_option tactic.hygienic false
open PySem PySem.W PyProof.Rows PySem.Calls PySem.SeqAt
set_option linter.unusedVariables false
set_option maxRecDepth 100000
namespace Mine

structure FrX (A : Around) (hid : PMap) (env : Env) (outer : List Env) : Prop where
  frames : A.frames = some (env :: outer)
  kind : env.scope.kind = .function
  loc : env.frame = some env.locals
  hid : FrHid hid outer
theorem FrHid.mono {hid hid' : PMap} {l : List Env} (k : ∀ a o, hid a = some o → hid' a = some o) (f : FrHid hid l) : FrHid hid' l := fun e he => by
  obtain ⟨h1, L, o, es, ep, h2, h3, h4⟩ := f e he
  exact ⟨h1, L, o, es, ep, h2, k _ _ h3, h4⟩
theorem FrX.ins {A : Around} {hid : PMap} {env : Env} {outer : List Env} {I : Addr} {o : Obj} (f : FrX A hid env outer) (hI : hid I = none) : FrX A (ins hid I o) env outer :=
  ⟨f.frames, f.kind, f.loc, f.hid.mono fun a o' q => by rw [ins_other (fun z => by rw [z, hI] at q; cases q)]; exact q⟩

section
variable {W : Wk} {A : Around} {hid : PMap} {env : Env} {vars : Vars} {mu : Mu} {K K' : Out → Prop}

theorem Rep.frOk {g h outer} (R : Rep W hid g env vars mu h) (F : FrX A hid env outer) : FrOk g h (env :: outer) := by
  refine ⟨fun e he => ?_, fun e he L hL => ?_, R.gs⟩
  · rcases List.mem_cons.mp he with rfl | he
    · obtain ⟨m, o, es, ep, ho, hd, _⟩ := R.ns
      exact ⟨F.kind, _, o, es, ep, F.loc, ho, hd⟩
    · obtain ⟨h1, L, o, es, ep, h2, h3, h4⟩ := F.hid e he
      obtain ⟨sl, e1, _⟩ := R.hs L o h3
      exact ⟨h1, L, _, es, ep, h2, e1, h4⟩
  · rcases List.mem_cons.mp he with rfl | he
    · rw [F.loc] at hL; cases hL; exact R.gL
    · obtain ⟨_, L', o, _, _, h2, h3, _⟩ := F.hid e he
      rw [h2] at hL; cases hL
      cases q : g L with
      | none => rfl
      | some o' => rw [R.gh L o' q] at h3; cases h3

noncomputable def TurnX (J : Vars → Mu → Prop) (K : Out → Prop) : Out → Prop
  | .next v m => ∃ v' m', Sub v' v ∧ m'.Sublist m ∧ J v' m'
  | .cont v m => ∃ v' m', Sub v' v ∧ m'.Sublist m ∧ J v' m'
  | .brk v m => K (.next v m)
  | .ret d => K (.ret d)
  | .exc x v m => K (.exc x v m)

inductive ForLoop (W : Wk) (hid g1 : PMap) (env : Env) (J : Nat → Vars → Mu → Prop) (I : Addr) (d : PV) (u : Value) (len : Nat) (n : Nat) (s : Shared) : Prop where
  | mk (i : Nat) (v : Vars) (m : Mu) (g' : PMap) (h' : Heap) (t' : Nat) (o' : Obj) : n = len + 1 - i → i ≤ len → s = W.S h' t' → Le g1 g' → J i v m → h'.get? I = some o' → (∃ vs, o'.data = .fields vs) → ItAt u d i I h' → Rep W (ins hid I o') g' env v m h' → ForLoop W hid g1 env J I d u len n s
theorem ex_forG {x : Str} {p pos : Pos} {e : Expr} {body : List Stmt} {d : PV} {its : List PV} (J : Nat → Vars → Mu → Prop) (hx : (∃ outer, FrX A hid env outer) ∨ ∀ x v m, ¬ K (.exc x v m)) (hh : A.handled = none) (he : Ev W A hid env vars mu e d) (hsrc : ∀ i v m, J i v m → Src m d its) (h0 : J 0 vars mu)
    (hs : Sto hid env x) (hk : env.scope.kind = .function) (hd : (x == ("__debug__" : Str)) = false) (hf : ∀ x, foldedSetIterable e env x = pure x)
    (turn : ∀ hid' i v m a, (∀ y, Sto hid env y → Sto hid' env y) → (∀ outer, FrX A hid env outer → FrX A hid' env outer) → its[i]? = some a → J i v m → Exs W A hid' env ((x, a) :: v) m body (TurnX (J (i + 1)) K))
    (done : ∀ v m, J its.length v m → K (.next v m)) : Ex1 W A hid env vars mu (.For (.Name x p) e body [] pos) K := fun g h t R => by
  refine wpAny_For (he g h t _ _ R fun u g1 h1 t1 l1 R1 i1 => iter_start R1 (hsrc 0 _ _ h0) i1 fun o ho hit => ?_) hf
  have hI : h1.get? h1.objs.size = none := Rep.fresh_size
  have hIh : hid h1.objs.size = none := R1.hnone hI
  have e0 : (h1.push o).get? h1.objs.size = some o := Heap.get?_push_size _ ho
  have R2 := R1.hide hI (kept_push h1 o) e0
  generalize h1.objs.size = I at *
  have hof : ∃ vs, o.data = .fields vs := by obtain ⟨o', vs, e1, e2⟩ := hit.fields; rw [e0] at e1; cases e1; exact ⟨vs, e2⟩
  have hsto : ∀ o' y, Sto hid env y → Sto (ins hid I o') env y := fun o' y s => by
    rcases s with s | ⟨c, s1, s2, s3⟩
    · exact .loc s
    · refine .cell c s1 s2 ?_
      obtain ⟨⟨v, oc, e1, e2⟩, _⟩ := R1.cell y c s2
      rw [ins_other (fun z => by rw [z, hI] at e1; cases e1)]; exact s3
  refine codeAny_forLoop (ForLoop W hid g1 env J I d u its.length) ?_ (its.length + 1)
    ⟨0, vars, mu, g1, _, t1, o, rfl, Nat.zero_le _, rfl, Le.refl g1, h0, e0, hof, hit, R2⟩
  rintro n s ⟨i, v, m, g', h', t', o', rfl, hile, rfl, lg, hJ, eo, hof', hita, R'⟩
  refine iter_next hh R' (hsrc i v m hJ) (i1.mono lg) hita (fun a w h2 t2 ha iw hsb hit2 => ?_) fun hge h2 t2 hext => ?_
  · have hlt : i < its.length := (List.getElem?_eq_some_iff.mp ha).1
    obtain ⟨o2, vs2, eo2, ef2⟩ := hit2.fields
    have R3 := R'.rehide hIh (nocell_of hof') hsb eo2
    refine wpAny_assign_Name (store_K (hsto o2 x hs) hk hd R3 iw fun h3 t3 R4 => ?_)
    refine wpAny_mono (turn (ins hid I o2) i v m a (hsto o2) (fun z_ FX => FX.ins hIh) ha hJ g' h3 t3 R4) (fun f s3 y => ?_) fun e3 s3 y => ?_
    · have fin : ∀ {v m gg h4 t4}, (∃ v' m', Sub v' v ∧ m'.Sublist m ∧ J (i + 1) v' m') → Le g' gg → Rep W (ins hid I o2) gg env v m h4 → ∃ k, k < its.length + 1 - i ∧ ForLoop W hid g1 env J I d u its.length k (W.S h4 t4) := by
        rintro v m gg h4 t4 ⟨v', m', s1, s2, hJ'⟩ l4 R5
        have q3 := hit2.keep eo2 ef2 (R5.hs I o2 (ins_same _ _ _))
        exact ⟨its.length + 1 - (i + 1), turns_fall hlt, i + 1, v', m', gg, h4, t4, o2, rfl, hlt, rfl, lg.trans l4, hJ', q3.1, ⟨vs2, ef2⟩, q3.2, R5.forget s1 s2⟩
      cases f with
      | next => obtain ⟨v, m, gg, h4, t4, rfl, k, l4, R5⟩ := y; exact fin k l4 R5
      | cont => obtain ⟨v, m, gg, h4, t4, rfl, k, l4, R5⟩ := y; exact fin k l4 R5
      | brk => obtain ⟨v, m, gg, h4, t4, rfl, k, l4, R5⟩ := y; exact ⟨v, m, gg, h4, t4, rfl, k, (l1.trans lg).trans l4, R5.unhide hIh⟩
      | ret w => obtain ⟨d, gg, h4, t4, rfl, k, l4, R5, i5⟩ := y; exact ⟨d, gg, h4, t4, rfl, k, (l1.trans lg).trans l4, R5.unhide hIh, i5⟩
    · obtain ⟨x, v, m, g₁, h₁, a, l, hh', tt, rfl, rfl, k, l4, R5, efr, XF⟩ := y
      rcases hx with ⟨outer, FX⟩ | hx
      case inr => exact absurd k (hx x v m)
      rw [FX.frames] at efr
      cases efr
      have FO := (R5.unhide hIh).frOk FX
      refine note_x FX.frames FO FX.loc XF fun h2 B a0 q1 q2 q3 q4 => ?_
      exact back_x (s := W.S h2 tt) FX.loc q1 q2 q3 q4 fun h3 X3 => ⟨x, v, m, g₁, h₁, a, _, h3, tt, rfl, rfl, k, (l1.trans lg).trans l4, R5.unhide hIh, FX.frames, X3⟩
  · have e : i = its.length := by (first | lia | omega)
    subst e
    exact wpAny_execs_nil ⟨v, m, g', h2, t2, rfl, done v m hJ, l1.trans lg, R'.letgo hIh (nocell_of hof') hext⟩

theorem turn_free {J : Vars → Mu → Prop} {o : Out} (h : TurnK J K o) : TurnX J (fun o => K o ∧ ∀ x v m, o ≠ .exc x v m) o := by
  cases o with
  | next v m => exact h
  | cont v m => exact h
  | brk v m => exact ⟨h, fun z_ z_ z_ z => nomatch z⟩
  | ret d => exact ⟨h, fun z_ z_ z_ z => nomatch z⟩
  | exc x v m => exact h.elim
theorem ex_for {x : Str} {p pos : Pos} {e : Expr} {body : List Stmt} {d : PV} {its : List PV} (J : Nat → Vars → Mu → Prop) (hh : A.handled = none) (he : Ev W A hid env vars mu e d) (hsrc : ∀ i v m, J i v m → Src m d its) (h0 : J 0 vars mu)
    (hs : Sto hid env x) (hk : env.scope.kind = .function) (hd : (x == ("__debug__" : Str)) = false) (hf : ∀ x, foldedSetIterable e env x = pure x)
    (turn : ∀ hid' i v m a, (∀ y, Sto hid env y → Sto hid' env y) → its[i]? = some a → J i v m → Exs W A hid' env ((x, a) :: v) m body (TurnK (J (i + 1)) K))
    (done : ∀ v m, J its.length v m → K (.next v m)) : Ex1 W A hid env vars mu (.For (.Name x p) e body [] pos) K :=
  (ex_forG (K := fun o => K o ∧ ∀ x v m, o ≠ .exc x v m) J (.inr fun x v m h => h.2 x v m rfl) hh he hsrc h0 hs hk hd hf (fun hid' i v m a h1 h2 h3 h4 => (turn hid' i v m a h1 h3 h4).imp fun o => turn_free) (fun v m h => ⟨done v m h, fun z_ z_ z_ z => nomatch z⟩)).imp fun o h => h.1
end
end Mine
end

section
set_option tactic.hygienic false
open PySem PySem.W PyProof.Rows PySem.Calls PySem.SeqAt
set_option linter.unusedVariables false
set_option maxRecDepth 100000
namespace Mine

structure FnAt (W : Wk) (a : Addr) (fd : FuncData) (body : List Stmt) : Prop where
  obj : ∃ o, W.base.get? a = some o ∧ o.data = .func fd
  code : W.base.CodeRec fd.code fd.qualname
  body : fd.body = .stmts body
  closure : fd.closure = []
  glob : fd.globals = mainGlobals
  bn : fd.builtins = builtinsNs
  co : fd.scope.isCoroutine = false
  gen : fd.scope.isGenerator = false
  kind : fd.scope.kind = .function

structure AOk0 (A : Around) (n : Nat) : Prop where
  handled : A.handled = none
  depth : A.depth + n ≤ 500
  units : A.units + 3 * n ≤ 4000
  frames : ∃ l, A.frames = some l
theorem AOk.zero {W : Wk} {A : Around} {n : Nat} (a : AOk W A n) : AOk0 A n := ⟨a.handled, a.depth, a.units, let ⟨e, l, h, _⟩ := a.frames; ⟨e :: l, h⟩⟩
noncomputable abbrev fEnv (fd : FuncData) (a L : Addr) : Env := callEnvC fd L a

theorem bindL_not {kindOf : Str → Option NameKind} {x : Str} {bs : List (Str × Value)} : ∀ {m : Str → Option Value}, x ∉ bs.map (·.1) → bindL kindOf bs m x = m x := by
  induction bs with
  | nil => exact fun z_ => rfl
  | cons p r ih =>
    intro m h
    have h := not_or.mp (mt List.mem_cons.mpr h)
    unfold bindL
    rw [ih h.2]
    by_cases hk : kindOf p.1 = some .local
    · rw [if_pos hk]; exact if_neg h.1
    · rw [if_neg hk]
theorem bindC_not {kindOf : Str → Option NameKind} {x : Str} {bs : List (Str × Value)} : ∀ {m : Str → Option Value}, x ∉ bs.map (·.1) → bindC kindOf bs m x = m x := by
  induction bs with
  | nil => exact fun z_ => rfl
  | cons p r ih =>
    intro m h
    have h := not_or.mp (mt List.mem_cons.mpr h)
    unfold bindC
    rw [ih h.2]
    by_cases hk : kindOf p.1 = some .local
    · rw [if_pos hk]
    · rw [if_neg hk]; exact if_neg h.1
theorem bindL_get {kindOf : Str → Option NameKind} {x : Str} {v} {bs : List (Str × Value)} : ∀ {m : Str → Option Value}, (bs.map (·.1)).Nodup → (x, v) ∈ bs → kindOf x = some .local → bindL kindOf bs m x = some v := by
  induction bs with
  | nil => exact fun z_ h => nomatch h
  | cons p r ih =>
    intro m hn hm hk
    obtain ⟨n1, n2⟩ := List.nodup_cons.mp hn
    unfold bindL
    rcases List.mem_cons.mp hm with e | e
    · cases e
      rw [bindL_not n1, if_pos hk]
      exact if_pos rfl
    · exact ih n2 e hk
theorem bindC_get {kindOf : Str → Option NameKind} {x : Str} {v} {bs : List (Str × Value)} : ∀ {m : Str → Option Value}, (bs.map (·.1)).Nodup → (x, v) ∈ bs → kindOf x ≠ some .local → bindC kindOf bs m x = some v := by
  induction bs with
  | nil => exact fun z_ h => nomatch h
  | cons p r ih =>
    intro m hn hm hk
    obtain ⟨n1, n2⟩ := List.nodup_cons.mp hn
    unfold bindC
    rcases List.mem_cons.mp hm with e | e
    · cases e
      rw [bindC_not n1, if_neg hk]
      exact if_pos rfl
    · exact ih n2 e hk

inductive Binds (g : PMap) : Vars → List (Str × Value) → Prop where
  | nil : Binds g [] []
  | cons {x d u vs bs} : Is g d u → Binds g vs bs → Binds g ((x, d) :: vs) ((x, u) :: bs)
theorem Binds.names {g : PMap} {vs bs} (h : Binds g vs bs) : bs.map (·.1) = vs.map (·.1) := by
  induction h with
  | nil => rfl
  | cons _ _ ih => rw [List.map_cons, List.map_cons, ih]
theorem Binds.get {g : PMap} {vs bs} (h : Binds g vs bs) (x d) : vs.lookup x = some d → ∃ u, (x, u) ∈ bs ∧ Is g d u := by
  induction h with
  | nil => intro h; cases h
  | @cons y e u vs bs i r ih =>
    intro h
    by_cases hx : x = y
    · subst hx; rw [lookup_cons_eq] at h; cases h; exact ⟨_, .head _, i⟩
    · rw [lookup_cons_ne hx] at h
      obtain ⟨u, hm, iu⟩ := ih h
      exact ⟨u, .tail _ hm, iu⟩

noncomputable def paramsOk (scope : Scope) (names : List Str) : Bool :=
  names.all fun p => (scope.names.lookup p == some .local || scope.names.lookup p == some .cell) && !(p == ("__debug__" : Str))

section
variable {W : Wk} {A : Around} {hid : PMap} {env : Env} {vars : Vars} {mu : Mu} {K K' : Out → Prop}

theorem cellsFrom_has {x : Str} : ∀ {names : List (Str × NameKind)} {n : Nat} {acc : List (Str × Addr)}, (x, NameKind.cell) ∈ names → ((cellsFrom n names acc).lookup x).isSome = true
  | (nm, k) :: r, n, acc, hm => by
    unfold cellsFrom
    by_cases hr : (x, NameKind.cell) ∈ r
    · split <;> exact cellsFrom_has hr
    · rcases List.mem_cons.mp hm with e | e
      · cases e
        rw [if_pos (by simp), cellsFrom_not (fun k hk e => hr (e ▸ hk)), lookup_cons_eq]; rfl
      · exact absurd e hr

theorem sto_fn {fd : FuncData} {a L : Addr} {x : Str} {hid : PMap} (h : fd.scope.names.lookup x = some .local ∨ fd.scope.names.lookup x = some .cell) (hf : ∀ c, L < c → hid c = none) : Sto hid (fEnv fd a L) x := by
  rcases h with h | h
  · exact .loc h
  · obtain ⟨c, hc⟩ := Option.isSome_iff_exists.mp (cellsFrom_has (n := L + 1) (acc := []) (mem_of_lookup h))
    refine .cell c h hc (hf c ?_)
    rcases cellsFrom_ge hc with q | q
    · cases q
    · exact q

end
end Mine
end

section
set_option tactic.hygienic false
open PySem PySem.W PyProof.Rows PySem.Calls PySem.SeqAt
set_option linter.unusedVariables false
set_option maxRecDepth 100000
namespace Mine
theorem iss1 {g : PMap} {d1 : PV} {us : List Value} {P : List Value → Prop} (is : Iss g [d1] us) (k : ∀ u1, Is g d1 u1 → P [u1]) : P us := by
  cases is with
  | cons i1 is => cases is; exact k _ i1
theorem iss2 {g : PMap} {d1 d2 : PV} {us : List Value} {P : List Value → Prop} (is : Iss g [d1, d2] us) (k : ∀ u1 u2, Is g d1 u1 → Is g d2 u2 → P [u1, u2]) : P us := by
  cases is with
  | cons i1 is => exact iss1 (P := fun l => P (_ :: l)) is fun u2 i2 => k _ u2 i1 i2
theorem iss3 {g : PMap} {d1 d2 d3 : PV} {us : List Value} {P : List Value → Prop} (is : Iss g [d1, d2, d3] us) (k : ∀ u1 u2 u3, Is g d1 u1 → Is g d2 u2 → Is g d3 u3 → P [u1, u2, u3]) : P us := by
  cases is with
  | cons i1 is => exact iss2 (P := fun l => P (_ :: l)) is fun u2 u3 i2 i3 => k _ u2 u3 i1 i2 i3
theorem iss4 {g : PMap} {d1 d2 d3 d4 : PV} {us : List Value} {P : List Value → Prop} (is : Iss g [d1, d2, d3, d4] us) (k : ∀ u1 u2 u3 u4, Is g d1 u1 → Is g d2 u2 → Is g d3 u3 → Is g d4 u4 → P [u1, u2, u3, u4]) : P us := by
  cases is with
  | cons i1 is => exact iss3 (P := fun l => P (_ :: l)) is fun u2 u3 u4 i2 i3 i4 => k _ u2 u3 u4 i1 i2 i3 i4
noncomputable def FnP (W : Wk) (P : Prop) (f : Value) (n : Nat) (args : List PV) (K : PV → Prop) (X : Value → Prop) : Prop :=
  ∀ A hid g h t us (Q : Value → Shared → Prop) (E : Value → Shared → Prop) outer, AOk0 A n → (P → A.frames = some outer ∧ FrHid hid outer) → RepE W hid g h → Iss g args us →
    (∀ d u g' h' t', K d → Le g g' → RepE W hid g' h' → Is g' d u → Q u (W.S h' t')) →
    (∀ x a g' h₁ h' t', X x → Le g g' → RepE W hid g' h₁ → Fly outer g' h₁ x a h' → E (.ref a) (W.S h' t')) → wpAny W.M A (call f us) Q E (W.S h t)
noncomputable abbrev FnG (W : Wk) (f : Value) (n : Nat) (args : List PV) (K : PV → Prop) (X : Value → Prop) : Prop := FnP W True f n args K X
noncomputable abbrev Fn (W : Wk) (f : Value) (n : Nat) (args : List PV) (d : PV) : Prop := FnP W False f n args (· = d) (fun z_ => False)

section
variable {W : Wk} {A : Around} {hid : PMap} {env : Env} {vars : Vars} {mu : Mu} {K K' : Out → Prop}

theorem fn_core {P : Prop} {fd : FuncData} {a : Addr} {body : List Stmt} {n : Nat} {args : List PV} {K : PV → Prop} {X : Value → Prop} (hXP : ∀ x, X x → P) (O : W.Ok) (F : FnAt W a fd body) (vars : Vars) (names : List Str) (hv : vars.map (·.1) = names) (hp : paramsOk fd.scope names = true) (hnd : names.Nodup)
    (hb : ∀ g h t us, (∀ a o, W.base.get? a = some o → h.get? a = some o) → (∀ a o, W.base.get? a = some o → g a = some o) → Iss g args us → ∃ binds, BindsTo (W.S h t) fd ⟨us, []⟩ binds ∧ Binds g vars binds)
    (hbody : ∀ A hid L outer, AOk W A n → (P → FrX A hid (fEnv fd a L) outer) → (∀ x, fd.scope.names.lookup x = some .local ∨ fd.scope.names.lookup x = some .cell → Sto hid (fEnv fd a L) x) → Exs W A hid (fEnv fd a L) vars [] body (fun o => (∃ d, K d ∧ o = .ret d) ∨ (∃ x v m, X x ∧ o = .exc x v m) ∨ (K .none ∧ ∃ v m, o = .next v m))) :
    FnP W P (.ref a) (n + 1) args K X := fun A hid g h t us Q E outer ao hfx RE iss k kx => by
  have hn : (vars.map (·.1)).Nodup := by rw [hv]; exact hnd
  obtain ⟨o, ho, hd⟩ := F.obj
  have kb : ∀ a o, W.base.get? a = some o → h.get? a = some o := fun a o e => RE.gs a o (RE.bs a o e)
  obtain ⟨binds, hbt, hB⟩ := hb g h t us kb RE.bs iss
  refine wpAny_call (codeAny_call_function (by have := ao.depth; show A.depth < 1000; (first | lia | omega)) (kb _ _ ho) hd F.co F.gen F.body (F.code.keeps kb) (hbt _ _ _ _ ?_))
  rw [F.closure]
  have hnn : (binds.map (·.1)).Nodup := by rw [hB.names]; exact hn
  have hkinds : ∀ y ∈ binds, fd.scope.names.lookup y.1 = some .local ∨ fd.scope.names.lookup y.1 = some .cell := fun y hy => by
    have : y.1 ∈ names := by rw [← hv, ← hB.names]; exact List.mem_map.mpr ⟨y, hy, rfl⟩
    have := List.all_eq_true.mp hp _ this
    simp only [Bool.and_eq_true, Bool.or_eq_true, beq_iff_eq] at this
    exact this.1
  refine wpAny_newFunctionEnv_cells F.kind (fun y hy => (hkinds y hy).imp id fun q => ⟨q, cellsFrom_has (mem_of_lookup q)⟩) fun env he s' x => ?_
  subst he
  obtain ⟨h₁, tk, rfl, hkk⟩ := x.toInCall.done
  have hfresh : ∀ {c}, h.objs.size ≤ c → h.get? c = none := fun {c} hc => by
    cases q : h.get? c with
    | none => rfl
    | some o' => exact absurd (Heap.lt_size q) (Nat.not_lt.mpr hc)
  have gnone : ∀ {c}, h.get? c = none → g c = none := fun {c} hc => by
    cases q : g c with
    | none => rfl
    | some o' => rw [RE.gs _ _ q] at hc; cases hc
  have hnone : ∀ {c}, h.get? c = none → hid c = none := fun {c} hc => by
    cases q : hid c with
    | none => rfl
    | some o' => obtain ⟨sl, z, _⟩ := RE.hs _ _ q; rw [z] at hc; cases hc
  have R : Rep W hid g (fEnv fd a h.objs.size) vars [] h₁ := by
    refine ⟨RE.bs, fun b o e => hkk _ _ (RE.gs b o e), fun b o e => (RE.hs b o e).keeps hkk, RE.gh, ⟨_, x.toInCall.ns⟩, fun y e q => ?_, gnone (hfresh (Nat.le_refl _)), hnone (hfresh (Nat.le_refl _)), fun y c q => ?_, fun y z c e1 e2 => ?_, fun a l q => (by cases q), List.nodup_nil⟩
    · obtain ⟨u, hm, iu⟩ := hB.get y e q
      have hdb : (y == ("__debug__" : Str)) = false := by
        have := List.all_eq_true.mp hp y (by rw [← hv]; exact List.mem_map.mpr ⟨_, mem_of_lookup q, rfl⟩)
        simp only [Bool.and_eq_true, Bool.not_eq_true'] at this
        exact this.2
      refine ⟨u, iu, hdb, ?_⟩
      rcases hkinds _ hm with q1 | q1
      · exact .inl ⟨q1, _, x.toInCall.ns, bindL_get hnn hm q1⟩
      · obtain ⟨c, hc⟩ := Option.isSome_iff_exists.mp (cellsFrom_has (n := h.objs.size + 1) (acc := []) (mem_of_lookup q1))
        refine .inr ⟨c, .inl q1, hc, ?_⟩
        have := x.cell y c hc
        rw [bindC_get hnn hm (by show fd.scope.names.lookup y ≠ _; rw [q1]; intro z; cases z)] at this
        exact this
    · have hlt := x.above y c (mem_of_lookup q)
      exact ⟨⟨_, x.cell y c q⟩, gnone (hfresh (Nat.le_of_lt hlt)), Ne.symm (Nat.ne_of_lt hlt)⟩
    · exact name_of_addr x.apart (mem_of_lookup e1) (mem_of_lookup e2)
  refine ⟨(O.nolimit.keeps kb).keeps hkk, codeAny_func ?_⟩

  have FX : P → FrX (A.deeper (fEnv fd a h.objs.size)) hid (fEnv fd a h.objs.size) outer := fun hx => ⟨Around.frames_deeper (hfx hx).1, F.kind, rfl, (hfx hx).2⟩
  have hstep := hbody (A.deeper (fEnv fd a h.objs.size)) hid h.objs.size outer ⟨ao.handled, by have := ao.depth; show A.depth + 1 + n ≤ 500; (first | lia | omega), by have := ao.units; show A.units + 3 + 3 * n ≤ 4000; (first | lia | omega), by
    obtain ⟨l, h1⟩ := ao.frames
    exact ⟨fEnv fd a h.objs.size, l, Around.frames_deeper h1, F.gen, F.co, F.bn, F.glob⟩⟩ FX (fun y hy => sto_fn hy fun c hc => hnone (hfresh (Nat.le_of_lt hc))) g h₁ tk R
  show wpAny _ (A.deeper (fEnv fd a h.objs.size)) (execs body (fEnv fd a h.objs.size)) _ _ _
  refine wpAny_mono hstep (fun f s y => ?_) fun e s y => ?_
  · cases f with
    | ret u =>
      obtain ⟨d', g', h', t', rfl, q, l, RE', i⟩ := y
      rcases q with ⟨d, kd, q⟩ | ⟨_, v, m, _, q⟩ | ⟨_, v, m, q⟩
      · cases q; exact k _ u g' h' t' kd l RE' i
      · cases q
      · cases q
    | next =>
      obtain ⟨v, m, g', h', t', rfl, q, l, R'⟩ := y
      rcases q with ⟨_, _, q⟩ | ⟨_, v, m, _, q⟩ | ⟨kd, _⟩
      · cases q
      · cases q
      · exact k .none .none g' h' t' kd l R'.e .none
    | brk => obtain ⟨v, m, g', h', t', rfl, q, l, R'⟩ := y; rcases q with ⟨_, _, q⟩ | ⟨_, v, m, _, q⟩ | ⟨_, v, m, q⟩ <;> cases q
    | cont => obtain ⟨v, m, g', h', t', rfl, q, l, R'⟩ := y; rcases q with ⟨_, _, q⟩ | ⟨_, v, m, _, q⟩ | ⟨_, v, m, q⟩ <;> cases q
  · obtain ⟨x, v, m, g₁, h₂, ae, l, h', t', rfl, rfl, q, lg, R', efr, XF⟩ := y
    rcases q with ⟨_, _, q⟩ | ⟨x', v', m', hX, q⟩ | ⟨_, v, m, q⟩
    · cases q
    · cases q
      have FX := FX (hXP _ hX)
      rw [FX.frames] at efr
      cases efr
      exact leave_x FX.frames (R'.frOk FX) XF fun h'' hf => kx _ ae g₁ h₂ h'' t' hX lg R'.e hf
    · cases q
theorem fn_introP {P : Prop} {fd : FuncData} {a : Addr} {body : List Stmt} {n : Nat} {args : List PV} {K : PV → Prop} {X : Value → Prop} (hXP : ∀ x, X x → P) (O : W.Ok) (F : FnAt W a fd body) (vars : Vars) (names : List Str) (hv : vars.map (·.1) = names) (hp : paramsOk fd.scope names = true) (hnd : names.Nodup)
    (hb : ∀ g h t us, (∀ a o, W.base.get? a = some o → h.get? a = some o) → (∀ a o, W.base.get? a = some o → g a = some o) → Iss g args us → ∃ binds, BindsTo (W.S h t) fd ⟨us, []⟩ binds ∧ Binds g vars binds)
    (hbody : ∀ A hid L outer, AOk W A n → (P → FrX A hid (fEnv fd a L) outer) → (∀ x, fd.scope.names.lookup x = some .local ∨ fd.scope.names.lookup x = some .cell → Sto hid (fEnv fd a L) x) → Exs W A hid (fEnv fd a L) vars [] body (fun o => (∃ d, K d ∧ o = .ret d) ∨ (∃ x v m, X x ∧ o = .exc x v m))) :
    FnP W P (.ref a) (n + 1) args K X :=
  fn_core hXP O F vars names hv hp hnd hb fun A hid L outer h1 h2 h3 => (hbody A hid L outer h1 h2 h3).imp fun o h => h.imp id .inl
theorem fn_introX {fd : FuncData} {a : Addr} {body : List Stmt} {n : Nat} {args : List PV} {K : PV → Prop} {X : Value → Prop} (O : W.Ok) (F : FnAt W a fd body) (vars : Vars) (names : List Str) (hv : vars.map (·.1) = names) (hp : paramsOk fd.scope names = true) (hnd : names.Nodup)
    (hb : ∀ g h t us, (∀ a o, W.base.get? a = some o → h.get? a = some o) → (∀ a o, W.base.get? a = some o → g a = some o) → Iss g args us → ∃ binds, BindsTo (W.S h t) fd ⟨us, []⟩ binds ∧ Binds g vars binds)
    (hbody : ∀ A hid L outer, AOk W A n → FrX A hid (fEnv fd a L) outer → (∀ x, fd.scope.names.lookup x = some .local ∨ fd.scope.names.lookup x = some .cell → Sto hid (fEnv fd a L) x) → Exs W A hid (fEnv fd a L) vars [] body (fun o => (∃ d, K d ∧ o = .ret d) ∨ (∃ x v m, X x ∧ o = .exc x v m))) :
    FnG W (.ref a) (n + 1) args K X :=
  fn_introP (fun z_ z_ => trivial) O F vars names hv hp hnd hb fun A hid L outer h1 h2 h3 => hbody A hid L outer h1 (h2 trivial) h3
theorem FnP.imp {P P' : Prop} {f : Value} {n : Nat} {args : List PV} {K K' : PV → Prop} {X X' : Value → Prop} (h : FnP W P f n args K X) (hP : P → P') (hK : ∀ d, K d → K' d) (hX : ∀ x, X x → X' x) : FnP W P' f n args K' X' :=
  fun A hid g hp t us Q E outer ao hfr RE iss k kx => h A hid g hp t us Q E outer ao (fun p => hfr (hP p)) RE iss (fun d u g' h' t' hd => k d u g' h' t' (hK d hd)) fun x a g' h1 h' t' hx => kx x a g' h1 h' t' (hX x hx)
theorem fn_intro {fd : FuncData} {a : Addr} {body : List Stmt} {n : Nat} {args : List PV} {d : PV} (O : W.Ok) (F : FnAt W a fd body) (vars : Vars) (names : List Str) (hv : vars.map (·.1) = names) (hp : paramsOk fd.scope names = true) (hnd : names.Nodup)
    (hb : ∀ g h t us, (∀ a o, W.base.get? a = some o → h.get? a = some o) → (∀ a o, W.base.get? a = some o → g a = some o) → Iss g args us → ∃ binds, BindsTo (W.S h t) fd ⟨us, []⟩ binds ∧ Binds g vars binds)
    (hbody : ∀ A hid L, AOk W A n → (∀ x, fd.scope.names.lookup x = some .local ∨ fd.scope.names.lookup x = some .cell → Sto hid (fEnv fd a L) x) → Exs W A hid (fEnv fd a L) vars [] body (fun o => o = .ret d ∨ (d = .none ∧ ∃ v m, o = .next v m))) :
    Fn W (.ref a) (n + 1) args d :=
  fn_core (fun z_ h => h) O F vars names hv hp hnd hb fun A hid L outer h1 h2 h3 => (hbody A hid L h1 h3).imp fun o h => h.elim (fun e => .inl ⟨_, rfl, e⟩) fun e => .inr (.inr ⟨e.1.symm, e.2⟩)


noncomputable def EvG (W : Wk) (A : Around) (hid : PMap) (env : Env) (vars : Vars) (mu : Mu) (e : Expr) (K : PV → Prop) (X : Value → Prop) : Prop :=
  ∀ g h t (Q : Value → Shared → Prop) (E : Value → Shared → Prop), Rep W hid g env vars mu h →
    (∀ d u g' h' t', K d → Le g g' → Rep W hid g' env vars mu h' → Is g' d u → Q u (W.S h' t')) →
    (∀ e s, ExcOk W A hid env (fun o => ∃ x, X x ∧ o = .exc x vars mu) g e s → E e s) → wpAny W.M A (eval e env) Q E (W.S h t)

theorem frHid_rest {g h outer} (R : Rep W hid g env vars mu h) (F : FrX A hid env outer) : FrHid (rest g [] h) (env :: outer) := fun e he => by
  rcases List.mem_cons.mp he with rfl | he
  · obtain ⟨m, o, es, ep, ho, hd, _⟩ := R.ns
    exact ⟨F.kind, _, o, es, ep, F.loc, rest_of ho R.gL (by simp), hd⟩
  · obtain ⟨h1, L, o, es, ep, h2, h3, h4⟩ := F.hid e he
    obtain ⟨sl, e1, _⟩ := R.hs L o h3
    refine ⟨h1, L, _, es, ep, h2, rest_of e1 ?_ (by simp), h4⟩
    cases q : g L with
    | none => rfl
    | some o' => rw [R.gh L o' q] at h3; cases h3

theorem ev_call_core {P : Prop} {x : Str} {np pos : Pos} {a : Addr} {fd : FuncData} {o : Obj} {n : Nat} {e : Expr} {es : List Expr} {ds : List PV} {K : PV → Prop} {X : Value → Prop} {outer} (O : W.Ok) (ao : AOk W A n) (F : P → FrX A hid env outer) (hXP : ∀ x, X x → P) (N : GName W env x (.ref a)) (ho : W.base.get? a = some o) (hd : o.data = .func fd)
    (ha : EvArgs W A hid env vars mu (e :: es) ds) (hf : FnP W P (.ref a) n ds K X) (hs : starEach (e :: es) env = (false, eval e env) :: starEach es env) : EvG W A hid env vars mu (.Call (.Name x np) (e :: es) [] pos) K X := fun g h t Q E R k kx =>
  Call_ (name_global O N R (callWith_def hd (ha pos g h t _ E R fun us g1 h1 t1 l1 R1 i1 => ⟨R1.base _ _ ho, by
    have back : ∀ {g2 h2}, Le g1 g2 → RepE W (rest g1 [] h1) g2 h2 → Rep W hid g2 env vars mu h2 := fun l2 RE2 => R1.back l2 RE2 (fun a h => by cases h) (fun a l z_ h => by cases h)
    refine hf A (rest g1 [] h1) g1 h1 t1 us _ E (env :: outer) ao.zero (fun hx => ⟨(F hx).frames, frHid_rest R1 (F hx)⟩) ⟨R1.bs, R1.gs, fun b o e => .of (rest_some e).1, fun b o e => ?_⟩ i1 (fun d u g2 h2 t2 hK l2 RE2 i2 => ?_) fun x ae g2 h2 h3 t3 hX l2 RE2 FL => ?_
    · cases q : rest g1 [] h1 b with
      | none => rfl
      | some o' => rw [(rest_some q).2.1] at e; cases e
    · exact k d u g2 h2 t2 hK (l1.trans l2) (back l2 RE2) i2
    · obtain ⟨B, a0, q1, q2, q3, q4⟩ := FL
      exact kx _ _ ⟨x, vars, mu, g2, h2, ae, _, h3, t3, rfl, rfl, ⟨x, hX, rfl⟩, l1.trans l2, back l2 RE2, (F (hXP x hX)).frames, .fly B a0 q1 q2 q3 q4⟩⟩) hs)) rfl
theorem ev_call_fn {x : Str} {np pos : Pos} {a : Addr} {fd : FuncData} {o : Obj} {n : Nat} {e : Expr} {es : List Expr} {ds : List PV} {d : PV} (O : W.Ok) (ao : AOk W A n) (N : GName W env x (.ref a)) (ho : W.base.get? a = some o) (hd : o.data = .func fd)
    (ha : EvArgs W A hid env vars mu (e :: es) ds) (hf : Fn W (.ref a) n ds d) (hs : starEach (e :: es) env = (false, eval e env) :: starEach es env) : Ev W A hid env vars mu (.Call (.Name x np) (e :: es) [] pos) d := fun g h t Q E R k =>
  ev_call_core (outer := []) O ao (fun h => h.elim) (fun z_ h => h) N ho hd ha hf hs g h t Q E R (fun d' u g' h' t' e => by subst e; exact k u g' h' t') fun e s y => by
    obtain ⟨_, _, _, _, _, _, _, _, _, _, _, ⟨_, h, _⟩, _⟩ := y; exact h.elim

theorem ex_retG {e : Expr} {pos} {Kd : PV → Prop} {X : Value → Prop} (he : EvG W A hid env vars mu e Kd X) : Ex1 W A hid env vars mu (.Return (some e) pos) (fun o => (∃ d, Kd d ∧ o = .ret d) ∨ (∃ x, X x ∧ o = .exc x vars mu)) := fun g h t R =>
  wpAny_Return_some (he g h t _ _ R (fun d u g1 h1 t1 hK l1 R1 i1 => ⟨d, g1, h1, t1, rfl, .inl ⟨d, hK, rfl⟩, l1, R1.e, i1⟩) fun e s y => by
    obtain ⟨x, v, m, g₁, h₁, a, l, hh, tt, e1, e2, q, r⟩ := y
    exact ⟨x, v, m, g₁, h₁, a, l, hh, tt, e1, e2, .inr q, r⟩)
end
end Mine
end

section
set_option tactic.hygienic false
open PySem PySem.W PyProof.Rows PySem.Calls PySem.SeqAt
set_option linter.unusedVariables false
set_option maxRecDepth 100000
namespace Mine
section
variable {W : Wk} {A : Around} {hid : PMap} {env : Env} {vars : Vars} {mu : Mu} {K K' : Out → Prop}

theorem AsList.obj {g h d l u} (x : AsList mu d l) (R : Rep W hid g env vars mu h) (i : Is g d u) : ∃ a vs n, u = .ref a ∧ h.get? a = some (lobj vs n) ∧ Iss g l vs.toList := by
  rcases x with rfl | ⟨a, rfl, hm⟩
  · cases i with
    | list e r => exact ⟨_, _, _, rfl, R.gs _ _ e, r⟩
  · cases i
    obtain ⟨vs, n, e, r, _⟩ := R.mus a l hm
    exact ⟨a, vs, n, rfl, e, r⟩

theorem evnew_add {a b : Expr} {pos : Pos} {d e la lb} (ha : Ev W A hid env vars mu a d) (hb : Ev W A hid env vars mu b e) (hla : AsList mu d la) (hlb : AsList mu e lb) (hs : la.length + lb.length ≤ 100000) :
    EvNew W A hid env vars mu (.BinOp a .Add b pos) (la ++ lb) := fun g h t Q E R k =>
  wpAny_BinOp (ha g h t _ E R fun u g1 h1 t1 l1 R1 i1 => hb g1 h1 t1 _ E R1 fun v g2 h2 t2 l2 R2 i2 => by
    obtain ⟨x, vs, n, rfl, e1, q1⟩ := hla.obj R2 (i1.mono l2)
    obtain ⟨y, ws, m, rfl, e2, q2⟩ := hlb.obj R2 i2
    have s1 := q1.length
    have s2 := q2.length
    simp at s1 s2
    refine P.add_list (s := W.S h2 t2) e1 e2 ?_ (by rw [sizeLine_eq]; (first | lia | omega))
    exact k _ g2 _ t2 (l1.trans l2) (R2.keeps (kept_push h2 _)) (new_obj R2 Rep.fresh_size (kept_push h2 _) (Heap.get?_push_size _ rfl) (by simpa using q1.append q2)))

inductive Part (W : Wk) (A : Around) (hid : PMap) (env : Env) (vars : Vars) (mu : Mu) : Option Expr → Option Int → Prop where
  | none : Part W A hid env vars mu none none
  | some {e k} : Ev W A hid env vars mu e (.int k) → Part W A hid env vars mu (some e) (some k)
theorem Part.run {o k} (x : Part W A hid env vars mu o k) : ∀ g h t (Q : Value → Shared → Prop) (E : Value → Shared → Prop), Rep W hid g env vars mu h →
    (∀ u g' h' t', Le g g' → Rep W hid g' env vars mu h' → IsPart u k → Q u (W.S h' t')) → wpAny W.M A (evalPart o env) Q E (W.S h t) := by
  cases x with
  | none => intro g h t Q E R k; exact wpAny_pure (k _ g h t (Le.refl g) R .none)
  | some he => intro g h t Q E R k; exact he g h t Q E R fun u g1 h1 t1 l1 R1 i1 => by cases i1; exact k _ g1 h1 t1 l1 R1 (.int _ _)
noncomputable def sliceP {α : Type} (l : List α) (lo hi : Option Int) : List α := (l.drop (lo.elim 0 (clipAt l.length))).take (hi.elim l.length (clipAt l.length) - lo.elim 0 (clipAt l.length))
theorem Iss.drop {g : PMap} {ds vs} (h : Iss g ds vs) : ∀ k, Iss g (ds.drop k) (vs.drop k) :=
  h.fold (P := fun ds vs => ∀ k, Iss g (ds.drop k) (vs.drop k)) (fun k => by rw [List.drop_nil, List.drop_nil]; exact .nil) fun {d v ds vs} i r k => by
    cases k with
    | zero => exact .cons i (r 0)
    | succ k => exact r k
theorem Iss.take {g : PMap} {ds vs} (h : Iss g ds vs) : ∀ k, Iss g (ds.take k) (vs.take k) :=
  h.fold (P := fun ds vs => ∀ k, Iss g (ds.take k) (vs.take k)) (fun k => by rw [List.take_nil, List.take_nil]; exact .nil) fun {d v ds vs} i r k => by
    cases k with
    | zero => exact .nil
    | succ k => exact .cons i (r k)
theorem Iss.reverse {g : PMap} {ds vs} (h : Iss g ds vs) : Iss g ds.reverse vs.reverse :=
  h.fold (P := fun ds vs => Iss g ds.reverse vs.reverse) .nil fun i r => by
    rw [List.reverse_cons, List.reverse_cons]
    exact r.append (.cons i .nil)

theorem evnew_slice {v : Expr} {lo hi : Option Expr} {p pos : Pos} {d l klo khi} (hv : Ev W A hid env vars mu v d) (hl : AsList mu d l) (hn : l.length ≤ 100000) (plo : Part W A hid env vars mu lo klo) (phi : Part W A hid env vars mu hi khi) :
    EvNew W A hid env vars mu (.Subscript v (.Slice lo hi none p) pos) (sliceP l klo khi) := fun g h t Q E R k =>
  Subscript_ (hv g h t _ E R fun u g1 h1 t1 l1 R1 i1 => wpAny_Slice (plo.run g1 h1 t1 _ E R1 fun x g2 h2 t2 l2 R2 p2 => phi.run g2 h2 t2 _ E R2 fun y g3 h3 t3 l3 R3 p3 => wpAny_pure (by
    obtain ⟨a, vs, rfl, q1, q2⟩ := hl.get R3 (i1.mono (l2.trans l3))
    have hlen : vs.size = l.length := by have := q2.length; simpa using this
    obtain ⟨ops, ho⟩ := sub_ops (.Slice lo hi none p) (.ref a) (.ref h3.objs.size)
    have hl2 : (h3.push { cls := .type "slice", data := .fields #[x, y, .none] }).IsList a vs := q1.push _
    refine tail_any (s := W.S (h3.push { cls := .type "slice", data := .fields #[x, y, .none] }) t3) hl2.typeIs slot_list_getitem.lookup (wpAny_getItem_list_slice (s := W.S (h3.push { cls := .type "slice", data := .fields #[x, y, .none] }) t3) hl2 (Heap.IsSliceOf.new ..) p2 p3 .none (by simp) ?_ (by rw [sizeLine_eq]; (first | lia | omega))) ho
    have R4 := R3.keeps (kept_push h3 { cls := .type "slice", data := .fields #[x, y, .none] })
    refine k _ g3 _ t3 ((l1.trans l2).trans l3) (R4.keeps (kept_push _ _)) (new_obj R4 Rep.fresh_size (kept_push _ _) (Heap.get?_push_size _ rfl) ?_)
    rw [slicePick_plain]
    unfold sliceP
    rw [hlen]
    exact (q2.drop _).take _)))
theorem Rep.mutate {g h h' a l l' m1 m2 vs' n'} (R : Rep W hid g env vars (m1 ++ (a, l) :: m2) h) (hs : Heap.SameBut a h h') (e : h'.get? a = some (lobj vs' n')) (i : Iss g l' vs'.toList) : Rep W hid g env vars (m1 ++ (a, l') :: m2) h' := by
  obtain ⟨vs, n, e0, i0, r2, r3, r4, r5⟩ := R.mus a l (by simp)
  have nodup := R.mnd
  rw [List.map_append, List.map_cons] at nodup
  have hne : ∀ b lb, (b, lb) ∈ m1 ∨ (b, lb) ∈ m2 → b ≠ a := by
    rintro b lb hm rfl
    have hh := List.nodup_append.mp nodup
    rcases hm with hm | hm
    · exact hh.2.2 b (List.mem_map.mpr ⟨_, hm, rfl⟩) b (List.mem_cons_self) rfl
    · exact (List.nodup_cons.mp hh.2.1).1 (List.mem_map.mpr ⟨_, hm, rfl⟩)
  refine ⟨R.bs, fun b o q => (hs.2 b (fun z => by rw [z, r2] at q; cases q)).trans (R.gs b o q), fun b o q => ?_, R.gh, ?_, fun x d q => ?_, R.gL, R.hL, fun x c q => ?_, R.cnd, fun b lb q => ?_, ?_⟩
  · obtain ⟨sl, e1, e2⟩ := R.hs b o q
    exact ⟨sl, (hs.2 b (fun z => by rw [z, r3] at q; cases q)).trans e1, e2⟩
  · obtain ⟨m, hn⟩ := R.ns; exact ⟨m, hn.sameBut hs (Ne.symm r4)⟩
  · obtain ⟨u, iu, hd, ⟨hl, m, hn, hm⟩ | ⟨c, hk, hc, hv⟩⟩ := R.vs x d q
    · exact ⟨u, iu, hd, .inl ⟨hl, m, hn.sameBut hs (Ne.symm r4), hm⟩⟩
    · exact ⟨u, iu, hd, .inr ⟨c, hk, hc, hv.sameBut hs (r5 x c hc)⟩⟩
  · obtain ⟨⟨v, hv⟩, k1, k2⟩ := R.cell x c q
    exact ⟨⟨v, hv.sameBut hs (r5 x c q)⟩, k1, k2⟩
  · by_cases z : b = a
    · subst z
      have : lb = l' := by
        rcases List.mem_append.mp q with q | q
        · exact absurd rfl (hne _ _ (.inl q))
        · rcases List.mem_cons.mp q with q | q
          · cases q; rfl
          · exact absurd rfl (hne _ _ (.inr q))
      subst this
      exact ⟨vs', n', e, i, r2, r3, r4, r5⟩
    · have q' : (b, lb) ∈ m1 ++ (a, l) :: m2 := by
        rcases List.mem_append.mp q with q | q
        · exact List.mem_append_left _ q
        · rcases List.mem_cons.mp q with q | q
          · cases q; exact absurd rfl z
          · exact List.mem_append_right _ (.tail _ q)
      obtain ⟨ws, m, k1, k2, k3⟩ := R.mus b lb q'
      exact ⟨ws, m, (hs.2 b z).trans k1, k2, k3⟩
  · rw [List.map_append, List.map_cons]; exact nodup

theorem setitem_K {h : Heap} {t : Nat} {a : Addr} {vs : Array Value} {n : Nat} {k : Int} {tk : Tok} {x : Value} {Q : Unit → Shared → Prop} {E} (e : h.get? a = some (lobj vs n)) (h0 : 0 ≤ k) (h1 : k < vs.size) (h2 : vs.size ≤ 100000)
    (kk : ∀ h' n', h'.get? a = some (lobj (vs.setIfInBounds k.toNat x) n') → Heap.SameBut a h h' → Q () (W.S h' t)) : wpAny W.M A (setItem (.ref a) (.int k tk) x) Q E (W.S h t) := by
  have T : (W.S h t).TypeIs (.ref a) "list" := ⟨_, e, rfl⟩
  unfold setItem
  first
    | refine wpAny_holding (wpAny_bind (wpAny_sequenceKey T (by decide) ?_))
    | refine wpAny_bind (wpAny_sequenceKey T (by decide) ?_)
  refine wpAny_bind (wpAny_callSpecial?_slot (name := Str.ofString "__setitem__") T slot_list_setitem (wpAny_call_entry slot_list_setitem T entry_list_setitem ?_ (args_list_setitem _ _ _)))
  have hfit : Builtin.List.listFitsIndex k = true := fitsIndex_of h0 (by (first | (clear T kk h0 e; lia) | lia | omega))
  show wpAny _ _ (Builtin.List.listSubscript? (.int k tk) >>= _) _ _ _
  refine wpAny_bind (wpAny_listSubscript_int hfit ?_)
  clear hfit
  obtain ⟨j, rfl⟩ := Int.eq_ofNat_of_zero_le h0
  rw [Int.toNat_natCast] at kk
  have hx : vs[j]? = some (vs[j]'(by (first | lia | omega))) := Array.getElem?_eq_getElem _
  have up := IsL.update e (·.setIfInBounds j x)
  show wpAny _ _ ((seqItemAt a j >>= fun r => pure (r.map (j, ·))) >>= _) _ _ _
  refine wpAny_bind (wpAny_bind (wpAny_seqItemAt (s := W.S h t) e rfl (wpAny_pure ?_)))
  rw [hx]
  show wpAny _ _ (setSeqItemAt a j x >>= _) _ _ _
  refine wpAny_bind (wpAny_setSeqItemAt (s := W.S h t) e rfl ?_)
  first
    | exact wpAny_bind (wpAny_pure (wpAny_pure ⟨.none, rfl, wpAny_pure (kk _ _ up (Heap.SameBut.update ..))⟩))
    | exact wpAny_pure ⟨.none, rfl, wpAny_pure (kk _ _ up (Heap.SameBut.update ..))⟩

theorem ex_setitem {o i e : Expr} {p pos : Pos} {a l k d m1 m2} (he : Ev W A hid env vars (m1 ++ (a, l) :: m2) e d) (ho : Ev W A hid env vars (m1 ++ (a, l) :: m2) o (.loc a)) (hi : Ev W A hid env vars (m1 ++ (a, l) :: m2) i (.int k))
    (h0 : 0 ≤ k) (h1 : k < l.length) (h2 : l.length ≤ 100000) (hsw : swapsWith e (some (.Subscript o i p)) pos.line env = pure false) :
    Ex1 W A hid env vars (m1 ++ (a, l) :: m2) (.Assign [.Subscript o i p] e pos) (· = .next vars (m1 ++ (a, l.set k.toNat d) :: m2)) := fun g h t R =>
  wpAny_Assign_Subscript (he g h t _ _ R fun u g1 h1' t1 l1 R1 i1 => ho g1 h1' t1 _ _ R1 fun v g2 h2' t2 l2 R2 i2 => hi g2 h2' t2 _ _ R2 fun w g3 h3 t3 l3 R3 i3 => by
    cases i2; cases i3
    obtain ⟨vs, n, e0, i0, _⟩ := R3.mus a l (by simp)
    have hlen : vs.size = l.length := by have := i0.length; simpa using this
    refine setitem_K e0 h0 (by (first | (clear i0 e0 R3 l3 R2 l2 i1 R1 l1 R hsw h2 h0 hi ho he; lia) | lia | omega)) (by (first | lia | omega)) fun h4 n4 e4 hs4 => ⟨_, _, g3, h4, t3, rfl, rfl, (l1.trans l2).trans l3, R3.mutate hs4 e4 ?_⟩
    rw [Array.toList_setIfInBounds]
    exact Iss.set (i1.mono (l2.trans l3)) _ i0) hsw
theorem ex_augitem {o i e : Expr} {p pos : Pos} {op : Operator} {a l k b c d m1 m2} (ho : Ev W A hid env vars (m1 ++ (a, l) :: m2) o (.loc a)) (hi : Ev W A hid env vars (m1 ++ (a, l) :: m2) i (.int k)) (he : Ev W A hid env vars (m1 ++ (a, l) :: m2) e b)
    (h0 : 0 ≤ k) (h1 : k < l.length) (h2 : l.length ≤ 100000) (hc : l[k.toNat]? = some c) (hop : Op W A hid env vars (m1 ++ (a, l) :: m2) [c, b] (fun us => inplaceOp op (us.getD 0 .none) (us.getD 1 .none)) d)
    (ha : ∀ ov iv new, augStore i ov iv new = (do holding [new, ov, iv] (setItem ov iv new); release [new, ov, iv] []; pure .next)) :
    Ex1 W A hid env vars (m1 ++ (a, l) :: m2) (.AugAssign (.Subscript o i p) op e pos) (· = .next vars (m1 ++ (a, l.set k.toNat d) :: m2)) := fun g h t R =>
  wpAny_AugAssign_SubscriptAny (ho g h t _ _ R fun v g1 h1' t1 l1 R1 i1 => hi g1 h1' t1 _ _ R1 fun w g2 h2' t2 l2 R2 i2 => by
    cases i1; cases i2
    obtain ⟨vs, n, e0, i0, _⟩ := R2.mus a l (by simp)
    have hlen : vs.size = l.length := by have := i0.length; simpa using this
    obtain ⟨x, hx, ix⟩ := i0.get _ _ hc
    refine wpAny_getItem_list (s := W.S h2' t2) (items := vs) ⟨_, e0, rfl, _, rfl⟩ h0 (by (first | (clear ix hx hlen i0 e0 R2 l2 R1 l1 R ha hop hc h0 he hi ho; lia) | lia | omega)) (by simpa using hx) (he g2 h2' t2 _ _ R2 fun y g3 h3 t3 l3 R3 i3 => ?_)
    refine hop g3 h3 t3 [x, y] _ _ R3 (.cons (ix.mono l3) (.cons i3 .nil)) fun z g4 h4 t4 l4 R4 i4 => ?_
    obtain ⟨vs', n', e1, i1', _⟩ := R4.mus a l (by simp)
    have hlen' : vs'.size = l.length := by have := i1'.length; simpa using this
    refine setitem_K e1 h0 (by (first | lia | omega)) (by (first | lia | omega)) fun h5 n5 e5 hs5 => ⟨_, _, g4, h5, t4, rfl, rfl, ((l1.trans l2).trans l3).trans l4, R4.mutate hs5 e5 ?_⟩
    rw [Array.toList_setIfInBounds]
    exact Iss.set i4 _ i1') ha

theorem ex_append {o e : Expr} {ap cp pos : Pos} {a l d m1 m2} (ho : Ev W A hid env vars (m1 ++ (a, l) :: m2) o (.loc a)) (he : Ev W A hid env vars (m1 ++ (a, l) :: m2) e d) (h2 : l.length ≤ 99999)
    (hbase : attributeBase o "append" env (eval o env) = eval o env) (hs : starEach [e] env = [(false, eval e env)]) (hline : (ap.endLine == cp.line) = true) (hi : interactive env = false)
    (hsw : swapsWith (.Call (.Attribute o "append" ap) [e] [] cp) none pos.line env = pure false) :
    Ex1 W A hid env vars (m1 ++ (a, l) :: m2) (.Expr (.Call (.Attribute o "append" ap) [e] [] cp) pos) (· = .next vars (m1 ++ (a, l ++ [d]) :: m2)) := fun g h t R =>
  wpAny_Expr (wpAny_Call_append hbase (by rw [hs]; rfl) hline (by rw [hs]; rfl) (ho g h t _ _ R fun v g1 h1 t1 l1 R1 i1 => by
    cases i1
    obtain ⟨vs, n, e0, i0, _⟩ := R1.mus a l (by simp)
    refine ⟨a, vs, rfl, ⟨_, n, e0, rfl, rfl, rfl⟩, he g1 h1 t1 _ _ R1 fun y g2 h2' t2 l2 R2 i2 => ?_⟩
    obtain ⟨vs', n', e1, i1', _⟩ := R2.mus a l (by simp)
    have hlen' : vs'.size = l.length := by have := i1'.length; simpa using this
    refine append_K e1 (by (first | lia | omega)) fun h3 n3 e3 hs3 => ⟨_, _, g2, h3, t2, rfl, rfl, l1.trans l2, R2.mutate hs3 e3 ?_⟩
    simpa using i1'.append (.cons i2 .nil))) hi hsw

inductive TgtAll (hid : PMap) (env : Env) : List Expr → List PV → Vars → Vars → Prop where
  | nil {v} : TgtAll hid env [] [] v v
  | cons {x p es d ds v v'} : Sto hid env x → (x == ("__debug__" : Str)) = false → TgtAll hid env es ds ((x, d) :: v) v' → TgtAll hid env (.Name x p :: es) (d :: ds) v v'
theorem ex_unpack_sw {es : List Expr} {n : Nat} {tp pos : Pos} {e : Expr} {names : List Str} {ds v'} (hh : A.handled = none) (hk : env.scope.kind = .function) (he : Ev W A hid env vars mu e (.tup ds)) (hl : names.length = ds.length)
    (x : TgtAll hid env (names.reverse.map fun n => .Name n default) ds.reverse vars v')
    (hs : swapsWithSole [.Tuple es n tp] e pos.line env = pure false) (hw : swappedStores [.Tuple es n tp] e env = pure (some names)) :
    Ex1 W A hid env vars mu (.Assign [.Tuple es n tp] e pos) (· = .next v' mu) := fun g h t R =>
  Assign_Tuple_swapped (he g h t _ _ R fun u g1 h1 t1 l1 R1 i1 => by
    set_option tactic.hygienic true in cases i1 with
    | tup e q =>
      rename_i a vs m
      have hlen : vs.size = ds.length := by have := q.length; simpa using this
      rw [hl, ← hlen]
      refine unpackItems_tuple (s := W.S h1 t1) hh ⟨_, R1.gs _ _ e, rfl, m, rfl⟩ fun h' he => ?_
      have hk' : Kept h1 h' := fun b o q => he b o (fun z => by rw [z, Rep.fresh_size] at q; cases q) q
      have R2 := R1.keeps hk'
      have key : ∀ (ns : List Str) (ds' : List PV) (vv : Vars), TgtAll hid env (ns.map fun n => .Name n default) ds' vv v' → ∀ h t us, Rep W hid g1 env vv mu h → Iss g1 ds' us → wpAny W.M A (assignInOrder (ns.map fun n => bindName env n) us) (fun z_ => FlowOk W hid env (· = .next v' mu) g .next) (ExcOk W A hid env (· = .next v' mu) g) (W.S h t) := by
        intro ns
        induction ns with
        | nil => intro ds' vv x h t us R i; cases x; exact assignInOrder_nil ⟨_, _, g1, h, t, rfl, rfl, l1, R⟩
        | cons nm r ih =>
          intro ds' vv x h t us R i
          cases x with
          | cons s1 s2 s3 =>
            cases i with
            | cons i is => exact assignInOrder_cons (wpAny_bindName (store_K s1 hk s2 R i fun h' t' R' => ih _ _ s3 h' t' _ R' is))
      exact key _ _ _ x h' t1 _ R2 q.reverse) hs hw

end
end Mine
end

section
set_option tactic.hygienic false
open PySem PySem.W PyProof.Rows PySem.Calls PySem.SeqAt
set_option linter.unusedVariables false
set_option maxRecDepth 100000
namespace Mine
section
variable {W : Wk} {A : Around} {hid : PMap} {env : Env} {vars : Vars} {mu : Mu} {K K' : Out → Prop}

theorem turn_inner (elt : Expr) (g0 : Comprehension) (target iter : Expr) (ifs : List Expr) (scope : Scope) (pos : Pos) (it acc : Value) (env : Env) :
    compTurn (.ListComp elt [g0, ⟨target, iter, ifs, 0⟩] scope pos) 1 it acc env = (do
      standAt iter.pos
      match ← pyNext it with
      | none => pure (.done .next)
      | some v =>
        letOwnedTupleGo target it v
        assign target env v
        let mut ok := true
        for c in ifs do
          if ok then ok ← isTrue c env (eval c env)
        if ok then
          (do let _ ← call (.builtin "list.append") [acc, ← eval elt env])
        again (.compLoop (.ListComp elt [g0, ⟨target, iter, ifs, 0⟩] scope pos) 1 it acc env)) := by rfl
theorem turn_outer (elt : Expr) (target iter : Expr) (ifs : List Expr) (t1 i1 : Expr) (ifs1 : List Expr) (scope : Scope) (pos : Pos) (it acc : Value) (env : Env) :
    compTurn (.ListComp elt [⟨target, iter, ifs, 0⟩, ⟨t1, i1, ifs1, 0⟩] scope pos) 0 it acc env = (do
      standAt iter.pos
      match ← pyNext it with
      | none => pure (.done .next)
      | some v =>
        letOwnedTupleGo target it v
        assign target env v
        let mut ok := true
        for c in ifs do
          if ok then ok ← isTrue c env (eval c env)
        if ok then
          let x ← eval i1 env
          standAt i1.pos
          let x ← foldedSetIterable i1 env x
          let _ ← runOwn (.compStart (.ListComp elt [⟨target, iter, ifs, 0⟩, ⟨t1, i1, ifs1, 0⟩] scope pos) 1 (← holding [x] (pyIter x)) acc env) env
        again (.compLoop (.ListComp elt [⟨target, iter, ifs, 0⟩, ⟨t1, i1, ifs1, 0⟩] scope pos) 0 it acc env)) := by rfl

theorem loop_inner {elt target iter : Expr} {g0 : Comprehension} {ifs : List Expr} {scope : Scope} {pos : Pos} {it acc : Value} {env : Env} {R : Result → Shared → Prop} {s : Shared} (I : Nat → Shared → Prop)
    (turn : ∀ n s, I n s → wpAny W.M A (pyNext it) (fun r s₁ => match r with
      | none => R (.ok .next) s₁
      | some v => wpAny W.M A (letOwnedTupleGo target it v) (fun z_ s₀ => wpAny W.M A (assign target env v) (fun z_ s₂ =>
          wpAny W.M A (forIn ifs true fun c r => if r = true then do let ok ← isTrue c env (eval c env); pure (ForInStep.yield ok) else pure (ForInStep.yield r)) (fun ok s₃ =>
            if ok = true then wpAny W.M A (eval elt env) (fun x s₄ =>
              wpAny W.M A (call (.builtin "list.append") [acc, x]) (fun z_ s₅ => ∃ m, m < n ∧ I m s₅) (notedBy W.M A env fun e s' => R (.error e) s') s₄) (notedBy W.M A env fun e s' => R (.error e) s') s₃
            else ∃ m, m < n ∧ I m s₃) (notedBy W.M A env fun e s' => R (.error e) s') s₂) (notedBy W.M A env fun e s' => R (.error e) s') s₀) (notedBy W.M A env fun e s' => R (.error e) s') s₁) (notedBy W.M A env fun e s' => R (.error e) s') s)
    (n : Nat) (h : I n s) :
    codeAny W.M A (.compLoop (.ListComp elt [g0, ⟨target, iter, ifs, 0⟩] scope pos) 1 it acc env) R s := by
  refine codeAny_loop rfl I (fun n s hI => ?_) n h
  show wpAny _ A ((compTurn (.ListComp elt [g0, ⟨target, iter, ifs, 0⟩] scope pos) 1 it acc env).onRaise (fun x => do noteFrame x env; theTreesLotGoes x)) _ _ s
  refine wpAny_noted ?_
  rw [turn_inner]
  refine wpAny_bind (wpAny_standAt (wpAny_bind (wpAny_mono (turn n s hI) (fun r s₁ h₁ => ?_) fun z_ z_ h' => h')))
  cases r with
  | none => exact wpAny_pure h₁
  | some v =>
    refine wpAny_bind (wpAny_mono h₁ (fun z_ s₂ h₂ => wpAny_bind (wpAny_mono h₂ (fun z_ s₂ h₂ => wpAny_bind (wpAny_mono h₂ (fun ok s₃ h₃ => ?_) fun z_ z_ h' => h')) fun z_ z_ h' => h')) fun z_ z_ h' => h')
    cases ok with
    | false => exact wpAny_pure ⟨rfl, h₃⟩
    | true => exact wpAny_bind (wpAny_bind (wpAny_mono h₃ (fun x s₄ h₄ => wpAny_bind (wpAny_mono h₄ (fun z_ s₅ h₅ => wpAny_pure (wpAny_pure ⟨rfl, h₅⟩)) fun z_ z_ h' => h')) fun z_ z_ h' => h'))

theorem loop_outer {elt target iter t1 i1 : Expr} {ifs ifs1 : List Expr} {scope : Scope} {pos : Pos} {it acc : Value} {env : Env} {R : Result → Shared → Prop} {s : Shared} (I : Nat → Shared → Prop)
    (turn : ∀ n s, I n s → wpAny W.M A (pyNext it) (fun r s₁ => match r with
      | none => R (.ok .next) s₁
      | some v => wpAny W.M A (assign target env v) (fun z_ s₂ =>
          wpAny W.M A (forIn ifs true fun c r => if r = true then do let ok ← isTrue c env (eval c env); pure (ForInStep.yield ok) else pure (ForInStep.yield r)) (fun ok s₃ =>
            if ok = true then wpAny W.M A (eval i1 env) (fun x s₄ => wpAny W.M A (pyIter x) (fun it2 s₅ =>
              codeAny W.M A (.compStart (.ListComp elt [⟨target, iter, ifs, 0⟩, ⟨t1, i1, ifs1, 0⟩] scope pos) 1 it2 acc env) (fun r s' => match r with | .ok f => ∃ m, m < n ∧ I m s' | .error e => cameBackBy W.M A env (notedBy W.M A env fun e s' => R (.error e) s') e s') s₅) (notedBy W.M A env fun e s' => R (.error e) s') s₄) (notedBy W.M A env fun e s' => R (.error e) s') s₃
            else ∃ m, m < n ∧ I m s₃) (notedBy W.M A env fun e s' => R (.error e) s') s₂) (notedBy W.M A env fun e s' => R (.error e) s') s₁) (notedBy W.M A env fun e s' => R (.error e) s') s)
    (n : Nat) (h : I n s) (ht : ∀ v, letOwnedTupleGo target it v = pure ()) (hf : ∀ x, foldedSetIterable i1 env x = pure x) :
    codeAny W.M A (.compLoop (.ListComp elt [⟨target, iter, ifs, 0⟩, ⟨t1, i1, ifs1, 0⟩] scope pos) 0 it acc env) R s := by
  refine codeAny_loop rfl I (fun n s hI => ?_) n h
  show wpAny _ A ((compTurn (.ListComp elt [⟨target, iter, ifs, 0⟩, ⟨t1, i1, ifs1, 0⟩] scope pos) 0 it acc env).onRaise (fun x => do noteFrame x env; theTreesLotGoes x)) _ _ s
  refine wpAny_noted ?_
  rw [turn_outer]
  refine wpAny_bind (wpAny_standAt (wpAny_bind (wpAny_mono (turn n s hI) (fun r s₁ h₁ => ?_) fun z_ z_ h' => h')))
  cases r with
  | none => exact wpAny_pure h₁
  | some v =>
    refine wpAny_bind (wpAny_of_eq (ht v) ?_)
    refine wpAny_bind (wpAny_mono h₁ (fun z_ s₂ h₂ => wpAny_bind (wpAny_mono h₂ (fun ok s₃ h₃ => ?_) fun z_ z_ h' => h')) fun z_ z_ h' => h')
    cases ok with
    | false => exact wpAny_pure ⟨rfl, h₃⟩
    | true =>
      refine wpAny_bind (wpAny_mono h₃ (fun x s₄ h₄ => wpAny_bind (wpAny_standAt (wpAny_bind (wpAny_of_eq (hf x) ?_)))) fun z_ z_ h' => h')
      refine wpAny_bind (wpAny_holding (wpAny_mono h₄ (fun it2 s₅ h₅ => wpAny_bind (wpAny_runOwn (codeAny_mono h₅ fun r s' hr => ?_))) fun z_ z_ h' => h'))
      cases r with
      | ok f => exact wpAny_pure ⟨rfl, hr⟩
      | error e => exact hr

theorem start_inner {elt target iter g0 ifs rest scope pos it acc env} {R : Result → Shared → Prop} {s : Shared}
    (h0 : codeAny W.M A (.compLoop (.ListComp elt (g0 :: ⟨target, iter, ifs, 0⟩ :: rest) scope pos) 1 it acc env) R s)
    (h : wpAny W.M A (pyIter it) (fun it' s' => codeAny W.M A (.compLoop (.ListComp elt (g0 :: ⟨target, iter, ifs, 0⟩ :: rest) scope pos) 1 it' acc env) R s')
      (notedBy W.M A env fun x s' => R (.error x) s') s) :
    codeAny W.M A (.compStart (.ListComp elt (g0 :: ⟨target, iter, ifs, 0⟩ :: rest) scope pos) 1 it acc env) R s := by
  refine codeAny_of_tree ?_
  show wpAny _ _ ((compStart (.ListComp elt (g0 :: ⟨target, iter, ifs, 0⟩ :: rest) scope pos) 1 it acc env).onRaise (fun x => do noteFrame x env; standAt theWindowsPlace)) _ _ s
  refine wpAny_notedAt ?_
  unfold compStart
  show wpAny _ _ (ask >>= _) _ _ s
  refine wpAny_bind (wpAny_askSetting (wpAny_ite ?_))
  split
  · first
      | exact wpAny_bind (wpAny_pure (wpAny_pure (And.intro rfl h0)))
      | exact wpAny_pure (And.intro rfl h0)
  · first
      | exact wpAny_bind (wpAny_rule (wpAny_bind (wpAny_standAt (wpAny_bind (wpAny_mono h (fun it' s' h' => wpAny_pure (And.intro rfl h')) fun z_ z_ x => x)))))
      | (refine wpAny_bind (wpAny_rule ?_); show wpAny _ _ (standAt iter.pos >>= _) _ _ s; exact wpAny_bind (wpAny_standAt (wpAny_bind (wpAny_mono h (fun it' s' h' => wpAny_pure (And.intro rfl h')) fun z_ z_ x => x))))

theorem inner_loop {elt target iter : Expr} {g0 : Comprehension} {ifs : List Expr} {scope : Scope} {pos : Pos} {cenv : Env} {hid0 g : PMap} {vv : Vars} {h : Heap} {t : Nat} {D I : Addr} {oI : Obj} {vs : Array Value} {nn : Nat} {d : PV} {u : Value} {its ds0 : List PV} {p : PV → Bool} {f : PV → PV} {tv : PV → Vars} {RR : Result → Shared → Prop}
    (hh : A.handled = none) (R : Rep W (ins (ins hid0 D (lobj vs nn)) I oI) g cenv vv mu h) (hI0 : hid0 I = none) (hD0 : hid0 D = none) (hDI : D ≠ I) (eI : h.get? I = some oI) (hof : ∃ vs, oI.data = .fields vs) (hsrc : Src mu d its) (i1 : Is g d u) (hit : ItAt u d 0 I h) (eD : h.get? D = some (lobj vs nn))
    (iss0 : Iss g ds0 vs.toList) (hlen : ds0.length + its.length ≤ 100000) (hlo : ∀ v it, letOwnedTupleGo target it v = pure ())
    (htgt : ∀ hid' a, a ∈ its → Tgt W A hid' cenv vv mu target a (tv a)) (htest : ∀ hid' a, a ∈ its → Tests W A hid' cenv (tv a) mu ifs (p a)) (helt : ∀ hid' a, a ∈ its → p a = true → Ev W A hid' cenv (tv a) mu elt (f a)) (hsub : ∀ a, a ∈ its → Sub vv (tv a))
    (fin : ∀ g' h' t' vs' nn', Le g g' → Rep W (ins hid0 D (lobj vs' nn')) g' cenv vv mu h' → h'.get? D = some (lobj vs' nn') → Iss g' (ds0 ++ (its.filter p).map f) vs'.toList → RR (.ok .next) (W.S h' t')) :
    codeAny W.M A (.compLoop (.ListComp elt [g0, ⟨target, iter, ifs, 0⟩] scope pos) 1 (.ref I) (.ref D) cenv) RR (W.S h t) := by
  refine loop_inner (ListLoop W hid0 g cenv vv mu I D d u its.length (appOut ds0 its p f)) (fun n s inv => ?_) (its.length + 1) ⟨0, g, h, t, oI, vs, nn, rfl, Nat.zero_le _, rfl, Le.refl g, eI, hof, hit, eD, by unfold appOut; simpa using iss0, R⟩
  exact list_turn hh hI0 hD0 hDI hsrc i1 hlen (.any hlo) (fun oD oI a ha => htgt _ a ha) htest helt hsub inv fun g' h' t' vs' nn' lg R4 e iss => fin g' h' t' vs' nn' lg R4 e iss
end
end Mine
end

section
set_option tactic.hygienic false
open PySem PySem.W PyProof.Rows PySem.Calls PySem.SeqAt
set_option linter.unusedVariables false
set_option maxRecDepth 100000
namespace Mine
section
variable {W : Wk} {A : Around} {hid : PMap} {env : Env} {vars : Vars} {mu : Mu} {K K' : Out → Prop}
noncomputable def flatOut (its : List PV) (p : PV → Bool) (its1 : PV → List PV) (p1 : PV → PV → Bool) (f : PV → PV → PV) (i : Nat) : List PV := ((its.take i).filter p).flatMap fun a => ((its1 a).filter (p1 a)).map (f a)
theorem flatOut_succ {its : List PV} {p : PV → Bool} {its1 : PV → List PV} {p1 : PV → PV → Bool} {f : PV → PV → PV} {i : Nat} {a : PV} (ha : its[i]? = some a) : flatOut its p its1 p1 f (i + 1) = flatOut its p its1 p1 f i ++ (if p a then ((its1 a).filter (p1 a)).map (f a) else []) := by
  unfold flatOut
  rw [take_succ_filter p its i a ha, List.flatMap_append]
  cases p a <;> simp
theorem flatOut_len {its : List PV} {p : PV → Bool} {its1 : PV → List PV} {p1 : PV → PV → Bool} {f : PV → PV → PV} {N : Nat} (h : ∀ a, a ∈ its → (its1 a).length ≤ N) : ∀ {i : Nat}, i ≤ its.length → (flatOut its p its1 p1 f i).length ≤ i * N
  | 0, _ => by simp [flatOut]
  | i + 1, hi => by
    have ih := flatOut_len (p := p) (p1 := p1) (f := f) h (Nat.le_of_succ_le hi)
    have hlt : i < its.length := hi
    rw [flatOut_succ (List.getElem?_eq_getElem hlt), List.length_append, Nat.succ_mul]
    have h1 := h its[i] (List.getElem_mem hlt)
    have h2 := List.length_filter_le (p1 its[i]) (its1 its[i])
    split
    · rw [List.length_map]; (first | lia | omega)
    · simp; (first | lia | omega)

theorem comp2_core {elt target iter t1 i1 : Expr} {ifs ifs1 : List Expr} {scope : Scope} {pos cpos : Pos} {use : Option (Value → Sem Unit)} {d : PV} {its : List PV} {vars' : Vars} {p : PV → Bool} {d1 : PV → PV} {its1 : PV → List PV} {p1 : PV → PV → Bool} {f : PV → PV → PV} {tv : PV → Vars} {tv1 : PV → PV → Vars} {N : Nat}
    {g h t} {Q : Value → Shared → Prop} {E : Value → Shared → Prop}
    (hh : A.handled = none) (he : Ev W A hid env vars mu iter d) (hsrc : Src mu d its) (B : BlockOk scope env) (hk : env.scope.kind = .function) (hv : Over scope env vars' vars) (hf : ∀ x, foldedSetIterable iter env x = pure x)
    (hlo : ∀ v it, letOwnedTupleGo target it v = pure ()) (hlen : its.length * N ≤ 100000)
    (hnc : ∀ x, scope.names.lookup x ≠ some .cell) (hlo1 : ∀ v it, letOwnedTupleGo t1 it v = pure ()) (hlen1 : ∀ a, a ∈ its → (its1 a).length ≤ N) (hf1 : ∀ C x, foldedSetIterable i1 (cEnv scope C env) x = pure x) (hsrc1 : ∀ a, a ∈ its → Src mu (d1 a) (its1 a))
    (htgt : ∀ hid' C a, a ∈ its → Tgt W A hid' (cEnv scope C env) vars' mu target a (tv a))
    (htest : ∀ hid' C a, a ∈ its → Tests W A hid' (cEnv scope C env) (tv a) mu ifs (p a))
    (hit1 : ∀ hid' C a, a ∈ its → p a = true → Ev W A hid' (cEnv scope C env) (tv a) mu i1 (d1 a))
    (htgt1 : ∀ hid' C a b, a ∈ its → b ∈ its1 a → Tgt W A hid' (cEnv scope C env) (tv a) mu t1 b (tv1 a b))
    (htest1 : ∀ hid' C a b, a ∈ its → b ∈ its1 a → Tests W A hid' (cEnv scope C env) (tv1 a b) mu ifs1 (p1 a b))
    (helt : ∀ hid' C a b, a ∈ its → b ∈ its1 a → p1 a b = true → Ev W A hid' (cEnv scope C env) (tv1 a b) mu elt (f a b))
    (hsub1 : ∀ a b, a ∈ its → b ∈ its1 a → Sub (tv a) (tv1 a b))
    (hsub : ∀ a, a ∈ its → Sub vars' (tv a))
    (R : Rep W hid g env vars mu h)
    (fin : ∀ C D g' h' t' oC, Le g g' → Rep W (ins hid C oC) g' env vars mu h' → hid C = none → (∀ v, oC.data ≠ .cell v) → (∀ h2, UpTo oC h2 C → ∃ m, h2.Ns C m) → NewL W (ins hid C oC) g' env mu h' D ((its.filter p).flatMap fun a => ((its1 a).filter (p1 a)).map (f a)) → compPost W.M A E use Q (.ref D) C (.ok .next) (W.S h' t')) :
    wpAny W.M A (comprehension (.ListComp elt [⟨target, iter, ifs, 0⟩, ⟨t1, i1, ifs1, 0⟩] scope pos) scope env cpos (newList []) false (eval iter env) use) Q E (W.S h t) := by
  refine comp_frame he hsrc B hk hv hf R (fun D I C hid0 g1 h4 t4 u oI0 RR i1 hit hof eI eD hI0 hD0 hDI R3 ow k => ?_) fin
  have hrI : ∀ oD, ins hid0 D oD I = none := fun oD => by rw [ins_other (Ne.symm hDI)]; exact hI0
  have hrD : ∀ oI, ins hid0 I oI D = none := fun oI => by rw [ins_other hDI]; exact hD0
  refine loop_outer (ListLoop W hid0 g1 (cEnv scope C env) vars' mu I D d u its.length (flatOut its p its1 p1 f)) ?_ (its.length + 1) ⟨0, g1, h4, t4, oI0, #[], 0, rfl, Nat.zero_le _, rfl, Le.refl g1, eI, hof, hit, eD, Iss.nil, R3⟩ (fun v => hlo v _) (hf1 _)
  clear hit hof eI eD R3 ow
  rintro n s ⟨i, g', h', t', oI, vs, nn, rfl, hile, rfl, lg, eIh, hoI, hita, eDh, iss, R'⟩
  refine iter_next hh R' hsrc (i1.mono lg) hita (fun a w h2 t2 ha iw hsb hit2 => ?_) fun hge h2 t2 hext => ?_
  · have hlt : i < its.length := (List.getElem?_eq_some_iff.mp ha).1
    have hmem : a ∈ its := List.mem_of_getElem? ha
    obtain ⟨o2, vs2, eo2, ef2⟩ := hit2.fields
    have R4 := R'.rehide (hrI _) (nocell_of hoI) hsb eo2
    refine htgt _ _ a hmem g' h2 t2 w _ _ R4 iw fun h3 t3 R5 => ?_
    refine htest _ _ a hmem g' h3 t3 _ _ R5 fun g4 h4 t4 l4 R6 => ?_
    have out := flatOut_succ (p := p) (its1 := its1) (p1 := p1) (f := f) ha
    have fin2 : ∀ {gg hh tt vs' nn'}, Le g' gg → hh.get? D = some (lobj vs' nn') → Iss gg (flatOut its p its1 p1 f (i + 1)) vs'.toList →
        Rep W (ins (ins hid0 D (lobj vs' nn')) I o2) gg (cEnv scope C env) (tv a) mu hh → ∃ m, m < its.length + 1 - i ∧ ListLoop W hid0 g1 (cEnv scope C env) vars' mu I D d u its.length (flatOut its p its1 p1 f) m (W.S hh tt) := by
      intro gg hh tt vs' nn' ll eD' is' RR
      have q3 := hit2.keep eo2 ef2 (RR.hs I o2 (ins_same _ _ _))
      exact ⟨its.length + 1 - (i + 1), turns_fall hlt, i + 1, gg, hh, tt, o2, vs', nn', rfl, hlt, rfl, lg.trans ll, q3.1, ⟨vs2, ef2⟩, q3.2, eD', is', RR.forget (hsub a hmem) (List.Sublist.refl _)⟩
    have getD : ∀ {gg hh vv}, Rep W (ins (ins hid0 D (lobj vs nn)) I o2) gg (cEnv scope C env) vv mu hh → hh.get? D = some (lobj vs nn) := fun RR => by
      exact (RR.hs D _ (by rw [ins_other hDI, ins_same])).get fun es ep z => nomatch (show Data.seq vs nn = Data.dict es ep from z)
    cases hp : p a with
    | false =>
      simp only [Bool.false_eq_true, if_false]
      refine fin2 l4 (getD R6) ?_ R6
      rw [out, hp]; simpa using iss.mono l4
    | true =>
      simp only [if_true]
      refine hit1 _ _ a hmem hp g4 h4 t4 _ _ R6 fun y g5 h5 t5 l5 R7 iy => iter_start R7 (hsrc1 a hmem) iy fun oJ hoJ hitJ => ?_
      have q := getD R7
      have hJ5 : h5.get? h5.objs.size = none := Rep.fresh_size
      have eJ : (h5.push oJ).get? h5.objs.size = some oJ := Heap.get?_push_size _ hoJ
      have hsmall : ∀ {b o'}, h5.get? b = some o' → b ≠ h5.objs.size := fun e z => by rw [z, hJ5] at e; cases e
      have eI5 : h5.get? I = some o2 := (hit2.keep eo2 ef2 (R7.hs I o2 (ins_same _ _ _))).1
      have hrestJ : ∀ oI', ins hid0 I oI' h5.objs.size = none := fun oI' => by
        rw [ins_other (Ne.symm (hsmall eI5))]
        have := R7.hnone hJ5
        rw [ins_other (Ne.symm (hsmall eI5)), ins_other (Ne.symm (hsmall q))] at this
        exact this
      have hofJ : ∃ vs, oJ.data = .fields vs := by obtain ⟨o', vs', e1, e2⟩ := hitJ.fields; rw [eJ] at e1; cases e1; exact ⟨vs', e2⟩
      have R9 : Rep W (ins (ins (ins hid0 I o2) D (lobj vs nn)) h5.objs.size oJ) g5 (cEnv scope C env) (tv a) mu (h5.push oJ) := by
        rw [ins_comm (Ne.symm hDI)]; exact (R7.keeps (kept_push h5 oJ)).hideAt (R7.lone hJ5) eJ
      have hl1 : (flatOut its p its1 p1 f i).length + (its1 a).length ≤ 100000 := by
        have h2 := flatOut_len (p := p) (p1 := p1) (f := f) hlen1 hile
        have h3 := hlen1 a hmem
        have h4 : (i + 1) * N ≤ its.length * N := Nat.mul_le_mul_right _ hlt
        rw [Nat.succ_mul] at h4
        (first | lia | omega)
      refine (fun key => start_inner key (iter_self hitJ key)) ?_
      refine inner_loop hh R9 (hrestJ _) (hrD _) (hsmall q) eJ hofJ (hsrc1 a hmem) iy hitJ (Heap.get?_push_of_some _ q) (iss.mono (l4.trans l5)) hl1 hlo1 (fun hid' b hb => htgt1 hid' _ a b hmem hb) (fun hid' b hb => htest1 hid' _ a b hmem hb) (fun hid' b hb hpb => helt hid' _ a b hmem hb hpb) (fun b hb => hsub1 a b hmem hb) fun g6 h6 t6 vs' nn' l6 R10 e10 iss6 => ?_
      refine fin2 ((l4.trans l5).trans l6) e10 ?_ ?_
      · rw [out, hp]
        simpa using iss6
      · rw [ins_comm hDI]; exact R10
  · have e : i = its.length := by (first | lia | omega)
    subst e
    have R4 := R'.letgo (hrI _) (nocell_of hoI) hext
    unfold flatOut at iss
    rw [List.take_length] at iss
    exact k g' h2 t2 vs nn lg R4 iss

theorem evnew_comp2 {elt target iter t1 i1 : Expr} {ifs ifs1 : List Expr} {scope : Scope} {pos : Pos} {its : List PV} {p : PV → Bool} {its1 : PV → List PV} {p1 : PV → PV → Bool} {f : PV → PV → PV} {d : PV} {vars' : Vars} {tv : PV → Vars} {d1 : PV → PV} {tv1 : PV → PV → Vars} {N : Nat} (hh : A.handled = none) (hk : env.scope.kind = .function)
    (he : Ev W A hid env vars mu iter d) (hsrc : Src mu d its) (B : BlockOk scope env) (hv : Over scope env vars' vars) (hf : ∀ x, foldedSetIterable iter env x = pure x) (hlo : ∀ v it, letOwnedTupleGo target it v = pure ()) (hlen : its.length * N ≤ 100000)
    (hnc : ∀ x, scope.names.lookup x ≠ some .cell) (hlo1 : ∀ v it, letOwnedTupleGo t1 it v = pure ()) (hlen1 : ∀ a, a ∈ its → (its1 a).length ≤ N) (hf1 : ∀ C x, foldedSetIterable i1 (cEnv scope C env) x = pure x) (hsrc1 : ∀ a, a ∈ its → Src mu (d1 a) (its1 a))
    (htgt : ∀ hid' C a, a ∈ its → Tgt W A hid' (cEnv scope C env) vars' mu target a (tv a))
    (htest : ∀ hid' C a, a ∈ its → Tests W A hid' (cEnv scope C env) (tv a) mu ifs (p a))
    (hit1 : ∀ hid' C a, a ∈ its → p a = true → Ev W A hid' (cEnv scope C env) (tv a) mu i1 (d1 a))
    (htgt1 : ∀ hid' C a b, a ∈ its → b ∈ its1 a → Tgt W A hid' (cEnv scope C env) (tv a) mu t1 b (tv1 a b))
    (htest1 : ∀ hid' C a b, a ∈ its → b ∈ its1 a → Tests W A hid' (cEnv scope C env) (tv1 a b) mu ifs1 (p1 a b))
    (helt : ∀ hid' C a b, a ∈ its → b ∈ its1 a → p1 a b = true → Ev W A hid' (cEnv scope C env) (tv1 a b) mu elt (f a b))
    (hsub1 : ∀ a b, a ∈ its → b ∈ its1 a → Sub (tv a) (tv1 a b)) (hsub : ∀ a, a ∈ its → Sub vars' (tv a)) :
    EvNew W A hid env vars mu (.ListComp elt [⟨target, iter, ifs, 0⟩, ⟨t1, i1, ifs1, 0⟩] scope pos) ((its.filter p).flatMap fun a => ((its1 a).filter (p1 a)).map (f a)) := fun g h t Q E R k => by
  rw [eval_ListComp]
  refine comp2_core hh he hsrc B hk hv hf hlo hlen hnc hlo1 hlen1 hf1 hsrc1 htgt htest hit1 htgt1 htest1 helt hsub1 hsub R fun C D g' h' t' oC l R' hC hnc hns N => ?_
  refine compPost_ok (hns _ (R'.hs C oC (ins_same _ _ _))) fun h2 hs2 => ?_
  have R2 := R'.letgo hC hnc hs2.extBut
  obtain ⟨L, vs, n, e, i⟩ := N
  have hDC : D ≠ C := fun z => by have := L.hid; rw [z, ins_same] at this; cases this
  refine k D g' h2 t' l R2 ⟨⟨L.g, by have := L.hid; rw [ins_other hDC] at this; exact this, L.loc, L.cell, L.mu⟩, vs, n, (hs2.2 D hDC).trans e, i⟩
end
end Mine
end

section
set_option tactic.hygienic false
open PySem PySem.W PyProof.Rows PySem.Calls PySem.SeqAt
set_option linter.unusedVariables false
set_option maxRecDepth 100000
namespace Mine

structure Names (W : Wk) : Prop where
  ok : W.Ok
  len : W.mg "len" = none
  sum : W.mg "sum" = none
  range : W.mg "range" = none
  sorted : W.mg "sorted" = none
  abs : W.mg "abs" = none
  int : W.mg "int" = none
  min : W.mg "min" = none
  max : W.mg "max" = none
  isinstance : W.mg "isinstance" = none
  list : W.mg "list" = none

theorem boot_len : bootBuiltins "len" = some (.builtin "len") := by decide +kernel
theorem boot_sum : bootBuiltins "sum" = some (.builtin "sum") := by decide +kernel
theorem boot_range : bootBuiltins "range" = some (.type "range") := by decide +kernel
theorem boot_sorted : bootBuiltins "sorted" = some (.builtin "sorted") := by decide +kernel
theorem boot_abs : bootBuiltins "abs" = some (.builtin "abs") := by decide +kernel
theorem boot_int : bootBuiltins "int" = some (.type "int") := by decide +kernel
theorem boot_min : bootBuiltins "min" = some (.builtin "min") := by decide +kernel
structure EnvOk (env : Env) : Prop where
  kind : env.scope.kind = .function
  glob : env.globals = mainGlobals
  bn : env.builtins = builtinsNs

section
variable {W : Wk} {A : Around} {hid : PMap} {env : Env} {vars : Vars} {mu : Mu} {K K' : Out → Prop}

theorem gname_b {x : Str} {v : Value} (E : EnvOk env) (hm : W.mg x = none) (hn : x ≠ "__name__") (hb : bootBuiltins x = some v) (hx : env.kindOf x = some .globalImplicit) (hd : (x == ("__debug__" : Str)) = false) : GName W env x v :=
  ⟨E.kind, E.glob, E.bn, hx, hd, .inr ⟨hm, hn, hb⟩⟩
theorem gname_g {x : Str} {v : Value} (E : EnvOk env) (hm : W.mg x = some v) (hx : env.kindOf x = some .globalImplicit) (hd : (x == ("__debug__" : Str)) = false) : GName W env x v :=
  ⟨E.kind, E.glob, E.bn, hx, hd, .inl hm⟩

theorem args1 {e : Expr} {d} (he : Ev W A hid env vars mu e d) (hs : starEach [e] env = [(false, eval e env)]) : EvArgs W A hid env vars mu [e] [d] := evargs_cons he evargs_nil hs

theorem ev_len {e : Expr} {np pos : Pos} {d l} (N : Names W) (E : EnvOk env) (he : Ev W A hid env vars mu e d) (hl : AsList mu d l) (hf : l.length < 2 ^ 62) (hx : env.kindOf "len" = some .globalImplicit) (hs : starEach [e] env = [(false, eval e env)]) :
    Ev W A hid env vars mu (.Call (.Name "len" np) [e] [] pos) (.int l.length) := ev_call_builtin N.ok (gname_b E N.len (by decide) boot_len hx (by decide)) (args1 he hs) (op_len hl hf) hs rfl
theorem ev_sum {e : Expr} {np pos : Pos} {d} {ns : List Int} (N : Names W) (E : EnvOk env) (hh : A.handled = none) (he : Ev W A hid env vars mu e d) (hl : AsList mu d (ns.map .int)) (hx : env.kindOf "sum" = some .globalImplicit) (hs : starEach [e] env = [(false, eval e env)]) :
    Ev W A hid env vars mu (.Call (.Name "sum" np) [e] [] pos) (.int ns.sum) := ev_call_builtin N.ok (gname_b E N.sum (by decide) boot_sum hx (by decide)) (args1 he hs) (op_sum hh hl) hs rfl
theorem ev_sorted {e : Expr} {np pos : Pos} {d} {ns : List Int} (N : Names W) (E : EnvOk env) (he : Ev W A hid env vars mu e d) (hl : AsList mu d (ns.map .int)) (h64 : ns.length ≤ 100000) (hx : env.kindOf "sorted" = some .globalImplicit) (hs : starEach [e] env = [(false, eval e env)]) :
    Ev W A hid env vars mu (.Call (.Name "sorted" np) [e] [] pos) (.list ((sortI ns).map .int)) := ev_call_builtin N.ok (gname_b E N.sorted (by decide) boot_sorted hx (by decide)) (args1 he hs) (op_sorted hl h64) hs rfl
theorem ev_abs {e : Expr} {np pos : Pos} {n : Int} (N : Names W) (E : EnvOk env) (he : Ev W A hid env vars mu e (.int n)) (hx : env.kindOf "abs" = some .globalImplicit) (hs : starEach [e] env = [(false, eval e env)]) :
    Ev W A hid env vars mu (.Call (.Name "abs" np) [e] [] pos) (.int (n.natAbs : Int)) := ev_call_builtin N.ok (gname_b E N.abs (by decide) boot_abs hx (by decide)) (args1 he hs) op_abs hs rfl
theorem ev_toint {e : Expr} {np pos : Pos} {n : Int} (N : Names W) (E : EnvOk env) (he : Ev W A hid env vars mu e (.int n)) (hx : env.kindOf "int" = some .globalImplicit) (hs : starEach [e] env = [(false, eval e env)]) :
    Ev W A hid env vars mu (.Call (.Name "int" np) [e] [] pos) (.int n) := ev_call_type N.ok (gname_b E N.int (by decide) boot_int hx (by decide)) (args1 he hs) op_int hs rfl
theorem ev_range1 {e : Expr} {np pos : Pos} {n : Int} (N : Names W) (E : EnvOk env) (he : Ev W A hid env vars mu e (.int n)) (hx : env.kindOf "range" = some .globalImplicit) (hs : starEach [e] env = [(false, eval e env)]) :
    Ev W A hid env vars mu (.Call (.Name "range" np) [e] [] pos) (.rng 0 n) := ev_call_type N.ok (gname_b E N.range (by decide) boot_range hx (by decide)) (args1 he hs) op_range1 hs rfl
theorem ev_range2 {e f : Expr} {np pos : Pos} {n m : Int} (N : Names W) (E : EnvOk env) (he : Ev W A hid env vars mu e (.int n)) (hf : Ev W A hid env vars mu f (.int m)) (hx : env.kindOf "range" = some .globalImplicit) (hs : starEach [e, f] env = [(false, eval e env), (false, eval f env)]) (hs2 : starEach [f] env = [(false, eval f env)]) :
    Ev W A hid env vars mu (.Call (.Name "range" np) [e, f] [] pos) (.rng n m) := ev_call_type N.ok (gname_b E N.range (by decide) boot_range hx (by decide)) (evargs_cons he (args1 hf hs2) (by rw [hs, hs2])) op_range2 (by rw [hs, hs2]) (by rw [hs2]; rfl)
theorem ev_min2 {e f : Expr} {np pos : Pos} {n m : Int} (N : Names W) (E : EnvOk env) (hh : A.handled = none) (he : Ev W A hid env vars mu e (.int n)) (hf : Ev W A hid env vars mu f (.int m)) (hx : env.kindOf "min" = some .globalImplicit) (hs : starEach [e, f] env = [(false, eval e env), (false, eval f env)]) (hs2 : starEach [f] env = [(false, eval f env)]) :
    Ev W A hid env vars mu (.Call (.Name "min" np) [e, f] [] pos) (.int (min n m)) := ev_call_builtin N.ok (gname_b E N.min (by decide) boot_min hx (by decide)) (evargs_cons he (args1 hf hs2) (by rw [hs, hs2])) (op_min2 hh) (by rw [hs, hs2]) (by rw [hs2]; rfl)
end

theorem bits_of_lt {a : Int} {k : Nat} (h : a.natAbs < 2 ^ k) : Builtin.Int.intBits a ≤ k := by
  unfold Builtin.Int.intBits
  set_option tactic.hygienic true in split
  · exact Nat.zero_le _
  · rename_i h0
    have hn : a.natAbs ≠ 0 := by
      intro z; apply h0; simp; (first | (clear h h0; lia) | lia | omega)
    exact (Nat.log2_lt hn).mpr h
theorem mulOk {a b : Int} {j k : Nat} (ha : a.natAbs < 2 ^ j) (hb : b.natAbs < 2 ^ k) (h : j + k ≤ 134217728) : IntMulOk a b := by
  have h1 := bits_of_lt ha
  have h2 := bits_of_lt hb
  unfold IntMulOk
  have : Builtin.Int.intTooBig ((Builtin.Int.intBits a : Int) + (Builtin.Int.intBits b : Int)) = false := by
    unfold Builtin.Int.intTooBig
    rw [bitsLine_eq]
    simp only [gt_iff_lt, decide_eq_false_iff_not, Int.not_lt]
    (first | lia | omega)
  rw [this]; simp
end Mine
end

section
set_option tactic.hygienic false
open PySem PySem.W PyProof.Rows PySem.Calls PySem.SeqAt
set_option linter.unusedVariables false
set_option maxRecDepth 100000
namespace Mine

noncomputable abbrev excBm : List Value := [.type "Exception", .type "BaseException", .type "object"]
structure OwnX (W : Wk) (x : Str) (C : Addr) : Prop where
  own : OwnClsQ x C excBm "Exception.__new__" W.mg W.base

section
variable {W : Wk} {A : Around} {hid : PMap} {env : Env} {vars : Vars} {mu : Mu} {K K' : Out → Prop}

theorem ex_raise {x : Str} {C : Addr} {np cpos pos : Pos} {e : Expr} {d : PV} {outer} (O : W.Ok) (X : OwnX W x C) (F : FrX A hid env outer) (hh : A.handled = none) (N : GName W env x (.ref C)) (he : Ev W A hid env vars mu e d) (hs : starEach [e] env = [(false, eval e env)]) :
    Ex1 W A hid env vars mu (.Raise (some (.Call (.Name x np) [e] [] cpos)) none pos) (fun o => o = .exc (.ref C) vars mu) := fun g h t R => by
  obtain ⟨bm, Nn, nm, q, bs, hdct, sn, sub, ab, col, dd, k0, k1, k2, k3, k5, mN, hC, hN, hni, T⟩ := X.own.own.obj
  refine wpAny_Raise_call_subT (C := C) (nm := nm) (q := q) (N := Nn) (bs := bs) (bm := bm) (hdct := hdct) (sn := sn) (sub := sub) (ab := ab) (col := col) (dd := dd) (k0 := k0) (k1 := k1) (k2 := k2) (k3 := k3) (k5 := k5)
    PySem.F.excBase_Exception (mN := mN) (T.hasType PySem.F.excBase_Exception.hasBase) hh (by rw [hs]; rfl) hni (name_global O N R ⟨rfl, ?_⟩)
  have ha := args1 he hs
  have := ha cpos g h t (fun vs s₂ => vs.length ≤ sizeLine ∧ (∀ b o, W.base.get? b = some o → s₂.heap.get? b = some o) ∧ ∀ h' e, Heap.MadeExcOf s₂.heap h' e (.ref C) vs → ExcOk W A hid env (fun o => o = .exc (.ref C) vars mu) g (.ref e) { s₂ with heap := h' }) (ExcOk W A hid env (fun o => o = .exc (.ref C) vars mu) g) R fun us g1 h1 t1 l1 R1 i1 => by
    refine ⟨by rw [i1.length, sizeLine_eq]; exact Nat.le_trans (by decide : 1 ≤ 2) (by decide), R1.base, fun h' ea hx => ⟨.ref C, vars, mu, g1, h1, ea, _, h', t1, rfl, rfl, rfl, l1, R1, F.frames, .made us hx⟩⟩
  rw [hs] at this ⊢
  exact Calls.evalArgs_plain (wpAny_mono this (fun vs s₂ h₂ => ⟨rfl, h₂.1, h₂.2.1 _ _ hC, hN.keeps h₂.2.1, T.keeps h₂.2.1, h₂.2.2⟩) fun z_ z_ y => y)

theorem Rep.after {g h h' : _} {B : Heap} (R : Rep W hid g env vars mu h) (hB : ∀ b o, B.get? b = some o → h'.get? b = some o) (q2 : ∀ b o, g b = some o → B.get? b = some o) (q3 : ∀ b o, h.get? b = some o → (∀ es ep, o.data ≠ .dict es ep) → B.get? b = some o) (q4 : h.UpToSlots h') : Rep W hid g env vars mu h' := by
  have keep : ∀ {b o}, h.get? b = some o → (∀ es ep, o.data ≠ .dict es ep) → h'.get? b = some o := fun e n => hB _ _ (q3 _ _ e n)
  have kcell : ∀ {c v}, h.IsCell c v → h'.IsCell c v := fun hc => by
    obtain ⟨o, e1, e2⟩ := id hc
    exact ⟨o, keep e1 (fun es ep z => by rw [e2] at z; cases z), e2⟩
  refine ⟨R.bs, fun a o e => hB _ _ (q2 a o e), fun a o e => ?_, R.gh, ?_, fun x d e => ?_, R.gL, R.hL, fun x c e => ?_, R.cnd, fun a l e => ?_, R.mnd⟩
  · obtain ⟨sl, e1, e2⟩ := R.hs a o e
    by_cases hd : ∃ es ep, o.data = .dict es ep
    · obtain ⟨es, ep, hd⟩ := hd
      obtain ⟨sl', e3⟩ := q4 a _ e1 (fun vs z => by rw [show ({ o with slots := sl } : Obj).data = o.data from rfl, hd] at z; cases z)
      exact ⟨sl', e3, fun n => absurd hd (n es ep)⟩
    · exact ⟨sl, keep e1 (fun es ep z => hd ⟨es, ep, z⟩), e2⟩
  · obtain ⟨m, hn⟩ := R.ns; exact ⟨m, q4.ns hn⟩
  · obtain ⟨u, i, hd, ⟨hl, m, hn, hm⟩ | ⟨c, hk, hc, hv⟩⟩ := R.vs x d e
    · exact ⟨u, i, hd, .inl ⟨hl, m, q4.ns hn, hm⟩⟩
    · exact ⟨u, i, hd, .inr ⟨c, hk, hc, kcell hv⟩⟩
  · obtain ⟨⟨v, hv⟩, r⟩ := R.cell x c e; exact ⟨⟨v, kcell hv⟩, r⟩
  · obtain ⟨vs, n, e1, r⟩ := R.mus a l e
    exact ⟨vs, n, keep e1 (fun es ep z => nomatch (show Data.seq vs n = Data.dict es ep from z)), r⟩

theorem ex_tryX {x : Str} {C : Addr} {np hpos pos : Pos} {body suite : List Stmt} {b0 : Stmt} {K' K2 : Out → Prop} {outer} (O : W.Ok) (X : OwnX W x C) (F : FrX A hid env outer) (N : GName W env x (.ref C))
    (hb : Exs W A hid env vars mu body K') (h1 : ∀ o, K' o → (∀ y v m, o ≠ .exc y v m) → K o) (h2 : ∀ y v m, K' (.exc y v m) → y = .ref C ∧ ∀ a, Exs W (A.mark (some (.ref a))) hid env v m (b0 :: suite) K2)
    (h3 : ∀ o, K2 o → K o) (h4 : ∀ y v m, ¬ K2 (.exc y v m)) :
    Ex1 W A hid env vars mu (.Try body [.ExceptHandler (some (.Name x np)) none (b0 :: suite) hpos] [] [] pos) K := fun g h t R => by
  refine wpAny_Try_except (wpAny_mono (hb g h t R) (fun f s y => ?_) fun e s y => ?_)
  · cases f with
    | next => obtain ⟨v, m, g', h', t', rfl, q, l, R'⟩ := y; exact wpAny_execs_nil ⟨v, m, g', h', t', rfl, h1 _ q (fun z_ z_ z_ z => nomatch z), l, R'⟩
    | brk => obtain ⟨v, m, g', h', t', rfl, q, l, R'⟩ := y; exact ⟨v, m, g', h', t', rfl, h1 _ q (fun z_ z_ z_ z => nomatch z), l, R'⟩
    | cont => obtain ⟨v, m, g', h', t', rfl, q, l, R'⟩ := y; exact ⟨v, m, g', h', t', rfl, h1 _ q (fun z_ z_ z_ z => nomatch z), l, R'⟩
    | ret u => obtain ⟨d, g', h', t', rfl, q, l, R'⟩ := y; exact ⟨d, g', h', t', rfl, h1 _ q (fun z_ z_ z_ z => nomatch z), l, R'⟩
  · obtain ⟨y, v, m, g₁, h₁, a, l, h', t', rfl, rfl, q, lg, R1, efr, XF⟩ := y
    rw [F.frames] at efr
    cases efr
    obtain ⟨rfl, hsuite⟩ := h2 y v m q
    have FO := R1.frOk F
    refine note_x F.frames FO F.loc XF fun h2' B a0 p1 p2 p3 p4 => ?_
    refine wpAny_landsW (s := W.S h2' t') p1 fun h3' f1 s1 => ?_
    have R3 := R1.after (h' := h3') f1.1 p2 p3 (p4.trans s1)
    refine handleBy_own (C := C) (x := x) (bmB := excBm) (newId := "Exception.__new__") (mg := W.mg) (by decide) ?_
    refine name_global (A := A.mark (some (.ref a))) O N R3 ⟨rfl, X.own.keeps R3.base, f1.there, ?_⟩
    obtain ⟨k1, k2, k3, k4⟩ := f1
    refine wpAny_setFlight_noneW (s := W.S h3' t') k1 k3 k4.at fun h4' j1 j2 j3 j4 => ?_
    have R4 := R1.after (h' := h4') j1 p2 p3 ((p4.trans s1).trans fun b o hb hn => ⟨o.slots, j4 b o hb hn⟩)
    refine wpAny_mono (hsuite a g₁ h4' t' R4) (fun f s z => ?_) fun e s z => ?_
    · cases f with
      | next => obtain ⟨v, m, g', h', t', rfl, q, l, R'⟩ := z; exact ⟨v, m, g', h', t', rfl, h3 _ q, lg.trans l, R'⟩
      | brk => obtain ⟨v, m, g', h', t', rfl, q, l, R'⟩ := z; exact ⟨v, m, g', h', t', rfl, h3 _ q, lg.trans l, R'⟩
      | cont => obtain ⟨v, m, g', h', t', rfl, q, l, R'⟩ := z; exact ⟨v, m, g', h', t', rfl, h3 _ q, lg.trans l, R'⟩
      | ret u => obtain ⟨d, g', h', t', rfl, q, l, R'⟩ := z; exact ⟨d, g', h', t', rfl, h3 _ q, lg.trans l, R'⟩
    · obtain ⟨y, v, m, _, _, _, _, _, _, _, _, q, _⟩ := z
      exact absurd q (h4 y v m)
end
end Mine
end

section
set_option tactic.hygienic false
open PySem PySem.W PyProof.Rows PySem.Calls PySem.SeqAt
set_option linter.unusedVariables false
set_option maxRecDepth 100000
namespace Mine

inductive Dat (mu : Mu) : PV → PyData → Prop where
  | none : Dat mu .none .none
  | bool {b} : Dat mu (.bool b) (.bool b)
  | int {i} : Dat mu (.int i) (.int i)
  | str {x} : PyData.strOk x = true → Dat mu (.str x) (.str x)
  | nums {d : PV} {ns : List Int} : AsList mu d (ns.map .int) → Dat mu d (.list (ns.map .int))
theorem Dat.shaped {mu d x} (h : Dat mu d x) : shaped x = true := by
  cases h with
  | none => decide
  | bool => rfl
  | int => rfl
  | @str x h =>
    show ((PyData.canLay0 (.str x)) && _) = true
    have : PyData.canLay0 (.str x) = PyData.strOk x := by simp only [PyData.canLay0]
    rw [this, h]; rfl
  | nums h => exact shaped_ints _

section
variable {W : Wk} {A : Around} {hid : PMap} {env : Env} {vars : Vars} {mu : Mu} {K K' : Out → Prop}

theorem Dat.reads {g h d x u} (D : Dat mu d x) (R : Rep W hid g env vars mu h) (i : Is g d u) : ∃ as, Reads h u x as := by
  cases D with
  | none => cases i; exact ⟨_, .none⟩
  | bool => cases i; exact ⟨_, .bool _⟩
  | int => cases i; exact ⟨_, .int _ _⟩
  | str _ => cases i; exact ⟨_, .str _ _⟩
  | nums hl =>
    obtain ⟨a, vs, rfl, q1, q2⟩ := hl.get R i
    exact ⟨_, reads_of_ints (vs := vs.toList) (by simpa using q1) q2.toInts⟩
theorem eqv_ints (ns ms : List Int) : PyData.eqv (.list (ns.map .int)) (.list (ms.map .int)) = decide (ns = ms) := by
  rw [← same_eq_eqv _ _ (by simp only [noMix]; exact noMix_ints ns ms)]
  simp only [PySem.Spec.same]; rw [same_ints]

theorem c_eqd {n a b da db} (ao : AOk W A n) (ha : Dat mu a da) (hb : Dat mu b db) : Op W A hid env vars mu [a, b] (fun us => compareOp .Eq (us.getD 0 .none) (us.getD 1 .none)) (.bool (PyData.eqv da db)) :=
  op2 fun g h t u v Q E R i j k => by
    obtain ⟨as, ra⟩ := ha.reads R i
    obtain ⟨bs, rb⟩ := hb.reads R j
    exact eq_dataH (s := W.S h t) ra rb ha.shaped hb.shaped (by have := ao.units; show A.units + 64 < 9900; (first | lia | omega)) (k _ g h t (Le.refl g) R .bool)
theorem c_ned {n a b da db} (ao : AOk W A n) (ha : Dat mu a da) (hb : Dat mu b db) : Op W A hid env vars mu [a, b] (fun us => compareOp .NotEq (us.getD 0 .none) (us.getD 1 .none)) (.bool (!PyData.eqv da db)) :=
  op2 fun g h t u v Q E R i j k => by
    obtain ⟨as, ra⟩ := ha.reads R i
    obtain ⟨bs, rb⟩ := hb.reads R j
    exact ne_dataH (s := W.S h t) ra rb ha.shaped hb.shaped (by have := ao.units; show A.units + 64 < 9900; (first | lia | omega)) (k _ g h t (Le.refl g) R .bool)
theorem c_nel {n d e} {ns ms : List Int} (ao : AOk W A n) (hl : AsList mu d (ns.map .int)) (hm : AsList mu e (ms.map .int)) : Op W A hid env vars mu [d, e] (fun us => compareOp .NotEq (us.getD 0 .none) (us.getD 1 .none)) (.bool (!decide (ns = ms))) := by
  have := c_ned (A := A) (W := W) (hid := hid) (env := env) (vars := vars) ao (.nums hl) (.nums hm)
  rw [eqv_ints] at this
  exact this
end
end Mine
end

section
set_option tactic.hygienic false
open PySem PySem.W PyProof.Rows PySem.Calls PySem.SeqAt
set_option linter.unusedVariables false
set_option maxRecDepth 100000
namespace Mine
section
variable {W : Wk} {A : Around} {hid : PMap} {env : Env} {vars : Vars} {mu : Mu} {K K' : Out → Prop}

theorem tr_eq {e : Expr} {b c : Bool} (h : c = b) (x : Tr W A hid env vars mu e c) : Tr W A hid env vars mu e b := by rw [← h]; exact x
theorem ev_eq {e : Expr} {b c : PV} (h : c = b) (x : Ev W A hid env vars mu e c) : Ev W A hid env vars mu e b := by rw [← h]; exact x
theorem evnew_or {a b : Expr} {pos : Pos} {da db : List PV} (hl : da.length < 2 ^ 62) (ha : EvNew W A hid env vars mu a da) (hb : da = [] → EvNew W A hid env vars mu b db) (he : da ≠ [] → db = da) : EvNew W A hid env vars mu (.BoolOp .Or [a, b] pos) db := fun g h t Q E R k => by
  show wpAny _ _ (boolOp pos .Or [eval a env, eval b env]) _ _ _
  unfold boolOp
  refine wpAny_bind (ha g h t _ E R fun D g1 h1 t1 l1 R1 N => ?_)
  obtain ⟨L, vs, n, e, i⟩ := N
  have hs : vs.size < 2 ^ 62 := by have := i.length; simp at this; (first | lia | omega)
  refine wpAny_bind (wpAny_standAt (wpAny_bind (wpAny_holding (truthy_list (vs := vs) ⟨_, e, rfl, n, rfl⟩ i hs fun t' => ?_))))
  cases da with
  | nil =>
    show wpAny _ _ (boolOp pos .Or [eval b env]) _ _ _
    exact hb rfl g1 h1 t' Q E R1 fun D2 g2 h2 t2 l2 R2 N2 => k D2 g2 h2 t2 (l1.trans l2) R2 N2
  | cons d r =>
    have := he (by simp)
    subst this
    exact wpAny_pure (k D g1 h1 t' l1 R1 ⟨L, vs, n, e, i⟩)

theorem run_seal {t : Sem Flow} {x : Str} {a : Addr} {l : List PV} {v' : Vars} {m' : Mu} (hm : (a, l) ∈ mu) (hx : vars.lookup x = some (.loc a)) (hs : Sub v' vars) (hmu : m'.Sublist (mu.filter (·.1 != a))) (h : Run W A hid env ((x, .list l) :: v') m' t K) : Run W A hid env vars mu t K := fun g hp tk R => by
  obtain ⟨o, R2, l2, i2⟩ := R.freezeLoc hm
  obtain ⟨u, iu, hd, hv⟩ := R.vs x _ hx
  cases iu
  have R3 : Rep W hid (ins g a o) env ((x, .list l) :: v') m' hp := by
    have R4 := R2.forget hs hmu
    refine ⟨R4.bs, R4.gs, R4.hs, R4.gh, R4.ns, fun y e q => ?_, R4.gL, R4.hL, R4.cell, R4.cnd, R4.mus, R4.mnd⟩
    by_cases hy : y = x
    · subst hy
      rw [lookup_cons_eq] at q
      cases q
      exact ⟨_, i2, hd, hv⟩
    · rw [lookup_cons_ne hy] at q
      exact R4.vs y e q
  exact wpAny_mono (h _ hp tk R3) (fun f s y => y.le l2) fun e s y => y.le l2

theorem EvG.ev {e : Expr} {d : PV} {Kd : PV → Prop} {X : Value → Prop} (h : EvG W A hid env vars mu e Kd X) (hK : ∀ d', Kd d' → d' = d) (hX : ∀ x, ¬ X x) : Ev W A hid env vars mu e d := fun g hp t Q E R k =>
  h g hp t Q E R (fun d' u g' h' t' hd => by have := hK d' hd; subst this; exact k u g' h' t') fun e s y => by
    obtain ⟨_, _, _, _, _, _, _, _, _, _, _, ⟨x, hx, _⟩, _⟩ := y; exact absurd hx (hX x)

end
end Mine
end

section
set_option tactic.hygienic false
open PySem PySem.W PyProof.Rows PySem.Calls PySem.SeqAt
set_option linter.unusedVariables false
set_option maxRecDepth 100000
namespace Mine
section
variable {W : Wk} {A : Around} {hid : PMap} {env : Env} {vars : Vars} {mu : Mu} {K : Out → Prop}

theorem ev_cmp2 {l r1 r2 : Expr} {op1 op2 : CmpOp} {pos : Pos} {a b c : PV} {x y : Bool} (ha : Ev W A hid env vars mu l a) (hb : Ev W A hid env vars mu r1 b) (hm : lastMarks [op1, op2] [r1, r2] = false)
    (o1 : Op W A hid env vars mu [a, b] (fun us => compareOp op1 (us.getD 0 .none) (us.getD 1 .none)) (.bool x)) (hc : x = true → Ev W A hid env vars mu r2 c)
    (o2 : x = true → Op W A hid env vars mu [b, c] (fun us => compareOp op2 (us.getD 0 .none) (us.getD 1 .none)) (.bool y)) : Ev W A hid env vars mu (.Compare l [op1, op2] [r1, r2] pos) (.bool (x && y)) := fun g h t Q E R k =>
  Compare_chain (ha g h t _ E R fun u g1 h1 t1 l1 R1 i1 => chain_link (hb g1 h1 t1 _ E R1 fun v g2 h2 t2 l2 R2 i2 => o1 g2 h2 t2 [u, v] _ E R2 (.cons (i1.mono l2) (.cons i2 .nil)) fun z g3 h3 t3 l3 R3 i3 => by
    cases i3
    refine wpAny_truthy_bool ?_
    have l03 := (l1.trans l2).trans l3
    cases x
    · exact k _ g3 h3 t3 l03 R3 .bool
    · exact chain_last (hc rfl g3 h3 t3 _ E R3 fun w g4 h4 t4 l4 R4 i4 => o2 rfl g4 h4 t4 [v, w] _ E R4 (.cons (i2.mono (l3.trans l4)) (.cons i4 .nil)) fun q g5 h5 t5 l5 R5 i5 => k _ g5 h5 t5 ((l03.trans l4).trans l5) R5 i5))) hm
end
end Mine
end

section
set_option tactic.hygienic false
open PySem PySem.W PyProof.Rows PySem.Calls PySem.SeqAt
set_option linter.unusedVariables false
set_option maxRecDepth 100000
namespace Mine
section
variable {W : Wk} {A : Around} {hid : PMap} {env : Env} {vars : Vars} {mu : Mu} {K K' : Out → Prop}

end
end Mine
end

section
set_option tactic.hygienic false
open PySem PySem.W PyProof.Rows PySem.Calls PySem.SeqAt
set_option linter.unusedVariables false
set_option maxRecDepth 100000
namespace Mine
section
variable {W : Wk} {A : Around} {hid : PMap} {env : Env} {vars : Vars} {mu : Mu} {K K' : Out → Prop}

end
end Mine
end

section
set_option tactic.hygienic false
open PySem PySem.W PyProof.Rows PySem.Calls PySem.SeqAt
set_option linter.unusedVariables false
set_option maxRecDepth 100000
namespace Mine
section
variable {W : Wk} {A : Around} {hid : PMap} {env : Env} {vars : Vars} {mu : Mu} {K K' : Out → Prop}

open Classical in
noncomputable def unmk {α β : Type} (mk : α → PV) (f : α → β) (z : β) (v : PV) : β := if h : ∃ a, mk a = v then f h.choose else z
theorem unmk_eq {α β : Type} {mk : α → PV} (inj : ∀ a b, mk a = mk b → a = b) {f : α → β} {z : β} (a : α) : unmk mk f z (mk a) = f a := by
  unfold unmk
  have h : ∃ b, mk b = mk a := ⟨a, rfl⟩
  rw [dif_pos h]
  exact congrArg f (inj _ _ h.choose_spec)

structure CompM (W : Wk) (A : Around) (hid : PMap) (env : Env) (vars : Vars) (mu : Mu) (elt target iter : Expr) (ifs : List Expr) (scope : Scope) {α : Type} (mk : α → PV) (xs : List α) (p : α → Bool) (f : α → PV) (d : PV) (vars' : Vars) (tv : α → Vars) : Prop where
  inj : ∀ a b, mk a = mk b → a = b
  hh : A.handled = none
  hk : env.scope.kind = .function
  it : Ev W A hid env vars mu iter d
  src : Src mu d (xs.map mk)
  blk : BlockOk scope env
  over : Over scope env vars' vars
  fold : ∀ x, foldedSetIterable iter env x = pure x
  lo : LoOk mu target d (xs.map mk)
  len : xs.length ≤ 100000
  tgt : ∀ hid' C a, a ∈ xs → OwnFree hid' scope C env → Tgt W A hid' (cEnv scope C env) vars' mu target (mk a) (tv a)
  test : ∀ hid' C a, a ∈ xs → Tests W A hid' (cEnv scope C env) (tv a) mu ifs (p a)
  elt : ∀ hid' C a, a ∈ xs → p a = true → Ev W A hid' (cEnv scope C env) (tv a) mu elt (f a)
  sub : ∀ a, a ∈ xs → Sub vars' (tv a)

theorem CompM.ok {elt target iter : Expr} {ifs : List Expr} {scope : Scope} {α : Type} {mk : α → PV} {xs : List α} {p : α → Bool} {f : α → PV} {d vars' tv} (c : CompM W A hid env vars mu elt target iter ifs scope mk xs p f d vars' tv) :
    CompOk W A hid env vars mu elt target iter ifs scope (xs.map mk) (unmk mk p false) (unmk mk f .none) ∧ (((xs.map mk).filter (unmk mk p false)).map (unmk mk f .none)) = (xs.filter p).map f := by
  have e : ∀ {β : Type} {g : α → β} {z : β} (a : α), unmk mk g z (mk a) = g a := fun a => unmk_eq c.inj a
  refine ⟨⟨⟨d, vars', unmk mk tv [], c.it, c.src, c.blk, c.over, c.fold, c.lo, by rw [List.length_map]; exact c.len, fun hid' C v hv o => ?_, fun hid' C v hv => ?_, fun hid' C v hv hp => ?_, fun v hv => ?_⟩, c.hh, c.hk⟩, ?_⟩
  · obtain ⟨a, ha, rfl⟩ := List.mem_map.mp hv; rw [e]; exact c.tgt hid' C a ha o
  · obtain ⟨a, ha, rfl⟩ := List.mem_map.mp hv; rw [e, e]; exact c.test hid' C a ha
  · obtain ⟨a, ha, rfl⟩ := List.mem_map.mp hv; rw [e] at hp; rw [e, e]; exact c.elt hid' C a ha hp
  · obtain ⟨a, ha, rfl⟩ := List.mem_map.mp hv; rw [e]; exact c.sub a ha
  · rw [List.filter_map, List.map_map]
    have h1 : (unmk mk p false ∘ mk) = p := funext fun a => e a
    have h2 : (unmk mk f PV.none ∘ mk) = f := funext fun a => e a
    rw [h1, h2]
theorem evnew_compM {elt target iter : Expr} {ifs : List Expr} {scope : Scope} {pos : Pos} {α : Type} {mk : α → PV} {xs : List α} {p : α → Bool} {f : α → PV} {d vars' tv} (c : CompM W A hid env vars mu elt target iter ifs scope mk xs p f d vars' tv) :
    EvNew W A hid env vars mu (.ListComp elt [⟨target, iter, ifs, 0⟩] scope pos) ((xs.filter p).map f) := by
  have := evnew_comp (pos := pos) c.ok.1
  rw [c.ok.2] at this; exact this
theorem ex_compM {x : Str} {px spos : Pos} {elt target iter : Expr} {ifs : List Expr} {scope : Scope} {pos : Pos} {α : Type} {mk : α → PV} {xs : List α} {p : α → Bool} {f : α → PV} {d vars' tv} (c : CompM W A hid env vars mu elt target iter ifs scope mk xs p f d vars' tv)
    (hsw : swapsWith (.ListComp elt [⟨target, iter, ifs, 0⟩] scope pos) (some (.Name x px)) spos.line env = pure true) (hl : env.kindOf x = some .local) (hd : (x == ("__debug__" : Str)) = false) :
    Ex1 W A hid env vars mu (.Assign [.Name x px] (.ListComp elt [⟨target, iter, ifs, 0⟩] scope pos) spos) (· = .next ((x, .list ((xs.filter p).map f)) :: vars) mu) := by
  have := ex_comp c.ok.1 hsw hl hd
  rw [c.ok.2] at this; exact this

theorem src_rng {n : Nat} (h : n < 2 ^ 61) : Src mu (.rng 0 n) ((List.range n).map fun (i : Nat) => PV.int (i : Int)) := by
  have e : rngL 0 (n : Int) = (List.range n).map fun (i : Nat) => PV.int (i : Int) := by
    unfold rngL
    have : ((n : Int) - 0).toNat = n := by (first | (simp; done) | lia | omega)
    rw [this]
    simp
  rw [← e]
  exact .rng (by (first | exact Int.natCast_nonneg _ | lia | omega)) (by (first | exact Int.natCast_nonneg _ | lia | omega)) (by (first | exact Int.natCast_nonneg _ | lia | omega)) (by (first | lia | omega))
theorem inj_nat : ∀ a b : Nat, PV.int (a : Int) = PV.int (b : Int) → a = b := fun a b h => by injection h with h; (first | lia | omega)
theorem inj_int : ∀ a b : Int, PV.int a = PV.int b → a = b := fun a b h => by injection h

theorem evnew_comp2M {elt target iter t1 i1 : Expr} {scope : Scope} {pos : Pos} {α β : Type} {mk : α → PV} {mk1 : β → PV} {xs : List α} {ys : α → List β} {f : α → β → PV} {d : PV} {d1 : α → PV} {vars' : Vars} {tv : α → Vars} {tv1 : α → β → Vars} {N : Nat}
    (inj : ∀ a b, mk a = mk b → a = b) (inj1 : ∀ a b, mk1 a = mk1 b → a = b) (hh : A.handled = none) (hk : env.scope.kind = .function) (it : Ev W A hid env vars mu iter d) (src : Src mu d (xs.map mk)) (blk : BlockOk scope env) (over : Over scope env vars' vars)
    (fold : ∀ x, foldedSetIterable iter env x = pure x) (lo : ∀ v it, letOwnedTupleGo target it v = pure ()) (hlen : xs.length * N ≤ 100000) (hnc : ∀ x, scope.names.lookup x ≠ some .cell) (lo1 : ∀ v it, letOwnedTupleGo t1 it v = pure ())
    (hlen1 : ∀ a, a ∈ xs → (ys a).length ≤ N) (fold1 : ∀ C x, foldedSetIterable i1 (cEnv scope C env) x = pure x) (src1 : ∀ a, a ∈ xs → Src mu (d1 a) ((ys a).map mk1))
    (tgt : ∀ hid' C a, a ∈ xs → Tgt W A hid' (cEnv scope C env) vars' mu target (mk a) (tv a)) (it1 : ∀ hid' C a, a ∈ xs → Ev W A hid' (cEnv scope C env) (tv a) mu i1 (d1 a))
    (tgt1 : ∀ hid' C a b, a ∈ xs → b ∈ ys a → Tgt W A hid' (cEnv scope C env) (tv a) mu t1 (mk1 b) (tv1 a b)) (helt : ∀ hid' C a b, a ∈ xs → b ∈ ys a → Ev W A hid' (cEnv scope C env) (tv1 a b) mu elt (f a b))
    (sub1 : ∀ a b, a ∈ xs → b ∈ ys a → Sub (tv a) (tv1 a b)) (sub : ∀ a, a ∈ xs → Sub vars' (tv a)) :
    EvNew W A hid env vars mu (.ListComp elt [⟨target, iter, [], 0⟩, ⟨t1, i1, [], 0⟩] scope pos) (xs.flatMap fun a => (ys a).map (f a)) := by
  have e : ∀ {γ : Type} {g : α → γ} {z : γ} (a : α), unmk mk g z (mk a) = g a := fun a => unmk_eq inj a
  have e1 : ∀ {γ : Type} {g : β → γ} {z : γ} (a : β), unmk mk1 g z (mk1 a) = g a := fun a => unmk_eq inj1 a
  have := evnew_comp2 (W := W) (A := A) (hid := hid) (env := env) (vars := vars) (mu := mu) (elt := elt) (target := target) (iter := iter) (ifs := []) (t1 := t1) (i1 := i1) (ifs1 := []) (scope := scope) (pos := pos) (its := xs.map mk) (p := fun z_ => true)
    (its1 := unmk mk (fun a => (ys a).map mk1) []) (p1 := fun z_ z_ => true) (f := unmk mk (fun a => unmk mk1 (f a) .none) (fun z_ => .none)) (vars' := vars') (tv := unmk mk tv []) (d1 := unmk mk d1 .none) (tv1 := unmk mk (fun a => unmk mk1 (tv1 a) []) (fun z_ => [])) (N := N) hh hk it src blk over fold lo (by rw [List.length_map]; exact hlen) hnc lo1 (fun v hv => ?_) fold1 (fun v hv => ?_) (fun hid' C v hv => ?_) (fun hid' C v hv => tests_nil) (fun hid' C v hv z_ => ?_) (fun hid' C v w hv hw => ?_) (fun hid' C v w hv hw => tests_nil) (fun hid' C v w hv hw z_ => ?_) (fun v w hv hw => ?_) (fun v hv => ?_)
  · have key : (((xs.map mk).filter fun z_ => true).flatMap fun a => ((unmk mk (fun a => (ys a).map mk1) [] a).filter fun z_ => true).map (unmk mk (fun a => unmk mk1 (f a) PV.none) (fun z_ => PV.none) a)) = xs.flatMap fun a => (ys a).map (f a) := by
      simp only [PySem.W.filter_tt, List.flatMap_map]
      congr 1
      funext a
      rw [e, e, List.map_map]
      congr 1
      funext b
      exact e1 b
    rw [key] at this; exact this
  · obtain ⟨a, ha, rfl⟩ := List.mem_map.mp hv; rw [e, List.length_map]; exact hlen1 a ha
  · obtain ⟨a, ha, rfl⟩ := List.mem_map.mp hv; rw [e, e]; exact src1 a ha
  · obtain ⟨a, ha, rfl⟩ := List.mem_map.mp hv; rw [e]; exact tgt hid' C a ha
  · obtain ⟨a, ha, rfl⟩ := List.mem_map.mp hv; rw [e, e]; exact it1 hid' C a ha
  · obtain ⟨a, ha, rfl⟩ := List.mem_map.mp hv; rw [e] at hw; obtain ⟨b, hb, rfl⟩ := List.mem_map.mp hw; rw [e, e, e1]; exact tgt1 hid' C a b ha hb
  · obtain ⟨a, ha, rfl⟩ := List.mem_map.mp hv; rw [e] at hw; obtain ⟨b, hb, rfl⟩ := List.mem_map.mp hw; rw [e, e1, e, e1]; exact helt hid' C a b ha hb
  · obtain ⟨a, ha, rfl⟩ := List.mem_map.mp hv; rw [e] at hw; obtain ⟨b, hb, rfl⟩ := List.mem_map.mp hw; rw [e, e, e1]; exact sub1 a b ha hb
  · obtain ⟨a, ha, rfl⟩ := List.mem_map.mp hv; rw [e]; exact sub a ha
end
end Mine
end

local macro_rules | `(tactic| walk_at "ev") => `(tactic| first
  | exact Mine.ev_int | exact Mine.ev_bool | exact Mine.ev_none | exact Mine.ev_str
  | exact Mine.ev_name rfl rfl
  | (refine Mine.ev_add ?_ ?_ <;> walk_at "ev")
  | (refine Mine.ev_sub ?_ ?_ <;> walk_at "ev")
  | (refine Mine.ev_neg ?_ <;> walk_at "ev"))
local macro_rules | `(tactic| walk_at "args") => `(tactic| first
  | exact Mine.evargs_nil
  | (refine Mine.evargs_cons ?_ ?_ rfl; (walk_at "ev"); (walk_at "args")))
local macro_rules | `(tactic| walk_at "sub") => `(tactic| repeat (first | exact Mine.Sub.nil | refine Mine.Sub.cons rfl ?_))
local macro_rules | `(tactic| walk_at "over") => `(tactic| repeat (first | exact Mine.Over.nil | refine Mine.Over.cons rfl rfl rfl ?_))

section
set_option tactic.hygienic false
open PySem PySem.W PyProof.Rows PySem.Calls PySem.SeqAt
set_option linter.unusedVariables false
set_option maxRecDepth 100000
namespace Mine

noncomputable def fnOf? : List Stmt → Str → Option (Arguments × List Stmt × Scope)
  | [], _ => none
  | .FunctionDef name args body _ _ _ scope _ _ _ :: r, n => if name == n then some (args, body, scope) else fnOf? r n
  | _ :: r, n => fnOf? r n
noncomputable def argsOf (p : Program) (n : Str) : Arguments := ((fnOf? p.main.body n).map (·.1)).getD { posonlyargs := [], args := [], vararg := none, kwonlyargs := [], kw_defaults := [], kwarg := none, defaults := [] }
noncomputable def bodyOf (p : Program) (n : Str) : List Stmt := ((fnOf? p.main.body n).map (·.2.1)).getD []
noncomputable def scopeOf (p : Program) (n : Str) : Scope := ((fnOf? p.main.body n).map (·.2.2)).getD { kind := .function, names := [], isGenerator := false, isCoroutine := false, more := [] }

noncomputable def DefAt (W : Wk) (p : Program) (n : Str) (a : Addr) (dV : Value) : Prop :=
  W.mg n = some (.ref a) ∧ ∃ kV doc pm an cdv ct, FnAt W a (fnOf n n (argsOf p n) (bodyOf p n) (scopeOf p n) dV kV doc pm an cdv ct) (bodyOf p n)

noncomputable abbrev p1 : Program := PySem.Challenge.pw_af0002_03

set_option genSizeOfSpec false in
inductive Rule where
  | jeff | web | modi | hill | adams | dean
  deriving DecidableEq

noncomputable def ruleNames : Rule → List Str
  | .jeff => ["dhondt", "jefferson", "greatestdivisors"]
  | .web => ["saintelague", "webster", "majorfractions"]
  | .modi => ["modified_saintelague"]
  | .hill => ["huntington", "hill", "equalproportions"]
  | .adams => ["adams", "smallestdivisor"]
  | .dean => ["dean", "harmonicmean"]
noncomputable def RuleName (r : Rule) (x : Str) : Prop := ∀ q : Rule, (ruleNames q).any (· == x) = decide (q = r)

noncomputable def divs : Rule → Nat → List (Int × Int)
  | .jeff, S => (List.range S).map fun (i : Nat) => ((i : Int) + 1, 1)
  | .web, S => (List.range S).map fun (i : Nat) => (2 * (i : Int) + 1, 1)
  | .modi, S => (7, 5) :: (List.range (S - 1)).map fun (i : Nat) => (2 * (1 + (i : Int)) + 1, 1)
  | .hill, S => (List.range S).map fun (i : Nat) => (((i : Int) + 1) * ((i : Int) + 2), 1)
  | .adams, S => (List.range S).map fun (i : Nat) => ((i : Int) + 1, 1)
  | .dean, S => (List.range S).map fun (i : Nat) => (2 * ((i : Int) + 1) * ((i : Int) + 2), 2 * ((i : Int) + 1) + 1)
noncomputable def base : Rule → List Int → List Int
  | .jeff, v => v.map fun z_ => 0
  | .web, v => v.map fun z_ => 0
  | .modi, v => v.map fun z_ => 0
  | _, v => v.map fun p => if p > 0 then 1 else 0
noncomputable def common (ds : List (Int × Int)) : Int := ds.foldl (fun c d => c * d.1) 1
noncomputable def isHill : Rule → Bool
  | .hill => true
  | _ => false
noncomputable def wt (r : Rule) (c : Int) (p : Int) (d : Int × Int) : Int := if isHill r then (p * p * d.2 * c).fdiv d.1 else (p * d.2 * c).fdiv d.1
noncomputable def pairV (d : Int × Int) : PV := .tup [.int d.1, .int d.2]

section
variable {W : Wk} {A : Around} {hid : PMap} {env : Env} {vars : Vars} {mu : Mu} {K : Out → Prop}


theorem ev_in {l r : Expr} {pos : Pos} {x : Str} {ns : List Str} {d} (hl : Ev W A hid env vars mu l (.str x)) (hr : Ev W A hid env vars mu r d) (hd : AsList mu d (ns.map .str)) (hm : behindInMarks .In r = false) : Tr W A hid env vars mu (.Compare l [.In] [r] pos) (ns.any (· == x)) :=
  tr_cmp hl hr hm (c_ins hd)

noncomputable abbrev dEnv (p : Program) (a L : Addr) (dV kV doc pm : Value) (an : Option Addr) (cdv ct : Value) : Env := fEnv (fnOf "divisor" "divisor" (argsOf p "divisor") (bodyOf p "divisor") (scopeOf p "divisor") dV kV doc pm an cdv ct) a L
noncomputable abbrev dV2 (votes : List Int) (S : Nat) (nm : Str) (ta : Bool) (D : Addr) (ds : List (Int × Int)) : Vars := [("representatives", .loc D), ("divisors", .list (ds.map pairV)), ("votes", .list (votes.map .int)), ("seats", .int S), ("method", .str nm), ("tiesallowed", .bool ta)]


theorem filter_tt' {α : Type} (l : List α) : l.filter (fun z_ => true) = l := by simp
structure CompA (W : Wk) (A : Around) (hid : PMap) (env : Env) (vars : Vars) (mu : Mu) (elt target iter : Expr) (scope : Scope) {α : Type} (mk : α → PV) (xs : List α) (f : α → PV) (d : PV) (vars' : Vars) (tv : α → Vars) : Prop where
  inj : ∀ a b, mk a = mk b → a = b
  hh : A.handled = none
  hk : env.scope.kind = .function
  it : Ev W A hid env vars mu iter d
  src : Src mu d (xs.map mk)
  blk : BlockOk scope env
  over : Over scope env vars' vars
  fold : ∀ x, foldedSetIterable iter env x = pure x
  lo : LoOk mu target d (xs.map mk)
  len : xs.length ≤ 100000
  tgt : ∀ hid' C a, a ∈ xs → OwnFree hid' scope C env → Tgt W A hid' (cEnv scope C env) vars' mu target (mk a) (tv a)
  elt : ∀ hid' C a, a ∈ xs → Ev W A hid' (cEnv scope C env) (tv a) mu elt (f a)
  sub : ∀ a, a ∈ xs → Sub vars' (tv a)
theorem CompA.m {elt target iter : Expr} {scope : Scope} {α : Type} {mk : α → PV} {xs : List α} {f : α → PV} {d vars' tv} (c : CompA W A hid env vars mu elt target iter scope mk xs f d vars' tv) :
    CompM W A hid env vars mu elt target iter [] scope mk xs (fun z_ => true) f d vars' tv :=
  ⟨c.inj, c.hh, c.hk, c.it, c.src, c.blk, c.over, c.fold, c.lo, c.len, c.tgt, fun z_ z_ z_ z_ => tests_nil, fun hid' C a h z_ => c.elt hid' C a h, c.sub⟩
theorem evnew_compA {elt target iter : Expr} {scope : Scope} {pos : Pos} {α : Type} {mk : α → PV} {xs : List α} {f : α → PV} {d vars' tv} (c : CompA W A hid env vars mu elt target iter scope mk xs f d vars' tv) :
    EvNew W A hid env vars mu (.ListComp elt [⟨target, iter, [], 0⟩] scope pos) (xs.map f) := by
  have := evnew_compM (pos := pos) c.m
  rw [filter_tt'] at this; exact this
theorem ex_compA {x : Str} {px spos : Pos} {elt target iter : Expr} {scope : Scope} {pos : Pos} {α : Type} {mk : α → PV} {xs : List α} {f : α → PV} {d vars' tv} (c : CompA W A hid env vars mu elt target iter scope mk xs f d vars' tv)
    (hsw : swapsWith (.ListComp elt [⟨target, iter, [], 0⟩] scope pos) (some (.Name x px)) spos.line env = pure true) (hl : env.kindOf x = some .local) (hd : (x == ("__debug__" : Str)) = false) :
    Ex1 W A hid env vars mu (.Assign [.Name x px] (.ListComp elt [⟨target, iter, [], 0⟩] scope pos) spos) (· = .next ((x, .list (xs.map f)) :: vars) mu) := by
  have := ex_compM c.m hsw hl hd
  rw [filter_tt'] at this; exact this
theorem exs_own {st : Stmt} {rest : List Stmt} {x : Str} {ds : List PV} (h : Ex1 W A hid env vars mu st (fun o => ∃ D, o = .next ((x, .loc D) :: vars) ((D, ds) :: mu))) (k : ∀ D, Exs W A hid env ((x, .loc D) :: vars) ((D, ds) :: mu) rest K) : Exs W A hid env vars mu (st :: rest) K :=
  exs_cons h (fun v m e => by obtain ⟨D, e⟩ := e; cases e; exact k D) fun o e hn => by obtain ⟨D, e⟩ := e; subst e; exact absurd rfl (hn _ _)

theorem mulOk20 {a b : Int} (ha : a.natAbs < 2 ^ 20) (hb : b.natAbs < 2 ^ 20) : IntMulOk a b := mulOk ha hb (by decide)

theorem ev_tup2 {e1 e2 : Expr} {n pos} {d1 d2} (h1 : Ev W A hid env vars mu e1 d1) (h2 : Ev W A hid env vars mu e2 d2) (hs : starEach [e1, e2] env = [(false, eval e1 env), (false, eval e2 env)]) (hs2 : starEach [e2] env = [(false, eval e2 env)]) : Ev W A hid env vars mu (.Tuple [e1, e2] n pos) (.tup [d1, d2]) :=
  ev_tuple (evargs_cons h1 (args1 h2 hs2) (by rw [hs, hs2])) (Nat.le_of_ble_eq_true rfl)
theorem src_rng1 {n : Nat} (h : n < 2 ^ 61) : Src mu (.rng 1 n) ((List.range (n - 1)).map fun (i : Nat) => PV.int (1 + (i : Int))) := by
  have e : rngL 1 (n : Int) = (List.range (n - 1)).map fun (i : Nat) => PV.int (1 + (i : Int)) := by
    unfold rngL
    have : ((n : Int) - 1).toNat = n - 1 := by (first | (simp; done) | lia | omega)
    rw [this]
  rw [← e]
  exact .rng (by (first | exact Int.natCast_nonneg _ | lia | omega)) (by (first | exact Int.natCast_nonneg _ | lia | omega)) (by (first | exact Int.natCast_nonneg _ | lia | omega)) (by (first | lia | omega))
theorem natlt20 {i S : Nat} (h : i ∈ List.range S) (hS : S ≤ 60) : i < 60 := Nat.lt_of_lt_of_le (List.mem_range.mp h) hS


set_option maxHeartbeats 2000000 in
noncomputable abbrev PartK (votes : List Int) (S : Nat) (nm : Str) (ta : Bool) (r : Rule) : Out → Prop := fun o => ∃ D' v m, o = .next v m ∧ Sub (dV2 votes S nm ta D' (divs r S)) v ∧ [(D', (base r votes).map .int)].Sublist m
theorem div_part1 {a L : Addr} {dV kV doc pm an cdv ct} {votes : List Int} {S : Nat} {nm : Str} {ta : Bool} {r : Rule} {D : Addr} (N : Names W) (ao : AOk W A 0) (hS : S ≤ 60) (hn : 1 ≤ votes.length) (hv : votes.length ≤ 100) (hp : ∀ q : Rule, q = .hill ∨ q = .adams ∨ q = .dean → r = q → votes.length ≤ S) (hr : RuleName r nm)
    (hs : ∀ x, (scopeOf p1 "divisor").names.lookup x = some .local ∨ (scopeOf p1 "divisor").names.lookup x = some .cell → Sto hid (dEnv p1 a L dV kV doc pm an cdv ct) x) :
    Ex1 W A hid (dEnv p1 a L dV kV doc pm an cdv ct) [("representatives", .loc D), ("votes", .list (votes.map .int)), ("seats", .int S), ("method", .str nm), ("tiesallowed", .bool ta)] [(D, (votes.map fun z_ => (0 : Int)).map .int)] ((bodyOf p1 "divisor").getD 1 (.Pass default))
      (PartK votes S nm ta r) := by
  have E : EnvOk (dEnv p1 a L dV kV doc pm an cdv ct) := ⟨rfl, rfl, rfl⟩
  have tgti : ∀ {mu : Mu} {scope : Scope} {vars' : Vars} {x : Str} {p : Pos} {d : PV} (hid' : PMap) (C : Addr), scope.names.lookup x = some .local → (x == ("__debug__" : Str)) = false → scope.kind = .function → Tgt W A hid' (cEnv scope C (dEnv p1 a L dV kV doc pm an cdv ct)) vars' mu (.Name x p) d ((x, d) :: vars') :=
    fun hid' C h1 h2 h3 => tgt_name (store_own hid' h1) h3 h2
  refine ex_if (x := decide (Rule.jeff = r)) ?_ (fun e => ?_) (fun e => ?_)
  · rw [← hr .jeff]
    exact ev_in (ns := ruleNames .jeff) (ev_name rfl rfl) (ev_list (by walk_at "args") (by decide)) AsList.list rfl
  · have e : Rule.jeff = r := of_decide_eq_true e
    subst e
    refine exs_next (ex_assign (EvNew.ev (evnew_compA (α := Nat) (mk := fun i => .int (i : Int)) (xs := List.range S) (f := fun i => pairV ((i : Int) + 1, 1)) ⟨inj_nat, ao.handled, rfl, ev_range1 N E (ev_name rfl rfl) rfl rfl, src_rng (by (first | lia | omega)), ⟨rfl, rfl, by decide⟩, .nil, fun z_ => rfl, .any fun z_ z_ => rfl, by rw [List.length_range]; (first | lia | omega), fun hid' C a z_ o => tgti hid' C rfl rfl rfl, fun hid' C a h => ev_tup2 (by walk_at "ev") (by walk_at "ev") rfl rfl, fun a z_ => .nil⟩)) (hs _ (.inr rfl)) rfl rfl rfl) (exs_nil ⟨D, _, _, rfl, ?_, ?_⟩)
    · simp only [dV2, divs, List.map_map]; exact .cons rfl (.cons rfl (.cons rfl (.cons rfl (.cons rfl (.cons rfl .nil)))))
    · exact List.Sublist.refl _
  refine exs_cons (K' := PartK votes S nm ta r) (ex_if (x := decide (Rule.web = r)) ?_ (fun e => ?_) (fun e => ?_)) (fun v m e => exs_nil e) (fun o e z_ => e)
  · rw [← hr .web]
    exact ev_in (ns := ruleNames .web) (ev_name rfl rfl) (ev_list (by walk_at "args") (by decide)) AsList.list rfl
  · have e : Rule.web = r := of_decide_eq_true e
    subst e
    refine exs_next (ex_assign (EvNew.ev (evnew_compA (α := Nat) (mk := fun i => .int (i : Int)) (xs := List.range S) (f := fun i => pairV (2 * (i : Int) + 1, 1)) ⟨inj_nat, ao.handled, rfl, ev_range1 N E (ev_name rfl rfl) rfl rfl, src_rng (by (first | lia | omega)), ⟨rfl, rfl, by decide⟩, .nil, fun z_ => rfl, .any fun z_ z_ => rfl, by rw [List.length_range]; (first | lia | omega), fun hid' C a z_ o => tgti hid' C rfl rfl rfl, fun hid' C a h => ev_tup2 (ev_add (ev_mul ev_int (ev_name rfl rfl) (mulOk20 (by decide) (by have := natlt20 h hS; (first | (clear h e hr hp tgti E hs hv hn hS ao N; omega) | lia | omega)))) ev_int) ev_int rfl rfl, fun a z_ => .nil⟩)) (hs _ (.inr rfl)) rfl rfl rfl) (exs_nil ⟨D, _, _, rfl, ?_, ?_⟩)
    · simp only [dV2, divs, List.map_map]; exact .cons rfl (.cons rfl (.cons rfl (.cons rfl (.cons rfl (.cons rfl .nil)))))
    · exact List.Sublist.refl _
  refine exs_cons (K' := PartK votes S nm ta r) (ex_if (x := decide (Rule.modi = r)) ?_ (fun e => ?_) (fun e => ?_)) (fun v m e => exs_nil e) (fun o e z_ => e)
  · rw [← hr .modi]
    exact ev_in (ns := ruleNames .modi) (ev_name rfl rfl) (ev_list (by walk_at "args") (by decide)) AsList.list rfl
  · have e : Rule.modi = r := of_decide_eq_true e
    subst e
    refine exs_next (ex_assign (EvNew.ev (evnew_add (la := [pairV (7, 5)]) (ev_list (evargs_cons (ev_tup2 ev_int ev_int rfl rfl) evargs_nil rfl) (Nat.le_of_ble_eq_true rfl)) (EvNew.ev (evnew_compA (α := Nat) (mk := fun i => .int (1 + (i : Int))) (xs := List.range (S - 1)) (f := fun i => pairV (2 * (1 + (i : Int)) + 1, 1)) ⟨fun a b h => by injection h with h; (first | lia | omega), ao.handled, rfl, ev_range2 N E ev_int (ev_name rfl rfl) rfl rfl rfl, src_rng1 (by (first | lia | omega)), ⟨rfl, rfl, by decide⟩, .nil, fun z_ => rfl, .any fun z_ z_ => rfl, by rw [List.length_range]; (first | (clear e hr hp tgti E hs hv hn ao N; omega) | lia | omega), fun hid' C a z_ o => tgti hid' C rfl rfl rfl, fun hid' C a h => ev_tup2 (ev_add (ev_mul ev_int (ev_name rfl rfl) (mulOk20 (by decide) (by have := natlt20 h (by (first | (clear h e hr hp tgti E hs hv hn ao N; omega) | lia | omega)); (first | (clear h e hr hp tgti E hs hv hn hS ao N; omega) | lia | omega)))) ev_int) ev_int rfl rfl, fun a z_ => .nil⟩)) AsList.list AsList.list (by simp; (first | (clear e hr hp tgti E hs hv hn ao N; omega) | lia | omega)))) (hs _ (.inr rfl)) rfl rfl rfl) (exs_nil ⟨D, _, _, rfl, ?_, ?_⟩)
    · simp only [dV2, divs, List.map_cons, List.map_map]; exact .cons rfl (.cons rfl (.cons rfl (.cons rfl (.cons rfl (.cons rfl .nil)))))
    · exact List.Sublist.refl _
  refine exs_cons (K' := PartK votes S nm ta r) (ex_if (x := decide (Rule.hill = r)) ?_ (fun e => ?_) (fun e => ?_)) (fun v m e => exs_nil e) (fun o e z_ => e)
  · rw [← hr .hill]
    exact ev_in (ns := ruleNames .hill) (ev_name rfl rfl) (ev_list (by walk_at "args") (by decide)) AsList.list rfl
  · have e : Rule.hill = r := of_decide_eq_true e
    have hle : votes.length ≤ S := hp .hill (by simp) e.symm
    subst e
    refine exs_cons (K' := PartK votes S nm ta .hill) (ex_if (x := false) ?_ (fun e => nomatch e) (fun z_ => ?_)) (fun v m e => exs_nil e) (fun o e z_ => e)
    · rw [show false = decide ((S : Int) < ((votes.map PV.int).length : Nat)) by rw [List.length_map]; simp; omega]
      exact tr_cmp (ev_name rfl rfl) (ev_len N E (ev_name rfl rfl) AsList.list (by rw [List.length_map]; (first | lia | omega)) rfl rfl) rfl c_lt
    · refine exs_own (ds := votes.map fun p => .int (if p > 0 then 1 else 0)) (ex_own (evnew_compA (α := Int) (mk := .int) (xs := votes) (f := fun p => .int (if p > 0 then 1 else 0)) ⟨inj_int, ao.handled, rfl, ev_name rfl rfl, .list AsList.list, ⟨rfl, rfl, by decide⟩, .nil, fun z_ => rfl, .any fun z_ z_ => rfl, by (first | lia | omega), fun hid' C a z_ o => tgti hid' C rfl rfl rfl, fun hid' C b h => ?_, fun a z_ => .nil⟩) (hs _ (.inr rfl)) rfl rfl rfl) (fun D' => ?_)
      · refine ev_if (x := decide (b > 0)) (tr_cmp (ev_name rfl rfl) ev_int rfl c_gt) (fun e => ?_) (fun e => ?_)
        · rw [if_pos (of_decide_eq_true e)]; exact ev_int
        · rw [if_neg (of_decide_eq_false e)]; exact ev_int
      refine exs_next (ex_assign (EvNew.ev (evnew_compA (α := Nat) (mk := fun i => .int (i : Int)) (xs := List.range S) (f := fun i => pairV (((i : Int) + 1) * ((i : Int) + 2), 1)) ⟨inj_nat, ao.handled, rfl, ev_range1 N E (ev_name rfl rfl) rfl rfl, src_rng (by (first | lia | omega)), ⟨rfl, rfl, by decide⟩, .nil, fun z_ => rfl, .any fun z_ z_ => rfl, by rw [List.length_range]; (first | lia | omega), fun hid' C a z_ o => tgti hid' C rfl rfl rfl, fun hid' C a h => ev_tup2 (ev_mul (ev_add (ev_name rfl rfl) ev_int) (ev_add (ev_name rfl rfl) ev_int) (mulOk20 (by have := natlt20 h hS; (first | (clear h e hr hp hle tgti E hs hv hn hS ao N; omega) | lia | omega)) (by have := natlt20 h hS; (first | (clear h e hr hp hle tgti E hs hv hn hS ao N; omega) | lia | omega)))) ev_int rfl rfl, fun a z_ => .nil⟩)) (hs _ (.inr rfl)) rfl rfl rfl) (exs_nil ⟨D', _, _, rfl, ?_, ?_⟩)
      · simp only [dV2, divs, List.map_map]
        refine .cons rfl (.cons rfl (.cons rfl (.cons rfl (.cons rfl (.cons rfl .nil)))))
      · simp only [base, List.map_map]
        exact List.Sublist.cons_cons _ (List.nil_sublist _)
  refine exs_cons (K' := PartK votes S nm ta r) (ex_if (x := decide (Rule.adams = r)) ?_ (fun e => ?_) (fun e => ?_)) (fun v m e => exs_nil e) (fun o e z_ => e)
  · rw [← hr .adams]
    exact ev_in (ns := ruleNames .adams) (ev_name rfl rfl) (ev_list (by walk_at "args") (by decide)) AsList.list rfl
  · have e : Rule.adams = r := of_decide_eq_true e
    have hle : votes.length ≤ S := hp .adams (by simp) e.symm
    subst e
    refine exs_cons (K' := PartK votes S nm ta .adams) (ex_if (x := false) ?_ (fun e => nomatch e) (fun z_ => ?_)) (fun v m e => exs_nil e) (fun o e z_ => e)
    · rw [show false = decide ((S : Int) < ((votes.map PV.int).length : Nat)) by rw [List.length_map]; simp; omega]
      exact tr_cmp (ev_name rfl rfl) (ev_len N E (ev_name rfl rfl) AsList.list (by rw [List.length_map]; (first | lia | omega)) rfl rfl) rfl c_lt
    · refine exs_own (ds := votes.map fun p => .int (if p > 0 then 1 else 0)) (ex_own (evnew_compA (α := Int) (mk := .int) (xs := votes) (f := fun p => .int (if p > 0 then 1 else 0)) ⟨inj_int, ao.handled, rfl, ev_name rfl rfl, .list AsList.list, ⟨rfl, rfl, by decide⟩, .nil, fun z_ => rfl, .any fun z_ z_ => rfl, by (first | lia | omega), fun hid' C a z_ o => tgti hid' C rfl rfl rfl, fun hid' C b h => ?_, fun a z_ => .nil⟩) (hs _ (.inr rfl)) rfl rfl rfl) (fun D' => ?_)
      · refine ev_if (x := decide (b > 0)) (tr_cmp (ev_name rfl rfl) ev_int rfl c_gt) (fun e => ?_) (fun e => ?_)
        · rw [if_pos (of_decide_eq_true e)]; exact ev_int
        · rw [if_neg (of_decide_eq_false e)]; exact ev_int
      refine exs_next (ex_assign (EvNew.ev (evnew_compA (α := Nat) (mk := fun i => .int (i : Int)) (xs := List.range S) (f := fun i => pairV ((i : Int) + 1, 1)) ⟨inj_nat, ao.handled, rfl, ev_range1 N E (ev_name rfl rfl) rfl rfl, src_rng (by (first | lia | omega)), ⟨rfl, rfl, by decide⟩, .nil, fun z_ => rfl, .any fun z_ z_ => rfl, by rw [List.length_range]; (first | lia | omega), fun hid' C a z_ o => tgti hid' C rfl rfl rfl, fun hid' C a h => ev_tup2 (by walk_at "ev") ev_int rfl rfl, fun a z_ => .nil⟩)) (hs _ (.inr rfl)) rfl rfl rfl) (exs_nil ⟨D', _, _, rfl, ?_, ?_⟩)
      · simp only [dV2, divs, List.map_map]
        refine .cons rfl (.cons rfl (.cons rfl (.cons rfl (.cons rfl (.cons rfl .nil)))))
      · simp only [base, List.map_map]
        exact List.Sublist.cons_cons _ (List.nil_sublist _)
  refine exs_cons (K' := PartK votes S nm ta r) (ex_if (x := decide (Rule.dean = r)) ?_ (fun e => ?_) (fun e => ?_)) (fun v m e => exs_nil e) (fun o e z_ => e)
  · rw [← hr .dean]
    exact ev_in (ns := ruleNames .dean) (ev_name rfl rfl) (ev_list (by walk_at "args") (by decide)) AsList.list rfl
  · have e : Rule.dean = r := of_decide_eq_true e
    have hle : votes.length ≤ S := hp .dean (by simp) e.symm
    subst e
    refine exs_cons (K' := PartK votes S nm ta .dean) (ex_if (x := false) ?_ (fun e => nomatch e) (fun z_ => ?_)) (fun v m e => exs_nil e) (fun o e z_ => e)
    · rw [show false = decide ((S : Int) < ((votes.map PV.int).length : Nat)) by rw [List.length_map]; simp; omega]
      exact tr_cmp (ev_name rfl rfl) (ev_len N E (ev_name rfl rfl) AsList.list (by rw [List.length_map]; (first | lia | omega)) rfl rfl) rfl c_lt
    · refine exs_own (ds := votes.map fun p => .int (if p > 0 then 1 else 0)) (ex_own (evnew_compA (α := Int) (mk := .int) (xs := votes) (f := fun p => .int (if p > 0 then 1 else 0)) ⟨inj_int, ao.handled, rfl, ev_name rfl rfl, .list AsList.list, ⟨rfl, rfl, by decide⟩, .nil, fun z_ => rfl, .any fun z_ z_ => rfl, by (first | lia | omega), fun hid' C a z_ o => tgti hid' C rfl rfl rfl, fun hid' C b h => ?_, fun a z_ => .nil⟩) (hs _ (.inr rfl)) rfl rfl rfl) (fun D' => ?_)
      · refine ev_if (x := decide (b > 0)) (tr_cmp (ev_name rfl rfl) ev_int rfl c_gt) (fun e => ?_) (fun e => ?_)
        · rw [if_pos (of_decide_eq_true e)]; exact ev_int
        · rw [if_neg (of_decide_eq_false e)]; exact ev_int
      refine exs_next (ex_assign (EvNew.ev (evnew_compA (α := Nat) (mk := fun i => .int (i : Int)) (xs := List.range S) (f := fun i => pairV (2 * ((i : Int) + 1) * ((i : Int) + 2), 2 * ((i : Int) + 1) + 1)) ⟨inj_nat, ao.handled, rfl, ev_range1 N E (ev_name rfl rfl) rfl rfl, src_rng (by (first | lia | omega)), ⟨rfl, rfl, by decide⟩, .nil, fun z_ => rfl, .any fun z_ z_ => rfl, by rw [List.length_range]; (first | lia | omega), fun hid' C a z_ o => tgti hid' C rfl rfl rfl, fun hid' C a h => ev_tup2 (ev_mul (ev_mul ev_int (ev_add (ev_name rfl rfl) ev_int) (mulOk20 (by decide) (by have := natlt20 h hS; omega))) (ev_add (ev_name rfl rfl) ev_int) (mulOk20 (by have := natlt20 h hS; (first | (clear h e hr hp hle tgti E hs hv hn hS ao N; omega) | lia | omega)) (by have := natlt20 h hS; omega))) (ev_add (ev_mul ev_int (ev_add (ev_name rfl rfl) ev_int) (mulOk20 (by decide) (by have := natlt20 h hS; omega))) ev_int) rfl rfl, fun a z_ => .nil⟩)) (hs _ (.inr rfl)) rfl rfl rfl) (exs_nil ⟨D', _, _, rfl, ?_, ?_⟩)
      · simp only [dV2, divs, List.map_map]
        refine .cons rfl (.cons rfl (.cons rfl (.cons rfl (.cons rfl (.cons rfl .nil)))))
      · simp only [base, List.map_map]
        exact List.Sublist.cons_cons _ (List.nil_sublist _)
  · rename_i e1 e2 e3 e4 e5
    exact absurd e (by clear e; revert e1 e2 e3 e4 e5; cases r <;> decide)
end
end Mine
end

section
set_option tactic.hygienic false
open PySem PySem.W PyProof.Rows PySem.Calls PySem.SeqAt
set_option linter.unusedVariables false
set_option maxRecDepth 100000
namespace Mine

noncomputable def DivsOk (ds : List (Int × Int)) : Prop := ∀ d ∈ ds, 0 < d.1 ∧ d.1.natAbs < 2 ^ 13 ∧ 0 < d.2 ∧ d.2.natAbs < 2 ^ 13
theorem natAbs_mul_lt {a b : Int} {j k : Nat} (ha : a.natAbs < 2 ^ j) (hb : b.natAbs < 2 ^ k) : (a * b).natAbs < 2 ^ (j + k) := by
  rw [Int.natAbs_mul, Nat.pow_add]
  exact Nat.mul_lt_mul'' ha hb
theorem common_foldl (ds : List (Int × Int)) (h : DivsOk ds) : ∀ c : Int, 0 < c → ∀ k, c.natAbs < 2 ^ k → 0 < ds.foldl (fun c d => c * d.1) c ∧ (ds.foldl (fun c d => c * d.1) c).natAbs < 2 ^ (k + 13 * ds.length) := by
  induction ds with
  | nil => intro c hc k hk; exact ⟨hc, by simpa using hk⟩
  | cons d r ih =>
    intro c hc k hk
    have hd := h d List.mem_cons_self
    have := ih (fun e he => h e (List.mem_cons_of_mem _ he)) (c * d.1) (Int.mul_pos hc hd.1) (k + 13) (natAbs_mul_lt hk hd.2.1)
    rw [List.foldl_cons, List.length_cons]
    refine ⟨this.1, ?_⟩
    have e : k + 13 * (r.length + 1) = k + 13 + 13 * r.length := by (first | (clear this hd hk hc h ih; lia) | lia | omega)
    rw [e]; exact this.2
theorem common_ok {ds : List (Int × Int)} (h : DivsOk ds) : 0 < common ds ∧ (common ds).natAbs < 2 ^ (1 + 13 * ds.length) := common_foldl ds h 1 (by decide) 1 (by decide)
theorem common_take {ds : List (Int × Int)} (i : Nat) (d) (h : ds[i]? = some d) : common (ds.take (i + 1)) = common (ds.take i) * d.1 := by
  unfold common
  have hlt : i < ds.length := by
    rcases Nat.lt_or_ge i ds.length with q | q
    · exact q
    · rw [List.getElem?_eq_none q] at h; cases h
  rw [List.take_add_one, h]
  simp
theorem lt_of_get {α : Type} {l : List α} {i : Nat} {a : α} (h : l[i]? = some a) : i < l.length := by
  rcases Nat.lt_or_ge i l.length with q | q
  · exact q
  · rw [List.getElem?_eq_none q] at h; cases h
noncomputable def dv : Rule → Nat → Int × Int
  | .jeff, i => ((i : Int) + 1, 1)
  | .web, i => (2 * (i : Int) + 1, 1)
  | .modi, 0 => (7, 5)
  | .modi, i + 1 => (2 * (1 + (i : Int)) + 1, 1)
  | .hill, i => (((i : Int) + 1) * ((i : Int) + 2), 1)
  | .adams, i => ((i : Int) + 1, 1)
  | .dean, i => (2 * ((i : Int) + 1) * ((i : Int) + 2), 2 * ((i : Int) + 1) + 1)
theorem divs_eq (r : Rule) {S : Nat} (h : 1 ≤ S) : divs r S = (List.range S).map (dv r) := by
  cases r <;> try rfl
  obtain ⟨k, rfl⟩ : ∃ k, S = k + 1 := ⟨S - 1, by (first | lia | omega)⟩
  rw [List.range_succ_eq_map, List.map_cons, List.map_map]
  rfl
theorem dv_small : ∀ r : Rule, ∀ i, i < 60 → 0 < (dv r i).1 ∧ (dv r i).1.natAbs < 2 ^ 13 ∧ 0 < (dv r i).2 ∧ (dv r i).2.natAbs < 2 ^ 13 := by
  intro r; cases r <;> decide +kernel
theorem divsOk (r : Rule) (S : Nat) (hS : S ≤ 60) : DivsOk (divs r S) := by
  rcases Nat.eq_zero_or_pos S with h | h
  · subst h; unfold DivsOk; cases r <;> decide
  · rw [divs_eq r h]
    intro d hd
    obtain ⟨i, hi, rfl⟩ := List.mem_map.mp hd
    exact dv_small r i (Nat.lt_of_lt_of_le (List.mem_range.mp hi) hS)
theorem divs_len (r : Rule) (S : Nat) (h : 1 ≤ S) : (divs r S).length = S := by
  cases r <;> simp [divs]
  (first | lia | omega)

section
variable {W : Wk} {A : Around} {hid : PMap} {env : Env} {vars : Vars} {mu : Mu} {K : Out → Prop}
theorem ev_pair0 {v s : Expr} {pos x y} (hv : Ev W A hid env vars mu v (.tup [x, y])) (hs : Ev W A hid env vars mu s (.int 0)) : Ev W A hid env vars mu (.Subscript v s pos) x :=
  ev_tidx hv hs (by decide) (by show (0 : Int) < ((2 : Nat) : Int); decide) (by show 2 < 2 ^ 62; decide) rfl
theorem ev_pair1 {v s : Expr} {pos x y} (hv : Ev W A hid env vars mu v (.tup [x, y])) (hs : Ev W A hid env vars mu s (.int 1)) : Ev W A hid env vars mu (.Subscript v s pos) y :=
  ev_tidx hv hs (by decide) (by show (1 : Int) < ((2 : Nat) : Int); decide) (by show 2 < 2 ^ 62; decide) rfl

noncomputable abbrev cm0 (p : Program) : List Stmt := match (bodyOf p "divisor").getD 2 (.Pass default) with | .If _ b _ _ => b | _ => []

theorem div_common {a L : Addr} {dV kV doc pm an cdv ct} {votes : List Int} {S : Nat} {nm : Str} {ta : Bool} {ds : List (Int × Int)} {D : Addr} {r0 : List PV} (N : Names W) (ao : AOk W A 0) (hd : DivsOk ds) (hl : ds.length ≤ 60)
    (hs : ∀ x, (scopeOf p1 "divisor").names.lookup x = some .local ∨ (scopeOf p1 "divisor").names.lookup x = some .cell → Sto hid (dEnv p1 a L dV kV doc pm an cdv ct) x) :
    Ex1 W A hid (dEnv p1 a L dV kV doc pm an cdv ct) ((("common" : Str), PV.int 1) :: dV2 votes S nm ta D ds) [(D, r0)] ((cm0 p1).getD 1 (.Pass default)) (· = .next ((("common" : Str), PV.int (common ds)) :: dV2 votes S nm ta D ds) [(D, r0)]) := by
  refine ex_for (d := .list (ds.map pairV)) (its := ds.map pairV) (fun i v m => v = (("common" : Str), PV.int (common (ds.take i))) :: dV2 votes S nm ta D ds ∧ m = [(D, r0)]) ao.handled (ev_name rfl rfl) (fun z_ z_ z_ z_ => .list AsList.list) ⟨rfl, rfl⟩ (hs _ (.inl rfl)) rfl rfl (fun z_ => rfl) ?_ ?_
  · rintro hid' i v m x hsto hx ⟨rfl, rfl⟩
    rw [List.getElem?_map] at hx
    obtain ⟨d, hd1, rfl⟩ := Option.map_eq_some_iff.mp hx
    have hdo := hd d (List.mem_of_getElem? hd1)
    have hc := common_ok (ds := ds.take i) (fun e he => hd e (List.mem_of_mem_take he))
    have hlt := lt_of_get hd1
    refine exs_next (ex_assign (ev_mul (ev_name rfl rfl) (ev_pair0 (ev_name rfl rfl) ev_int) (mulOk hc.2 hdo.2.1 ?_)) (hsto _ (hs _ (.inr rfl))) rfl rfl rfl) (exs_nil ⟨_, _, ?_, List.Sublist.refl _, rfl, rfl⟩)
    · rw [List.length_take]; (first | (clear hc hdo hx hd1 hsto hs hd ao N hlt; lia) | lia | omega)
    · rw [common_take i d hd1]
      exact .cons rfl (.cons rfl (.cons rfl (.cons rfl (.cons rfl (.cons rfl (.cons rfl .nil))))))
  · rintro v m ⟨rfl, rfl⟩
    rw [List.length_map, List.take_length]
end
end Mine
end

section
set_option tactic.hygienic false
open PySem PySem.W PyProof.Rows PySem.Calls PySem.SeqAt
set_option linter.unusedVariables false
set_option maxRecDepth 100000
namespace Mine

section
variable {W : Wk} {A : Around} {hid : PMap} {env : Env} {vars : Vars} {mu : Mu} {K : Out → Prop}

noncomputable abbrev listI (l : List Int) : PV := .list (l.map .int)
theorem inj_listI : ∀ a b : List Int, listI a = listI b → a = b := fun a b h => by
  injection h with h
  exact (List.map_inj_right (fun a b h => by injection h)).mp h
noncomputable def wsOf (r : Rule) (c : Int) (ds : List (Int × Int)) (votes : List Int) : List (List Int) := votes.map fun p => ds.map (wt r c p)

theorem div_weights {a L : Addr} {dV kV doc pm an cdv ct} {votes : List Int} {S : Nat} {nm : Str} {ta : Bool} {r : Rule} {c : Int} {ds : List (Int × Int)} {D : Addr} {r0 : List PV} {B : Nat} (N : Names W) (ao : AOk W A 0) (hd : DivsOk ds) (hl : ds.length ≤ 60) (hr : RuleName r nm)
    (hv : votes.length ≤ 100) (hB : ∀ p ∈ votes, p.natAbs < 2 ^ B) (hB2 : B ≤ 10 ^ 7) (hc : c.natAbs < 2 ^ 800)
    (hs : ∀ x, (scopeOf p1 "divisor").names.lookup x = some .local ∨ (scopeOf p1 "divisor").names.lookup x = some .cell → Sto hid (dEnv p1 a L dV kV doc pm an cdv ct) x) :
    Ex1 W A hid (dEnv p1 a L dV kV doc pm an cdv ct) ((("common" : Str), PV.int c) :: dV2 votes S nm ta D ds) [(D, r0)] ((cm0 p1).getD 2 (.Pass default)) (· = .next (("weights", .list ((wsOf r c ds votes).map listI)) :: ("common", PV.int c) :: dV2 votes S nm ta D ds) [(D, r0)]) := by
  have hinj : ∀ a b : Int × Int, pairV a = pairV b → a = b := fun a b h => by
    injection h with h; injection h with h1 h2; injection h2 with h2; injection h1 with h1; injection h2 with h2; exact Prod.ext h1 h2
  have e : (PV.list ((wsOf r c ds votes).map listI)) = .list (votes.map fun p => listI (ds.map (wt r c p))) := by
    unfold wsOf; rw [List.map_map]; rfl
  rw [e]
  refine ex_if (x := decide (Rule.hill = r)) ?_ (fun e => ?_) (fun e => ?_)
  · rw [← hr .hill]
    exact ev_in (ns := ruleNames .hill) (ev_name rfl rfl) (ev_list (by walk_at "args") (by decide)) AsList.list rfl
  · have e : Rule.hill = r := of_decide_eq_true e
    subst e
    refine exs_next (ex_assign (EvNew.ev (evnew_compA (α := Int) (mk := .int) (xs := votes) (f := fun p => listI (ds.map (wt .hill c p))) (vars' := [("divisors", .list (ds.map pairV)), ("common", .int c)]) (tv := fun p => [("p", .int p), ("divisors", .list (ds.map pairV)), ("common", .int c)])
      ⟨inj_int, ao.handled, rfl, ev_name rfl rfl, .list AsList.list, ⟨rfl, rfl, by decide⟩, by walk_at "over", fun z_ => rfl, .any fun z_ z_ => rfl, by (first | lia | omega), fun hid' C p hp o => tgt_name (sto_cell (by decide) rfl o) rfl rfl, fun hid' C p hp => ?_, fun p z_ => by walk_at "sub"⟩)) (hs _ (.inr rfl)) rfl rfl rfl) (exs_nil rfl)
    show Ev _ _ _ _ _ _ _ (.list ((ds.map (wt .hill c p)).map .int))
    rw [List.map_map]
    refine EvNew.ev (evnew_compA (α := Int × Int) (mk := pairV) (xs := ds) (f := PV.int ∘ wt .hill c p) (vars' := [("p", .int p), ("common", .int c)]) (tv := fun d => [("d", pairV d), ("p", .int p), ("common", .int c)])
      ⟨hinj, ao.handled, rfl, ev_name rfl rfl, .list AsList.list, ⟨rfl, rfl, by decide⟩, by walk_at "over", fun z_ => rfl, .any fun z_ z_ => rfl, by (first | lia | omega), fun hid' C d hd o => tgt_name (store_own hid' rfl) rfl rfl, fun hid' C d hdm => ?_, fun d z_ => by walk_at "sub"⟩)
    have hdo := hd d hdm
    have hpB := hB p hp
    have e1 := natAbs_mul_lt hpB hpB
    have e2 := natAbs_mul_lt e1 hdo.2.2.2
    exact ev_fdiv N.ok ao (ev_mul (ev_mul (ev_mul (ev_toint N ⟨rfl, rfl, rfl⟩ (ev_name rfl rfl) rfl rfl) (ev_toint N ⟨rfl, rfl, rfl⟩ (ev_name rfl rfl) rfl rfl) (mulOk hpB hpB (by (first | lia | omega)))) (ev_pair1 (ev_name rfl rfl) ev_int) (mulOk e1 hdo.2.2.2 (by (first | lia | omega)))) (ev_name rfl rfl) (mulOk e2 hc (by (first | (clear e2 e1 hpB hdo hdm hp e hr hinj hs hc hB hv hl hd ao N; lia) | lia | omega)))) (ev_pair0 (ev_name rfl rfl) ev_int) (by have := hdo.1; (first | (clear this e2 e1 hpB hdm hp e hr hinj hs hc hB2 hB hv hl hd ao N; omega) | lia | omega))
  · refine exs_next (ex_assign (EvNew.ev (evnew_compA (α := Int) (mk := .int) (xs := votes) (f := fun p => listI (ds.map (wt r c p))) (vars' := [("divisors", .list (ds.map pairV)), ("common", .int c)]) (tv := fun p => [("p", .int p), ("divisors", .list (ds.map pairV)), ("common", .int c)])
      ⟨inj_int, ao.handled, rfl, ev_name rfl rfl, .list AsList.list, ⟨rfl, rfl, by decide⟩, by walk_at "over", fun z_ => rfl, .any fun z_ z_ => rfl, by (first | lia | omega), fun hid' C p hp o => tgt_name (sto_cell (by decide) rfl o) rfl rfl, fun hid' C p hp => ?_, fun p z_ => by walk_at "sub"⟩)) (hs _ (.inr rfl)) rfl rfl rfl) (exs_nil rfl)
    show Ev _ _ _ _ _ _ _ (.list ((ds.map (wt r c p)).map .int))
    rw [List.map_map]
    refine EvNew.ev (evnew_compA (α := Int × Int) (mk := pairV) (xs := ds) (f := PV.int ∘ wt r c p) (vars' := [("p", .int p), ("common", .int c)]) (tv := fun d => [("d", pairV d), ("p", .int p), ("common", .int c)])
      ⟨hinj, ao.handled, rfl, ev_name rfl rfl, .list AsList.list, ⟨rfl, rfl, by decide⟩, by walk_at "over", fun z_ => rfl, .any fun z_ z_ => rfl, by (first | lia | omega), fun hid' C d hd o => tgt_name (store_own hid' rfl) rfl rfl, fun hid' C d hdm => ?_, fun d z_ => by walk_at "sub"⟩)
    have hdo := hd d hdm
    have hpB := hB p hp
    have e2 := natAbs_mul_lt hpB hdo.2.2.2
    have e3 : (PV.int ∘ wt r c p) d = .int ((p * d.2 * c).fdiv d.1) := by
      cases r <;> first | exact absurd e (by decide) | rfl
    rw [e3]
    exact ev_fdiv N.ok ao (ev_mul (ev_mul (ev_toint N ⟨rfl, rfl, rfl⟩ (ev_name rfl rfl) rfl rfl) (ev_pair1 (ev_name rfl rfl) ev_int) (mulOk hpB hdo.2.2.2 (by (first | lia | omega)))) (ev_name rfl rfl) (mulOk e2 hc (by (first | lia | omega)))) (ev_pair0 (ev_name rfl rfl) ev_int) (by have := hdo.1; omega)

theorem noCell {names : List (Str × NameKind)} (h : names.all (fun p => p.2 != .cell) = true) : ∀ x, names.lookup x ≠ some .cell := fun x hx => by
  have := List.all_eq_true.mp h _ (mem_of_lookup hx)
  exact absurd this (by show ¬ ((NameKind.cell != NameKind.cell) = true); decide)
theorem flat_map_int (ws : List (List Int)) : (ws.flatMap fun l => l.map PV.int) = ws.flatten.map PV.int := by
  induction ws with
  | nil => rfl
  | cons l r ih => rw [List.flatMap_cons, ih, List.flatten_cons, List.map_append]
noncomputable abbrev vW (votes : List Int) (S : Nat) (nm : Str) (ta : Bool) (D : Addr) (ds : List (Int × Int)) (c : Int) (ws : List (List Int)) : Vars := ("weights", .list (ws.map listI)) :: ("common", PV.int c) :: dV2 votes S nm ta D ds

theorem div_flat {a L : Addr} {dV kV doc pm an cdv ct} {votes : List Int} {S : Nat} {nm : Str} {ta : Bool} {c : Int} {ds : List (Int × Int)} {ws : List (List Int)} {D : Addr} {r0 : List PV} {M : Nat} (N : Names W) (ao : AOk W A 0)
    (hM : ∀ l ∈ ws, l.length ≤ M) (hwM : ws.length * M ≤ 100000) (h64 : ws.flatten.length ≤ 100000)
    (hs : ∀ x, (scopeOf p1 "divisor").names.lookup x = some .local ∨ (scopeOf p1 "divisor").names.lookup x = some .cell → Sto hid (dEnv p1 a L dV kV doc pm an cdv ct) x) :
    Ex1 W A hid (dEnv p1 a L dV kV doc pm an cdv ct) (vW votes S nm ta D ds c ws) [(D, r0)] ((cm0 p1).getD 3 (.Pass default)) (· = .next (("flatweights", listI (sortI ws.flatten)) :: vW votes S nm ta D ds c ws) [(D, r0)]) := by
  refine ex_assign (ev_sorted N ⟨rfl, rfl, rfl⟩ (EvNew.ev ?_) AsList.list h64 rfl rfl) (hs _ (.inl rfl)) rfl rfl rfl
  rw [← flat_map_int]
  exact evnew_comp2M (α := List Int) (β := Int) (mk := listI) (mk1 := .int) (xs := ws) (ys := fun l => l) (f := fun z_ w => .int w) (vars' := []) (tv := fun l => [("l", listI l)]) (tv1 := fun l w => [("w", .int w), ("l", listI l)]) (d1 := listI) (N := M) inj_listI inj_int ao.handled rfl (ev_name rfl rfl) (.list AsList.list) ⟨rfl, rfl, by decide⟩ .nil
    (fun z_ => rfl) (fun z_ z_ => rfl) hwM (noCell rfl) (fun z_ z_ => rfl) hM (fun z_ z_ => rfl) (fun l z_ => .list AsList.list) (fun hid' C l z_ => tgt_name (store_own hid' rfl) rfl rfl) (fun hid' C l z_ => ev_name rfl rfl) (fun hid' C l w z_ z_ => tgt_name (store_own hid' rfl) rfl rfl) (fun hid' C l w z_ z_ => ev_name rfl rfl)
    (fun l w z_ z_ => by walk_at "sub") (fun l z_ => .nil)

theorem div_min {a L : Addr} {dV kV doc pm an cdv ct} {votes : List Int} {S : Nat} {nm : Str} {ta : Bool} {c : Int} {ds : List (Int × Int)} {ws : List (List Int)} {D : Addr} {r0 fl : List Int} (N : Names W) (ao : AOk W A 0)
    (h1 : -(fl.length : Int) ≤ -(S : Int) + r0.sum) (h2 : -(S : Int) + r0.sum < fl.length) (h64 : fl.length ≤ 100000)
    (hs : ∀ x, (scopeOf p1 "divisor").names.lookup x = some .local ∨ (scopeOf p1 "divisor").names.lookup x = some .cell → Sto hid (dEnv p1 a L dV kV doc pm an cdv ct) x) :
    Ex1 W A hid (dEnv p1 a L dV kV doc pm an cdv ct) ((("flatweights" : Str), listI fl) :: vW votes S nm ta D ds c ws) [(D, r0.map .int)] ((cm0 p1).getD 4 (.Pass default))
      (· = .next (("minweight", .int (fl.getD (idx (-(S : Int) + r0.sum) fl.length) 0)) :: ("flatweights", listI fl) :: vW votes S nm ta D ds c ws) [(D, r0.map .int)]) := by
  have hi : idx (-(S : Int) + r0.sum) fl.length < fl.length := by unfold idx; split <;> (first | lia | omega)
  refine ex_assign (ev_idx (l := fl.map .int) (ev_name rfl rfl) (ev_add (ev_neg (ev_name rfl rfl)) (ev_sum N ⟨rfl, rfl, rfl⟩ ao.handled (ev_name rfl rfl) (.inr ⟨D, rfl, .head _⟩) rfl rfl)) AsList.list (by rw [List.length_map]; exact h1) (by rw [List.length_map]; exact h2) (by rw [List.length_map]; (first | lia | omega)) ?_) (hs _ (.inr rfl)) rfl rfl rfl
  rw [List.length_map, List.getElem?_map, List.getD, List.getElem?_eq_getElem hi]; rfl

noncomputable def topI (m : Int) (l : List Int) : Int := ((l.filter fun w => decide (w > m)).length : Nat)
noncomputable def r1Of (r0 : List Int) (ws : List (List Int)) (m : Int) (n : Nat) : List Int := (List.range n).map fun i => r0.getD i 0 + topI m (ws.getD i [])

theorem getD_map_int (l : List Int) (i : Nat) (h : i < l.length) : (l.map PV.int)[i]? = some (.int (l.getD i 0)) := by
  rw [List.getElem?_map, List.getD, List.getElem?_eq_getElem h]; rfl
theorem getD_map_listI (l : List (List Int)) (i : Nat) (h : i < l.length) : (l.map listI)[i]? = some (listI (l.getD i [])) := by
  rw [List.getElem?_map, List.getD, List.getElem?_eq_getElem h]; rfl
theorem idx_nat (i n : Nat) : idx (i : Int) n = i := by unfold idx; rw [if_pos (by (first | exact Int.natCast_nonneg _ | lia | omega))]; (first | (simp; done) | lia | omega)

theorem ev_nidx {v s : Expr} {pos d l} {k : Nat} {r} (hv : Ev W A hid env vars mu v d) (hs : Ev W A hid env vars mu s (.int (k : Int))) (hl : AsList mu d l) (hn : l.length ≤ 100000) (hr : l[k]? = some r) : Ev W A hid env vars mu (.Subscript v s pos) r := by
  have hk := lt_of_get hr
  exact ev_idx hv hs hl (by (first | (simp; done) | lia | omega)) (by (first | lia | omega)) (by (first | lia | omega)) (by rw [idx_nat]; exact hr)
theorem ev_iidx {v s : Expr} {pos d} {xs : List Int} {k : Nat} (hv : Ev W A hid env vars mu v d) (hs : Ev W A hid env vars mu s (.int (k : Int))) (hl : AsList mu d (xs.map .int)) (hk : k < xs.length) (hn : xs.length ≤ 100000) : Ev W A hid env vars mu (.Subscript v s pos) (.int (xs.getD k 0)) :=
  ev_nidx hv hs hl (by rw [List.length_map]; exact hn) (getD_map_int _ _ hk)
theorem ev_lidx {v s : Expr} {pos d} {xs : List (List Int)} {k : Nat} (hv : Ev W A hid env vars mu v d) (hs : Ev W A hid env vars mu s (.int (k : Int))) (hl : AsList mu d (xs.map listI)) (hk : k < xs.length) (hn : xs.length ≤ 100000) : Ev W A hid env vars mu (.Subscript v s pos) (listI (xs.getD k [])) :=
  ev_nidx hv hs hl (by rw [List.length_map]; exact hn) (getD_map_listI _ _ hk)
theorem div_reps {a L : Addr} {dV kV doc pm an cdv ct} {votes : List Int} {S : Nat} {nm : Str} {ta : Bool} {c : Int} {ds : List (Int × Int)} {ws : List (List Int)} {D : Addr} {r0 fl : List Int} {m : Int} (N : Names W) (ao : AOk W A 0)
    (hv : votes.length ≤ 100) (hr0 : r0.length = votes.length) (hws : ws.length = votes.length) (hM : ∀ l ∈ ws, l.length ≤ 1000)
    (hs : ∀ x, (scopeOf p1 "divisor").names.lookup x = some .local ∨ (scopeOf p1 "divisor").names.lookup x = some .cell → Sto hid (dEnv p1 a L dV kV doc pm an cdv ct) x) :
    Ex1 W A hid (dEnv p1 a L dV kV doc pm an cdv ct) ((("minweight" : Str), PV.int m) :: ("flatweights", listI fl) :: vW votes S nm ta D ds c ws) [(D, r0.map .int)] ((cm0 p1).getD 5 (.Pass default))
      (fun o => ∃ D', o = .next (("representatives", .loc D') :: ("minweight", .int m) :: ("flatweights", listI fl) :: vW votes S nm ta D ds c ws) [(D', (r1Of r0 ws m votes.length).map .int), (D, r0.map .int)]) := by
  unfold r1Of
  rw [List.map_map]
  refine ex_own (evnew_compA (α := Nat) (mk := fun i => .int (i : Int)) (xs := List.range votes.length) (vars' := [("representatives", .loc D), ("minweight", .int m), ("weights", .list (ws.map listI))]) (tv := fun i => [("i", .int (i : Int)), ("representatives", .loc D), ("minweight", .int m), ("weights", .list (ws.map listI))])
    ⟨inj_nat, ao.handled, rfl, ?_, src_rng (by (first | lia | omega)), ⟨rfl, rfl, by decide⟩, by walk_at "over", fun z_ => rfl, .any fun z_ z_ => rfl, by rw [List.length_range]; (first | lia | omega), fun hid' C i hi o => tgt_name (store_own hid' rfl) rfl rfl, fun hid' C i hi => ?_, fun i z_ => by walk_at "sub"⟩) (hs _ (.inr rfl)) rfl rfl rfl
  · have := ev_range1 (W := W) (A := A) (hid := hid) (vars := (("minweight" : Str), PV.int m) :: ("flatweights", listI fl) :: vW votes S nm ta D ds c ws) (mu := [(D, r0.map .int)]) (env := dEnv p1 a L dV kV doc pm an cdv ct) (np := default) (pos := default) (e := .Constant (.int 0) 0 default) (n := 0) N ⟨rfl, rfl, rfl⟩ ev_int rfl rfl
    rw [show ((votes.length : Nat) : Int) = ((votes.map PV.int).length : Nat) by rw [List.length_map]]
    exact ev_range1 N ⟨rfl, rfl, rfl⟩ (ev_len N ⟨rfl, rfl, rfl⟩ (ev_name rfl rfl) AsList.list (by rw [List.length_map]; (first | lia | omega)) rfl rfl) rfl rfl
  · have hi' := List.mem_range.mp hi
    have hwi : (ws.getD i []).length ≤ 1000 := by
      rw [List.getD, List.getElem?_eq_getElem (by (first | lia | omega))]; exact hM _ (List.getElem_mem _)
    have e1 : (PV.int ∘ fun i => r0.getD i 0 + topI m (ws.getD i [])) i = .int (r0.getD i 0 + ((((ws.getD i []).filter fun w => decide (w > m)).map PV.int).length : Nat)) := by
      show PV.int (r0.getD i 0 + topI m (ws.getD i [])) = _
      unfold topI; rw [List.length_map]
    rw [e1]
    refine ev_add (ev_iidx (xs := r0) (ev_name rfl rfl) (ev_name rfl rfl) (.inr ⟨D, rfl, .head _⟩) (by (first | lia | omega)) (by (first | lia | omega))) ?_
    refine ev_len N ⟨rfl, rfl, rfl⟩ (EvNew.ev (evnew_compM (α := Int) (mk := .int) (xs := ws.getD i []) (p := fun w => decide (w > m)) (f := .int) (vars' := [("minweight", .int m)]) (tv := fun w => [("w", .int w), ("minweight", .int m)])
      ⟨inj_int, ao.handled, rfl, ev_lidx (xs := ws) (ev_name rfl rfl) (ev_name rfl rfl) AsList.list (by (first | lia | omega)) (by (first | lia | omega)), .list AsList.list, ⟨rfl, rfl, by decide⟩, by walk_at "over", fun z_ => rfl, .any fun z_ z_ => rfl, by (first | lia | omega), fun hid' C w hw o => tgt_name (store_own hid' rfl) rfl rfl, fun hid' C w hw => ?_, fun hid' C w hw z_ => ev_name rfl rfl, fun w z_ => by walk_at "sub"⟩)) AsList.list ?_ rfl rfl
    · exact tests_one (tr_cmp (ev_name rfl rfl) (ev_name rfl rfl) rfl c_gt)
    · rw [List.length_map]
      have := List.length_filter_le (fun w => decide (w > m)) (ws.getD i [])
      (first | lia | omega)
end
end Mine
end

section
set_option tactic.hygienic false
open PySem PySem.W PyProof.Rows PySem.Calls PySem.SeqAt
set_option linter.unusedVariables false
set_option maxRecDepth 100000
namespace Mine

section
variable {W : Wk} {A : Around} {hid : PMap} {env : Env} {vars : Vars} {mu : Mu} {K K' : Out → Prop}
end
end Mine
end

section
set_option tactic.hygienic false
open PySem PySem.W PyProof.Rows PySem.Calls PySem.SeqAt
set_option linter.unusedVariables false
set_option maxRecDepth 100000
namespace Mine

noncomputable def has (m : Int) (l : List Int) : Bool := l.any (· == m)
noncomputable def tieStep (S : Nat) (ws : List (List Int)) (m : Int) (r : List Int) (i : Nat) : List Int := if decide (r.sum < (S : Int)) && has m (ws.getD i []) then r.set i (r.getD i 0 + 1) else r
noncomputable def tieFold (S : Nat) (ws : List (List Int)) (m : Int) (r : List Int) (n : Nat) : List Int := (List.range n).foldl (tieStep S ws m) r
noncomputable def tieSeen (S : Nat) (ws : List (List Int)) (m : Int) (r : List Int) (n : Nat) : Bool := (List.range n).any fun i => (tieFold S ws m r i).sum == (S : Int) && has m (ws.getD i [])
theorem tieStep_len {S ws m r i} : (tieStep S ws m r i).length = r.length := by unfold tieStep; split <;> simp
theorem tieFold_succ {S ws m r n} : tieFold S ws m r (n + 1) = tieStep S ws m (tieFold S ws m r n) n := by
  unfold tieFold; rw [List.range_succ, List.foldl_append]; rfl
theorem tieFold_len {S ws m r} : ∀ {n}, (tieFold S ws m r n).length = r.length
  | 0 => rfl
  | n + 1 => by rw [tieFold_succ, tieStep_len, tieFold_len]
theorem tieSeen_succ {S ws m r n} : tieSeen S ws m r (n + 1) = (tieSeen S ws m r n || ((tieFold S ws m r n).sum == (S : Int) && has m (ws.getD n []))) := by
  unfold tieSeen; rw [List.range_succ, List.any_append]; simp
theorem tieFold_full {S : Nat} {ws m r} (h : ¬ r.sum < (S : Int)) : ∀ {n}, tieFold S ws m r n = r
  | 0 => rfl
  | n + 1 => by rw [tieFold_succ, tieFold_full h]; unfold tieStep; simp [h]

section
variable {W : Wk} {A : Around} {hid : PMap} {env : Env} {vars : Vars} {mu : Mu} {K : Out → Prop}

theorem tr_and2 {a b : Expr} {pos x y} (ha : Tr W A hid env vars mu a x) (hb : x = true → Tr W A hid env vars mu b y) : Tr W A hid env vars mu (.BoolOp .And [a, b] pos) (x && y) := by
  cases x
  · exact tr_bool (.stop ha rfl)
  · have := hb rfl
    cases y
    · exact tr_bool (.more ha rfl (.stop this rfl))
    · exact tr_bool (.more ha rfl (.more this rfl .nil))
theorem tr_or2 {a b : Expr} {pos x y} (ha : Tr W A hid env vars mu a x) (hb : x = false → Tr W A hid env vars mu b y) : Tr W A hid env vars mu (.BoolOp .Or [a, b] pos) (x || y) := by
  cases x
  · have := hb rfl
    cases y
    · exact tr_bool (.more ha rfl (.more this rfl .nil))
    · exact tr_bool (.more ha rfl (.stop this rfl))
  · exact tr_bool (.stop ha rfl)
theorem tr_name_bool {x : Str} {p b} (h : vars.lookup x = some (.bool b)) (hk : env.scope.kind = .function) (hf : ∀ v : Sem Value, isTrue (.Name x p) env v = (do let x ← v; standAt p; holding [x] (truthy x))) : Tr W A hid env vars mu (.Name x p) b :=
  tr_of (ev_name h hk) (show b = b from rfl) hf

noncomputable abbrev vE (votes : List Int) (S : Nat) (ta b : Bool) (D : Addr) (ws : List (List Int)) (m : Int) : Vars := [("ties", .bool b), ("representatives", .loc D), ("minweight", .int m), ("weights", .list (ws.map listI)), ("votes", listI votes), ("seats", .int S), ("tiesallowed", .bool ta)]

end
end Mine
end

section
set_option tactic.hygienic false
open PySem PySem.W PyProof.Rows PySem.Calls PySem.SeqAt
set_option linter.unusedVariables false
set_option maxRecDepth 100000
namespace Mine

noncomputable def cutOf (r0 fl : List Int) (S : Nat) : Int := fl.getD (idx (-(S : Int) + r0.sum) fl.length) 0
theorem idx_neg {x : Int} {n T : Nat} (e : x = -(T : Int)) (h : 0 < T) : idx x n = n - T := by
  subst e
  unfold idx
  rw [if_neg (Int.not_le.mpr (Int.neg_neg_of_pos (Int.natCast_pos.mpr h))), Int.add_comm, ← Int.sub_eq_add_neg, Int.toNat_sub]
theorem cut_at {r0 fl : List Int} {S T : Nat} (hT : (T : Int) = S - r0.sum) (h1 : r0.sum < (S : Int)) : cutOf r0 fl S = fl.getD (fl.length - T) 0 :=
  congrArg (fl.getD · 0) (idx_neg (by rw [hT, Int.neg_sub, Int.sub_eq_add_neg, Int.add_comm]) (Int.natCast_pos.mp (hT ▸ Int.sub_pos_of_lt h1)))
noncomputable def divW (r : Rule) (votes : List Int) (S : Nat) : List (List Int) := wsOf r (common (divs r S)) (divs r S) votes
noncomputable def divM (r : Rule) (votes : List Int) (S : Nat) : Int := cutOf (base r votes) (sortI (divW r votes S).flatten) S
noncomputable def divR1 (r : Rule) (votes : List Int) (S : Nat) : List Int := if (S : Int) > (base r votes).sum then r1Of (base r votes) (divW r votes S) (divM r votes S) votes.length else base r votes
noncomputable def divF (r : Rule) (votes : List Int) (S : Nat) : List Int := tieFold S (divW r votes S) (divM r votes S) (divR1 r votes S) votes.length
noncomputable def divTie (r : Rule) (votes : List Int) (S : Nat) : Bool := decide ((S : Int) > (base r votes).sum) && tieSeen S (divW r votes S) (divM r votes S) (divR1 r votes S) votes.length

theorem base_len (r : Rule) (v : List Int) : (base r v).length = v.length := by cases r <;> simp [base]
theorem sum_map_bound (v : List Int) (f : Int → Int) (h : ∀ p, 0 ≤ f p ∧ f p ≤ 1) : 0 ≤ (v.map f).sum ∧ (v.map f).sum ≤ v.length := by
  induction v with
  | nil => exact ⟨Int.le_refl _, Int.le_refl _⟩
  | cons p r ih =>
    have := h p
    rw [List.map_cons, List.sum_cons, List.length_cons]
    (first | (simp only [Int.natCast_add, Int.natCast_one] at *; lia) | lia | omega)
theorem base_sum (r : Rule) (v : List Int) : 0 ≤ (base r v).sum ∧ (base r v).sum ≤ v.length := by
  cases r <;> exact sum_map_bound v _ (fun p => by first | (constructor <;> decide) | (split <;> decide))
theorem flat_len (r : Rule) (c : Int) (ds : List (Int × Int)) (votes : List Int) : (wsOf r c ds votes).flatten.length = votes.length * ds.length := by
  unfold wsOf
  induction votes with
  | nil => simp
  | cons p q ih => rw [List.map_cons, List.flatten_cons, List.length_append, ih, List.length_map, List.length_cons, Nat.succ_mul]; (first | lia | omega)
theorem sortI_len (l : List Int) : (sortI l).length = l.length := (sortI_perm l).length_eq

structure DivPre (r : Rule) (votes : List Int) (S B : Nat) (nm : Str) : Prop where
  hS : S ≤ 60
  hn : 1 ≤ votes.length
  hv : votes.length ≤ 100
  free : ∀ q : Rule, q = .hill ∨ q = .adams ∨ q = .dean → r = q → votes.length ≤ S
  name : RuleName r nm
  size : votes.length * S ≤ 1000
  hB : ∀ p ∈ votes, p.natAbs < 2 ^ B
  hB2 : B ≤ 10 ^ 7

section
variable {W : Wk} {A : Around} {hid : PMap} {env : Env} {vars : Vars} {mu : Mu} {K : Out → Prop}

noncomputable abbrev vT (votes : List Int) (S : Nat) (nm : Str) (ta : Bool) (D : Addr) (r : Rule) : Vars := [("representatives", .loc D), ("minweight", .int (divM r votes S)), ("weights", .list ((divW r votes S).map listI)), ("votes", listI votes), ("seats", .int S), ("tiesallowed", .bool ta)]
noncomputable abbrev vT0 (votes : List Int) (S : Nat) (ta : Bool) (D : Addr) : Vars := [("representatives", .loc D), ("votes", listI votes), ("seats", .int S), ("tiesallowed", .bool ta)]

theorem div_deal {a L : Addr} {dV kV doc pm an cdv ct} {votes : List Int} {S B : Nat} {nm : Str} {ta : Bool} {r : Rule} (N : Names W) (ao : AOk W A 0) (P : DivPre r votes S B nm)
    (hs : ∀ x, (scopeOf p1 "divisor").names.lookup x = some .local ∨ (scopeOf p1 "divisor").names.lookup x = some .cell → Sto hid (dEnv p1 a L dV kV doc pm an cdv ct) x) {rest : List Stmt} {K}
    (kt : (S : Int) > (base r votes).sum → ∀ D, Exs W A hid (dEnv p1 a L dV kV doc pm an cdv ct) (vT votes S nm ta D r) [(D, (divR1 r votes S).map .int)] rest K)
    (ke : ¬ (S : Int) > (base r votes).sum → ∀ D, Exs W A hid (dEnv p1 a L dV kV doc pm an cdv ct) (vT0 votes S ta D) [(D, (divR1 r votes S).map .int)] rest K) :
    Exs W A hid (dEnv p1 a L dV kV doc pm an cdv ct) [("votes", listI votes), ("seats", .int S), ("method", .str nm), ("tiesallowed", .bool ta)] [] ((bodyOf p1 "divisor").take 3 ++ rest) K := by
  have E : EnvOk (dEnv p1 a L dV kV doc pm an cdv ct) := ⟨rfl, rfl, rfl⟩
  have hv := P.hv
  have hn := P.hn
  have hbl := base_len r votes
  have hbs := base_sum r votes
  show Exs _ _ _ _ _ _ ((bodyOf p1 "divisor").getD 0 (.Pass default) :: (bodyOf p1 "divisor").getD 1 (.Pass default) :: (bodyOf p1 "divisor").getD 2 (.Pass default) :: rest) K
  refine exs_own (ds := (votes.map fun z_ => (0 : Int)).map .int) (ex_own ?_ (hs _ (.inr rfl)) rfl rfl rfl) (fun D => ?_)
  · have e : (votes.map fun z_ => (0 : Int)).map PV.int = List.replicate (((votes.map PV.int).length : Nat) : Int).toNat (.int 0) := by
      rw [List.map_map, Int.toNat_natCast, List.length_map]
      exact List.map_const' ..
    rw [e]
    exact evnew_rep (evargs_cons ev_int evargs_nil rfl) (ev_len N E (ev_name rfl rfl) AsList.list (by rw [List.length_map]; (first | lia | omega)) rfl rfl) (by (first | exact Int.natCast_nonneg _ | lia | omega)) (by rw [List.length_map]; (first | lia | omega))
  refine exs_cons (div_part1 N ao P.hS hn hv P.free P.name hs) ?_ (fun o ⟨D', v, m, e, _⟩ hn => absurd e (hn _ _))
  rintro v m ⟨D', v', m', e, hsub, hmu⟩
  cases e
  refine run_forget hsub hmu ?_
  by_cases hgt : (S : Int) > (base r votes).sum
  · have hS1 : 1 ≤ S := by (first | (clear hmu hsub hbl hn hv E ke kt hs P ao N; lia) | lia | omega)
    have hdl := divs_len r S hS1
    have hdo := divsOk r S P.hS
    have hco := common_ok hdo
    have hfl : (divW r votes S).flatten.length = votes.length * S := by unfold divW; rw [flat_len, hdl]
    have hsl := sortI_len (divW r votes S).flatten
    have hwl : (divW r votes S).length = votes.length := by unfold divW wsOf; rw [List.length_map]
    have hin : ∀ l ∈ divW r votes S, l.length ≤ S := by
      intro l hl
      unfold divW wsOf at hl
      obtain ⟨p, _, rfl⟩ := List.mem_map.mp hl
      rw [List.length_map, hdl]; exact Nat.le_refl _
    have hsz := P.size
    have hle : S ≤ votes.length * S := Nat.le_mul_of_pos_left _ hn
    refine exs_cons (K' := fun o => ∃ D v m, o = .next v m ∧ Sub (vT votes S nm ta D r) v ∧ [(D, (divR1 r votes S).map .int)].Sublist m) (ex_if (x := decide ((S : Int) > (base r votes).sum)) (tr_cmp (ev_name rfl rfl) (ev_sum N E ao.handled (ev_name rfl rfl) (.inr ⟨D', rfl, .head _⟩) rfl rfl) rfl c_gt) (fun z_ => ?_) (fun e => absurd hgt (of_decide_eq_false e))) ?_ (fun o ⟨D', v, m, e, _⟩ hn => absurd e (hn _ _))
    · refine exs_next (ex_assign ev_int (hs _ (.inr rfl)) rfl rfl rfl) ?_
      refine exs_next (div_common N ao hdo (by rw [hdl]; exact P.hS) hs) ?_
      refine exs_next (div_weights N ao hdo (by rw [hdl]; exact P.hS) P.name hv P.hB P.hB2 (Nat.lt_of_lt_of_le hco.2 (Nat.pow_le_pow_right (by decide) (by rw [hdl]; have := P.hS; (first | lia | omega)))) hs) ?_
      refine exs_next (div_flat (ws := divW r votes S) (M := S) N ao hin (by rw [hwl]; (first | lia | omega)) (by rw [hfl]; exact Nat.le_trans hsz (Nat.le_of_ble_eq_true rfl)) hs) ?_
      refine exs_next (div_min N ao (by rw [hsl, hfl]; (first | (clear hsz hin hwl hsl hfl hco hdo hdl hS1 hgt hmu hsub hbl hn hv E ke kt hs P ao N; lia) | lia | omega)) (by (first | (clear hsz hin hwl hco hdo hdl hmu hsub hbs hbl hn hv E ke kt hs P ao N hle hsl; lia) | lia | omega)) (by rw [hsl, hfl]; exact Nat.le_trans hsz (Nat.le_of_ble_eq_true rfl)) hs) ?_
      refine exs_own (div_reps N ao hv hbl hwl (fun l hl => by have := hin l hl; have := P.hS; (first | lia | omega)) hs) (fun D2 => exs_nil ⟨D2, _, _, rfl, by walk_at "sub", ?_⟩)
      have e : divR1 r votes S = r1Of (base r votes) (divW r votes S) (divM r votes S) votes.length := if_pos hgt
      rw [e]
      exact List.Sublist.cons_cons _ (List.nil_sublist _)
    · rintro v m ⟨D2, v2, m2, e, hsub2, hmu2⟩
      cases e
      exact run_forget hsub2 hmu2 (kt hgt D2)
  · refine exs_next (ex_if (x := decide ((S : Int) > (base r votes).sum)) (tr_cmp (ev_name rfl rfl) (ev_sum N E ao.handled (ev_name rfl rfl) (.inr ⟨D', rfl, .head _⟩) rfl rfl) rfl c_gt) (fun e => absurd (of_decide_eq_true e) hgt) (fun z_ => exs_nil rfl)) ?_
    have e : divR1 r votes S = base r votes := if_neg hgt
    have := ke hgt D'
    rw [e] at this
    exact run_forget (by walk_at "sub") (List.Sublist.refl _) this

end
end Mine
end

section
set_option tactic.hygienic false
set_option linter.unusedVariables false
namespace Mine

noncomputable def cntP (p : Int → Bool) (l : List Int) : Nat := (l.filter p).length
theorem cntP_append (p) (a b : List Int) : cntP p (a ++ b) = cntP p a + cntP p b := by unfold cntP; rw [List.filter_append, List.length_append]
theorem cntP_perm {p} {a b : List Int} (h : a.Perm b) : cntP p a = cntP p b := (h.filter p).length_eq
theorem cntP_zero {p} {a : List Int} (h : ∀ x ∈ a, p x = false) : cntP p a = 0 := by
  unfold cntP
  rw [List.filter_eq_nil_iff.mpr (fun x hx => by simp [h x hx])]; rfl
theorem cntP_all {p} {a : List Int} (h : ∀ x ∈ a, p x = true) : cntP p a = a.length := by
  unfold cntP; rw [List.filter_eq_self.mpr h]
theorem cntP_le {p} {a : List Int} : cntP p a ≤ a.length := List.length_filter_le _ _
theorem cntP_cons {p} {x} {a : List Int} : cntP p (x :: a) = (if p x then 1 else 0) + cntP p a := by
  unfold cntP; rw [List.filter_cons]; split <;> simp <;> (first | lia | omega)
noncomputable def sumN : List Nat → Nat
  | [] => 0
  | x :: r => x + sumN r
theorem cntP_flatten (p) (ws : List (List Int)) : cntP p ws.flatten = sumN (ws.map (cntP p)) := by
  induction ws with
  | nil => rfl
  | cons l r ih => rw [List.flatten_cons, cntP_append, ih, List.map_cons]; rfl

theorem cut_counts {fl : List Int} (hs : fl.Pairwise (· ≤ ·)) {T : Nat} (h1 : 1 ≤ T) (h2 : T ≤ fl.length) :
    cntP (fun w => decide (w > fl.getD (fl.length - T) 0)) fl < T ∧ T ≤ cntP (fun w => decide (w ≥ fl.getD (fl.length - T) 0)) fl := by
  have hp : fl.length - T < fl.length := by omega
  generalize hm : fl.getD (fl.length - T) 0 = m
  have hm' : fl[fl.length - T] = m := by rw [← hm, List.getD, List.getElem?_eq_getElem hp]; rfl
  have e : fl = fl.take (fl.length - T) ++ (m :: fl.drop (fl.length - T + 1)) := by
    rw [← hm', ← List.drop_eq_getElem_cons hp, List.take_append_drop]
  have hl : (fl.drop (fl.length - T + 1)).length = T - 1 := by rw [List.length_drop, Nat.sub_add_eq, Nat.sub_sub_self h2]
  generalize hA : fl.take (fl.length - T) = A at e
  generalize hB : fl.drop (fl.length - T + 1) = B at e hl
  rw [e] at hs
  obtain ⟨_, hB2, hAB⟩ := List.pairwise_append.mp hs
  have hB3 := List.pairwise_cons.mp hB2
  constructor
  · rw [e, cntP_append, cntP_zero (a := A) (fun x hx => by have := hAB x hx m List.mem_cons_self; simp; omega), cntP_cons]
    have := cntP_le (p := fun w => decide (w > m)) (a := B)
    rw [if_neg (by simp)]; (first | lia | omega)
  · rw [e, cntP_append, cntP_all (a := m :: B) (fun x hx => by
      rcases List.mem_cons.mp hx with rfl | hx
      · simp
      · have := hB3.1 x hx; simp; omega), List.length_cons]
    (first | lia | omega)

noncomputable abbrev FallM (m : Int) (l : List Int) : Prop := l.Pairwise fun x y => y < x ∨ (y ≤ x ∧ x < m)
theorem fall_count {l : List Int} {m : Int} (hs : FallM m l) : ∀ k (hk : k < l.length), (l[k] > m ↔ k < cntP (fun w => decide (w > m)) l) := by
  induction l with
  | nil => intro k hk; simp at hk
  | cons x r ih =>
    obtain ⟨h1, h2⟩ := List.pairwise_cons.mp hs
    intro k hk
    rw [cntP_cons]
    by_cases hx : x > m
    · cases k with
      | zero => simp [hx]; (first | (clear hk hx h2 h1 hs ih; lia) | lia | omega)
      | succ k => have := ih h2 k (by simpa using hk); simp only [List.getElem_cons_succ]; rw [this]; simp [hx]; (first | lia | omega)
    · have h0 : cntP (fun w => decide (w > m)) r = 0 := cntP_zero (fun y hy => by have := h1 y hy; simp; (first | lia | omega))
      rw [h0]
      cases k with
      | zero => simp [hx]
      | succ k =>
        have : r[k]'(by simpa using hk) ∈ r := List.getElem_mem _
        have := h1 _ this
        simp only [List.getElem_cons_succ]
        simp [hx]; (first | lia | omega)
theorem fall_ge {l : List Int} {m : Int} (hs : FallM m l) : cntP (fun w => decide (w ≥ m)) l = cntP (fun w => decide (w > m)) l + (if has m l then 1 else 0) := by
  induction l with
  | nil => rfl
  | cons x r ih =>
    obtain ⟨h1, h2⟩ := List.pairwise_cons.mp hs
    rw [cntP_cons, cntP_cons, ih h2]
    have hh : has m (x :: r) = ((x == m) || has m r) := rfl
    rw [hh]
    by_cases e : x = m
    · subst e
      have : has x r = false := by
        unfold has; rw [List.any_eq_false]; intro y hy; have := h1 y hy; simp; (first | (clear hy hh h2 h1 hs ih; lia) | lia | omega)
      rw [this]; simp; (first | (clear this hh h2 h1 hs ih; lia) | lia | omega)
    · have e2 : (x == m) = false := by simpa using e
      rw [e2]
      by_cases hx : x > m
      · have : x ≥ m := by (first | exact Int.le_of_lt (by assumption) | lia | omega)
        simp [hx, this]; (first | (clear this hx e2 e hh h2 h1 hs ih; lia) | lia | omega)
      · have : ¬ x ≥ m := by (first | lia | omega)
        simp [hx, this]
theorem has_at {l : List Int} {m : Int} (hs : FallM m l) (h : has m l = true) : ∃ hk : cntP (fun w => decide (w > m)) l < l.length, l[cntP (fun w => decide (w > m)) l] = m := by
  unfold has at h
  obtain ⟨y, hy, e⟩ := List.any_eq_true.mp h
  have e : y = m := by simpa using e
  subst e
  obtain ⟨k, hk, hky⟩ := List.mem_iff_getElem.mp hy
  have h1 := fall_count hs
  have hng : ¬ l[k] > y := by (first | (subst_vars; lia) | lia | omega)
  have hle : cntP (fun w => decide (w > y)) l ≤ k := by
    rcases Nat.lt_or_ge k (cntP (fun w => decide (w > y)) l) with q | q
    · exact absurd ((h1 k hk).mpr q) hng
    · exact q
  refine ⟨by (first | exact Nat.lt_of_le_of_lt (by assumption) (by assumption) | lia | omega), ?_⟩
  rcases Nat.lt_or_ge (cntP (fun w => decide (w > y)) l) k with q | q
  · have := List.pairwise_iff_getElem.mp hs _ k (by (first | exact Nat.lt_of_le_of_lt (by assumption) (by assumption) | lia | omega)) hk q
    have h3 := (h1 _ (by (first | exact Nat.lt_of_le_of_lt (by assumption) (by assumption) | lia | omega) : cntP (fun w => decide (w > y)) l < l.length)).mp (by (first | (subst_vars; omega) | lia | omega))
    (first | lia | omega)
  · have e : cntP (fun w => decide (w > y)) l = k := by (first | lia | omega)
    have : l[cntP (fun w => decide (w > y)) l]'(by (first | exact Nat.lt_of_le_of_lt (by assumption) (by assumption) | lia | omega)) = l[k] := by congr
    rw [this, hky]

theorem sum_set : ∀ (l : List Int) (i : Nat) (h : i < l.length), (l.set i (l.getD i 0 + 1)).sum = l.sum + 1
  | [], i, h => by simp at h
  | x :: r, 0, _ => by simp [List.getD]; (first | lia | omega)
  | x :: r, i + 1, h => by
    have := sum_set r i (by simpa using h)
    rw [List.set_cons_succ, List.sum_cons, List.sum_cons]
    have e : (x :: r).getD (i + 1) 0 = r.getD i 0 := by simp [List.getD]
    rw [e, this]; (first | lia | omega)
noncomputable def hasTo (m : Int) (ws : List (List Int)) : Nat → Nat
  | 0 => 0
  | i + 1 => hasTo m ws i + (if has m (ws.getD i []) then 1 else 0)
theorem hasTo_succ {m ws i} : hasTo m ws (i + 1) = hasTo m ws i + (if has m (ws.getD i []) then 1 else 0) := rfl
theorem hasTo_mono {m ws} : ∀ {i j : Nat}, i ≤ j → hasTo m ws i ≤ hasTo m ws j
  | i, 0, h => by have : i = 0 := by (first | lia | omega)
                  subst this; exact Nat.le_refl _
  | i, j + 1, h => by
    by_cases e : i = j + 1
    · subst e; exact Nat.le_refl _
    · have := hasTo_mono (m := m) (ws := ws) (show i ≤ j by (first | lia | omega))
      rw [hasTo_succ]; (first | lia | omega)
theorem getD_set {l : List Int} {i j : Nat} {x : Int} (h : i < l.length) : (l.set i x).getD j 0 = if j = i then x else l.getD j 0 := by
  simp only [List.getD, List.getElem?_set]
  by_cases e : i = j
  · subst e; simp [h]
  · rw [if_neg e, if_neg (fun q => e q.symm)]
theorem min_step {s x : Int} {k : Nat} (h : min s (x + k) < s) : min s (x + k) + 1 = min s (x + ((k + 1 : Nat) : Int)) := by
  have h1 : x + k < s := Int.not_le.mp fun z => by rw [Int.min_eq_left z] at h; exact Int.lt_irrefl _ h
  rw [Int.min_eq_right (Int.le_of_lt h1), Int.natCast_add, ← Int.add_assoc]
  exact (Int.min_eq_right h1).symm
theorem min_full {s x : Int} {k : Nat} (h : ¬ min s (x + k) < s) : min s (x + k) = min s (x + ((k + 1 : Nat) : Int)) := by
  have h1 : s ≤ x + k := Int.not_lt.mp fun z => h (by rw [Int.min_eq_right (Int.le_of_lt z)]; exact z)
  rw [Int.min_eq_left h1, Int.min_eq_left (Int.le_trans h1 (Int.add_le_add_left (Int.ofNat_le.mpr (Nat.le_succ k)) x))]
theorem tieFold_spec {S : Nat} {ws : List (List Int)} {m : Int} {r : List Int} (hr : r.sum ≤ (S : Int)) : ∀ {i : Nat}, i ≤ r.length → (tieFold S ws m r i).sum = min (S : Int) (r.sum + hasTo m ws i) ∧
    ∀ j, (tieFold S ws m r i).getD j 0 = r.getD j 0 + (if j < i ∧ has m (ws.getD j []) = true ∧ r.sum + hasTo m ws j < (S : Int) then 1 else 0) := by
  intro i
  induction i with
  | zero => intro _; exact ⟨by show r.sum = min (S : Int) (r.sum + ((0 : Nat) : Int)); (first | lia | omega), fun j => by show r.getD j 0 = _; simp⟩
  | succ i ih =>
    intro hi
    obtain ⟨h1, h2⟩ := ih (by (first | exact Nat.le_of_lt (by assumption) | lia | omega))
    have hlen : (tieFold S ws m r i).length = r.length := tieFold_len
    rw [tieFold_succ]
    unfold tieStep
    by_cases hc : (tieFold S ws m r i).sum < (S : Int) ∧ has m (ws.getD i []) = true
    · rw [if_pos (by rw [hc.2]; simp [hc.1])]
      constructor
      · rw [sum_set _ _ (by (first | lia | omega)), h1]
        rw [hasTo_succ, if_pos hc.2]
        have := hc.1
        rw [h1] at this
        exact min_step this
      · intro j
        rw [getD_set (by (first | lia | omega))]
        by_cases e : j = i
        · subst e
          have := hc.1
          rw [if_pos rfl, h2 j, if_neg (by (first | (simp; done) | lia | omega)), if_pos ⟨by (first | exact Nat.le_refl _ | lia | omega), hc.2, by (first | lia | omega)⟩]
          (first | (simp; done) | lia | omega)
        · rw [if_neg e, h2 j]
          have : (j < i + 1) ↔ (j < i) := by (first | lia | omega)
          simp only [this]
    · rw [if_neg (by simpa using hc)]
      constructor
      · rw [hasTo_succ]
        by_cases hh : has m (ws.getD i []) = true
        · rw [if_pos hh]; have : ¬ (tieFold S ws m r i).sum < (S : Int) := fun q => hc ⟨q, hh⟩
          rw [h1] at this ⊢
          exact min_full this
        · rw [if_neg hh]; exact h1
      · intro j
        rw [h2 j]
        by_cases e : j = i
        · subst e
          rw [if_neg (by (first | (simp; done) | lia | omega)), if_neg]
          rintro ⟨_, q1, q2⟩
          exact hc ⟨by (first | (clear hlen h2 hi ih hr q1 hc; lia) | lia | omega), q1⟩
        · have : (j < i + 1) ↔ (j < i) := by (first | lia | omega)
          simp only [this]

theorem sum_deal (m : Int) : ∀ (n : Nat) (r0 : List Int) (ws : List (List Int)), r0.length = n → ws.length = n → (r1Of r0 ws m n).sum = r0.sum + (sumN (ws.map (cntP fun w => decide (w > m))) : Nat)
  | 0, r0, ws, h1, h2 => by
    have : r0 = [] := List.length_eq_zero_iff.mp h1
    subst this
    have : ws = [] := List.length_eq_zero_iff.mp h2
    subst this
    rfl
  | n + 1, [], _, h1, _ => by simp at h1
  | n + 1, _ :: _, [], _, h2 => by simp at h2
  | n + 1, x :: r, l :: ws, h1, h2 => by
    have ih := sum_deal m n r ws (by simpa using h1) (by simpa using h2)
    unfold r1Of at ih ⊢
    rw [List.range_succ_eq_map, List.map_cons, List.map_map, List.sum_cons]
    have e : ((fun i => (x :: r).getD i 0 + topI m ((l :: ws).getD i [])) ∘ Nat.succ) = fun i => r.getD i 0 + topI m (ws.getD i []) := by
      funext i; simp [List.getD]
    rw [e, ih, List.sum_cons, List.map_cons]
    show x + topI m l + _ = x + r.sum + ((cntP (fun w => decide (w > m)) l + sumN (ws.map (cntP fun w => decide (w > m))) : Nat) : Int)
    unfold topI cntP
    (first | (simp only [Int.natCast_add, Int.natCast_one] at *; lia) | lia | omega)
theorem hasTo_cons (m : Int) (l : List Int) (ws : List (List Int)) : ∀ i, hasTo m (l :: ws) (i + 1) = (if has m l then 1 else 0) + hasTo m ws i
  | 0 => by rw [hasTo_succ]; show 0 + _ = _ + 0; simp [List.getD]
  | i + 1 => by
    rw [hasTo_succ, hasTo_cons m l ws i, hasTo_succ]
    have : (l :: ws).getD (i + 1) [] = ws.getD i [] := by simp [List.getD]
    rw [this]; (first | lia | omega)
theorem ge_counts (m : Int) : ∀ (ws : List (List Int)), (∀ l ∈ ws, FallM m l) → sumN (ws.map (cntP fun w => decide (w ≥ m))) = sumN (ws.map (cntP fun w => decide (w > m))) + hasTo m ws ws.length
  | [], _ => rfl
  | l :: ws, h => by
    have ih := ge_counts m ws (fun k hk => h k (List.mem_cons_of_mem _ hk))
    have h1 := fall_ge (h l List.mem_cons_self)
    rw [List.length_cons, hasTo_cons, List.map_cons, List.map_cons]
    show _ + _ = _ + _ + _
    rw [h1, ih]
    (first | (clear h1 ih h; lia) | lia | omega)

structure Dealt (ws : List (List Int)) (r0 : List Int) (S : Nat) (m : Int) (a : List Int) : Prop where
  len : a.length = r0.length
  sum : a.sum = (S : Int)
  part : ∀ j, j < r0.length → ∃ x : Nat, a.getD j 0 = r0.getD j 0 + x ∧ (x = cntP (fun w => decide (w > m)) (ws.getD j []) ∨ (x = cntP (fun w => decide (w > m)) (ws.getD j []) + 1 ∧ has m (ws.getD j []) = true))
  order : ∀ i j, i < r0.length → j < r0.length → a.getD i 0 = r0.getD i 0 + cntP (fun w => decide (w > m)) (ws.getD i []) + 1 → a.getD j 0 = r0.getD j 0 + cntP (fun w => decide (w > m)) (ws.getD j []) → has m (ws.getD j []) = true → i < j
  some : ∃ i, i < r0.length ∧ a.getD i 0 = r0.getD i 0 + cntP (fun w => decide (w > m)) (ws.getD i []) + 1

theorem deal_ok {ws : List (List Int)} {r0 : List Int} {S : Nat} (hl : ws.length = r0.length) (hf : ∀ l ∈ ws, FallM (cutOf r0 (sortI ws.flatten) S) l) (h1 : r0.sum < (S : Int)) (h2 : (S : Int) - r0.sum ≤ ws.flatten.length) :
    Dealt ws r0 S (cutOf r0 (sortI ws.flatten) S) (tieFold S ws (cutOf r0 (sortI ws.flatten) S) (r1Of r0 ws (cutOf r0 (sortI ws.flatten) S) r0.length) r0.length) ∧
    (tieSeen S ws (cutOf r0 (sortI ws.flatten) S) (r1Of r0 ws (cutOf r0 (sortI ws.flatten) S) r0.length) r0.length = true ↔ ∃ j, j < r0.length ∧ has (cutOf r0 (sortI ws.flatten) S) (ws.getD j []) = true ∧
      (tieFold S ws (cutOf r0 (sortI ws.flatten) S) (r1Of r0 ws (cutOf r0 (sortI ws.flatten) S) r0.length) r0.length).getD j 0 = r0.getD j 0 + cntP (fun w => decide (w > cutOf r0 (sortI ws.flatten) S)) (ws.getD j [])) := by
  obtain ⟨T, hT⟩ : ∃ T : Nat, (T : Int) = S - r0.sum := ⟨((S : Int) - r0.sum).toNat, by (first | (clear h2 hf hl; omega) | lia | omega)⟩
  have hsl := sortI_len ws.flatten
  have hcut : cutOf r0 (sortI ws.flatten) S = (sortI ws.flatten).getD ((sortI ws.flatten).length - T) 0 := cut_at hT h1
  have hc := cut_counts (sortI_sorted ws.flatten) (T := T) (by (first | lia | omega)) (by (first | lia | omega))
  rw [← hcut] at hc
  rw [cntP_perm (sortI_perm _), cntP_perm (sortI_perm _), cntP_flatten, cntP_flatten, ge_counts _ _ hf] at hc
  generalize cutOf r0 (sortI ws.flatten) S = m at *
  have hs1 := sum_deal m r0.length r0 ws rfl hl
  have hl1 : (r1Of r0 ws m r0.length).length = r0.length := by unfold r1Of; simp
  have hg : ∀ j, j < r0.length → (r1Of r0 ws m r0.length).getD j 0 = r0.getD j 0 + cntP (fun w => decide (w > m)) (ws.getD j []) := by
    intro j hj
    unfold r1Of
    simp only [List.getD, List.getElem?_map, List.getElem?_range hj]
    rfl
  rw [hl] at hc
  generalize hG : sumN (ws.map (cntP fun w => decide (w > m))) = G at *
  generalize hr1 : r1Of r0 ws m r0.length = r1 at *
  have key : ∀ {i : Nat}, i ≤ r1.length → _ := fun {i} => tieFold_spec (S := S) (ws := ws) (m := m) (r := r1) (by (first | lia | omega)) (i := i)
  have kn := key (i := r0.length) (by (first | lia | omega))
  refine ⟨⟨by rw [tieFold_len, hl1], by rw [kn.1]; (first | lia | omega), fun j hj => ?_, fun i j hi hj e1 e2 hh => ?_, ?_⟩, ?_⟩
  · rw [kn.2 j, hg j hj]
    set_option tactic.hygienic true in split
    · rename_i q; exact ⟨_, by (first | (simp only [Int.natCast_add, Int.natCast_one] at *; lia) | lia | omega), .inr ⟨rfl, q.2.1⟩⟩
    · exact ⟨_, by (first | (simp; done) | lia | omega), .inl rfl⟩
  · rw [kn.2 i, hg i hi] at e1
    rw [kn.2 j, hg j hj] at e2
    have q1 : i < r0.length ∧ has m (ws.getD i []) = true ∧ r1.sum + hasTo m ws i < (S : Int) := by
      by_cases q : i < r0.length ∧ has m (ws.getD i []) = true ∧ r1.sum + hasTo m ws i < (S : Int)
      · exact q
      · rw [if_neg q] at e1; (first | lia | omega)
    have q2 : ¬ (j < r0.length ∧ has m (ws.getD j []) = true ∧ r1.sum + hasTo m ws j < (S : Int)) := by
      intro q; rw [if_pos q] at e2; (first | lia | omega)
    rcases Nat.lt_or_ge i j with q | q
    · exact q
    · have := hasTo_mono (m := m) (ws := ws) q
      exact absurd ⟨hj, hh, by (first | (clear q q2 hh e2 e1 hj kn key hg hl1 hr1 hc hG hcut hf hsl hT h2 h1 hl hs1; lia) | lia | omega)⟩ q2
  · -- the first that has m is served
    have ex : ∀ n, 0 < hasTo m ws n → ∃ i, i < n ∧ has m (ws.getD i []) = true ∧ hasTo m ws i = 0 := by
      intro n
      induction n with
      | zero => intro h; exact absurd h (Nat.lt_irrefl 0)
      | succ n ih =>
        intro h
        by_cases q : 0 < hasTo m ws n
        · obtain ⟨i, h1, h2⟩ := ih q; exact ⟨i, by (first | exact Nat.lt_succ_of_lt (by assumption) | lia | omega), h2⟩
        · rw [hasTo_succ] at h
          refine ⟨n, by (first | exact Nat.le_refl _ | lia | omega), ?_, by (first | lia | omega)⟩
          by_cases qq : has m (ws.getD n []) = true
          · exact qq
          · rw [if_neg qq] at h; (first | lia | omega)
    obtain ⟨i, i1, i2, i3⟩ := ex r0.length (by (first | (clear ex kn key hs1 hg hl1 hr1 hG hcut hf hsl h2 h1 hl hT; lia) | lia | omega))
    refine ⟨i, i1, ?_⟩
    rw [kn.2 i, hg i i1, if_pos ⟨i1, i2, by (first | lia | omega)⟩]
  · unfold tieSeen
    rw [List.any_eq_true]
    constructor
    · rintro ⟨j, hj, q⟩
      have hj := List.mem_range.mp hj
      simp only [Bool.and_eq_true, beq_iff_eq] at q
      refine ⟨j, hj, q.2, ?_⟩
      rw [kn.2 j, hg j hj, if_neg]
      · (first | (simp; done) | lia | omega)
      · rintro ⟨_, _, z⟩
        have := (key (i := j) (by (first | lia | omega))).1
        (first | (clear hj kn key hg hl1 hr1 hc hG hcut hf hsl hT h2 h1 hl; lia) | lia | omega)
    · rintro ⟨j, hj, q1, q2⟩
      refine ⟨j, List.mem_range.mpr hj, ?_⟩
      simp only [Bool.and_eq_true, beq_iff_eq]
      refine ⟨?_, q1⟩
      rw [(key (i := j) (by (first | lia | omega))).1]
      rw [kn.2 j, hg j hj] at q2
      by_cases q : r1.sum + hasTo m ws j < (S : Int)
      · rw [if_pos ⟨hj, q1, q⟩] at q2; (first | (clear q q1 hj kn key hs1 hg hl1 hr1 hc hG hcut hf hsl hT h2 h1 hl; omega) | lia | omega)
      · (first | lia | omega)
end Mine
end

section
set_option tactic.hygienic false
set_option linter.unusedVariables false
namespace Mine

theorem getD_lt {l : List Int} {k : Nat} (h : k < l.length) : l.getD k 0 = l[k] := by rw [List.getD, List.getElem?_eq_getElem h]; rfl
theorem getD_ltL {l : List (List Int)} {k : Nat} (h : k < l.length) : l.getD k [] = l[k] := by rw [List.getD, List.getElem?_eq_getElem h]; rfl

theorem dealt_stable {ws : List (List Int)} {r0 : List Int} {S : Nat} {m : Int} {a : List Int} (D : Dealt ws r0 S m a) (hl : ws.length = r0.length) (hf : ∀ l ∈ ws, FallM m l) {i j x y : Nat} (hi : i < r0.length) (hj : j < r0.length)
    (ai : a.getD i 0 = r0.getD i 0 + (x : Nat) + 1) (aj : a.getD j 0 = r0.getD j 0 + (y : Nat)) (hy : y < (ws.getD j []).length) :
    (ws.getD i []).getD x 0 > (ws.getD j []).getD y 0 ∨ ((ws.getD i []).getD x 0 = (ws.getD j []).getD y 0 ∧ i < j ∧ has m (ws.getD j []) = true ∧ a.getD j 0 = r0.getD j 0 + cntP (fun w => decide (w > m)) (ws.getD j [])) := by
  have fi : FallM m (ws.getD i []) := by rw [getD_ltL (by (first | lia | omega))]; exact hf _ (List.getElem_mem _)
  have fj : FallM m (ws.getD j []) := by rw [getD_ltL (by (first | lia | omega))]; exact hf _ (List.getElem_mem _)
  obtain ⟨x', e1, hx⟩ := D.part i hi
  obtain ⟨y', e2, hy'⟩ := D.part j hj
  have ex : x' = x + 1 := by (first | lia | omega)
  have ey : y' = y := by (first | lia | omega)
  subst ex; subst ey
  have ci := fall_count fi
  have cj := fall_count fj
  have li := cntP_le (p := fun w => decide (w > m)) (a := ws.getD i [])
  have oi := D.order i j hi hj
  generalize ws.getD i [] = wi at *
  generalize ws.getD j [] = wj at *
  rw [getD_lt hy]
  rcases hx with hx | ⟨hx, hxh⟩
  · have hxl : x < wi.length := by (first | lia | omega)
    rw [getD_lt hxl]
    have h1 := (ci x hxl).mpr (by (first | lia | omega))
    rcases hy' with hy2 | ⟨hy2, hyh⟩
    · have h2 : ¬ wj[y'] > m := fun q => by have := (cj y' hy).mp q; (first | (subst_vars; lia) | lia | omega)
      exact .inl (by (first | lia | omega))
    · have h2 : ¬ wj[y'] > m := fun q => by have := (cj y' hy).mp q; (first | (subst_vars; lia) | lia | omega)
      exact .inl (by (first | lia | omega))
  · obtain ⟨hk, hkm⟩ := has_at fi hxh
    have e : x = cntP (fun w => decide (w > m)) wi := by (first | (clear hkm hk hxh oi cj hy hy' fj li ci fi aj e1 e2 ai hj hi hf hl D; lia) | lia | omega)
    have h1 : wi.getD x 0 = m := by rw [e, getD_lt hk, hkm]
    rw [h1]
    rcases hy' with hy2 | ⟨hy2, hyh⟩
    · have h2 : ¬ wj[y'] > m := fun q => by have := (cj y' hy).mp q; (first | lia | omega)
      by_cases q : wj[y'] = m
      · have hh : has m wj = true := by
          unfold has; rw [List.any_eq_true]; exact ⟨_, List.getElem_mem hy, by simpa using q⟩
        exact .inr ⟨q.symm, oi (by (first | lia | omega)) (by (first | (subst_vars; omega) | lia | omega)) hh, hh, by (first | (subst_vars; omega) | lia | omega)⟩
      · exact .inl (by (first | lia | omega))
    · obtain ⟨hk2, hkm2⟩ := has_at fj hyh
      have := List.pairwise_iff_getElem.mp fj _ y' hk2 hy (by (first | (clear hkm2 hk2 hyh h1 e hkm hk hxh hx oi cj hy fj li ci fi aj e1 e2 ai hj hi hf hl D; omega) | lia | omega))
      exact .inl (by (first | (clear hyh hy2 h1 e hkm hk hxh hx oi cj fj li ci fi aj e1 e2 ai hj hi hf hl D; omega) | lia | omega))
theorem dealt_tie {ws : List (List Int)} {r0 : List Int} {S : Nat} {m : Int} {a : List Int} (D : Dealt ws r0 S m a) (hl : ws.length = r0.length) (hf : ∀ l ∈ ws, FallM m l) :
    (∃ j, j < r0.length ∧ has m (ws.getD j []) = true ∧ a.getD j 0 = r0.getD j 0 + cntP (fun w => decide (w > m)) (ws.getD j [])) ↔
    ∃ i j x y : Nat, i < r0.length ∧ j < r0.length ∧ a.getD i 0 = r0.getD i 0 + (x : Nat) + 1 ∧ a.getD j 0 = r0.getD j 0 + (y : Nat) ∧ y < (ws.getD j []).length ∧ (ws.getD i []).getD x 0 = (ws.getD j []).getD y 0 := by
  constructor
  · rintro ⟨j, hj, hh, aj⟩
    obtain ⟨i, hi, ai⟩ := D.some
    have fi : FallM m (ws.getD i []) := by rw [getD_ltL (by (first | lia | omega))]; exact hf _ (List.getElem_mem _)
    have fj : FallM m (ws.getD j []) := by rw [getD_ltL (by (first | lia | omega))]; exact hf _ (List.getElem_mem _)
    obtain ⟨hk, hkm⟩ := has_at fj hh
    refine ⟨i, j, cntP (fun w => decide (w > m)) (ws.getD i []), cntP (fun w => decide (w > m)) (ws.getD j []), hi, hj, ai, aj, hk, ?_⟩
    have hhi : has m (ws.getD i []) = true := by
      obtain ⟨x', e1, hx⟩ := D.part i hi
      rcases hx with hx | ⟨_, hx⟩
      · (first | (clear hkm hk fj fi hi aj hh hj hf hl D; omega) | lia | omega)
      · exact hx
    obtain ⟨hk2, hkm2⟩ := has_at fi hhi
    rw [getD_lt hk, hkm, getD_lt hk2, hkm2]
  · rintro ⟨i, j, x, y, hi, hj, ai, aj, hy, e⟩
    rcases dealt_stable D hl hf hi hj ai aj hy with q | ⟨_, _, q1, q2⟩
    · (first | lia | omega)
    · exact ⟨j, hj, q1, q2⟩

noncomputable def pw (r : Rule) (p : Int) : Int := if isHill r then p * p else p
theorem pw_pos {r p} (h : 0 < p) : 0 < pw r p := by unfold pw; split; exact Int.mul_pos h h; exact h
theorem wt_eq {r c p d} : wt r c p d = (pw r p * d.2 * c).fdiv d.1 := by unfold wt pw; split <;> rfl
theorem common_dvd {ds : List (Int × Int)} {d} (h : d ∈ ds) : ∃ e, common ds = d.1 * e := by
  have key : ∀ (ds : List (Int × Int)) (c : Int), ∃ e, ds.foldl (fun c d => c * d.1) c = c * e := by
    intro ds
    induction ds with
    | nil => intro c; exact ⟨1, by simp⟩
    | cons x r ih => intro c; obtain ⟨e, he⟩ := ih (c * x.1); exact ⟨x.1 * e, by rw [List.foldl_cons, he, Int.mul_assoc]⟩
  have key2 : ∀ (ds : List (Int × Int)) (c : Int), d ∈ ds → ∃ e, ds.foldl (fun c d => c * d.1) c = d.1 * e := by
    intro ds
    induction ds with
    | nil => intro c h; cases h
    | cons x r ih =>
      intro c h
      rcases List.mem_cons.mp h with rfl | h
      · obtain ⟨e, he⟩ := key r (c * d.1); exact ⟨c * e, by rw [List.foldl_cons, he, Int.mul_comm c, Int.mul_assoc]⟩
      · exact ih _ h
  exact key2 ds 1 h
theorem wt_mul {ds : List (Int × Int)} (hd : DivsOk ds) {r p d} (h : d ∈ ds) : wt r (common ds) p d * d.1 = pw r p * d.2 * common ds := by
  obtain ⟨e, he⟩ := common_dvd h
  have h0 := (hd d h).1
  rw [wt_eq, he]
  have : pw r p * d.2 * (d.1 * e) = d.1 * (pw r p * d.2 * e) := by
    rw [← Int.mul_assoc, Int.mul_comm (pw r p * d.2) d.1, Int.mul_assoc]
  rw [this, Int.mul_fdiv_cancel_left _ (by (first | lia | omega)), Int.mul_comm]
theorem wt_lt {ds : List (Int × Int)} (hd : DivsOk ds) {r p q d e} (h : d ∈ ds) (k : e ∈ ds) : wt r (common ds) p d > wt r (common ds) q e ↔ pw r p * d.2 * e.1 > pw r q * e.2 * d.1 := by
  have h1 := wt_mul hd (r := r) (p := p) h
  have h2 := wt_mul hd (r := r) (p := q) k
  have hc := (common_ok hd).1
  have d0 := (hd d h).1
  have e0 := (hd e k).1
  generalize wt r (common ds) p d = x at *
  generalize wt r (common ds) q e = y at *
  generalize common ds = c at *
  generalize hP : pw r p * d.2 = P at *
  generalize hQ : pw r q * e.2 = Q at *
  have f1 : x * (d.1 * e.1) = P * e.1 * c := by rw [← Int.mul_assoc, h1, Int.mul_assoc, Int.mul_comm c, ← Int.mul_assoc]
  have f2 : y * (d.1 * e.1) = Q * d.1 * c := by rw [Int.mul_comm d.1, ← Int.mul_assoc, h2, Int.mul_assoc, Int.mul_comm c, ← Int.mul_assoc]
  have hde := Int.mul_pos d0 e0
  constructor
  · intro g
    have : y * (d.1 * e.1) < x * (d.1 * e.1) := Int.mul_lt_mul_of_pos_right g hde
    rw [f1, f2] at this
    exact Int.lt_of_mul_lt_mul_right this (Int.le_of_lt hc)
  · intro g
    have : Q * d.1 * c < P * e.1 * c := Int.mul_lt_mul_of_pos_right g hc
    rw [← f1, ← f2] at this
    exact Int.lt_of_mul_lt_mul_right this (Int.le_of_lt hde)
theorem eq_of_gts {x y a b : Int} (h1 : x > y ↔ a > b) (h2 : y > x ↔ b > a) : x = y ↔ a = b :=
  ⟨fun e => Int.le_antisymm (Int.not_lt.mp fun z => Int.ne_of_lt (h1.mpr z) e.symm) (Int.not_lt.mp fun z => Int.ne_of_lt (h2.mpr z) e),
   fun e => Int.le_antisymm (Int.not_lt.mp fun z => Int.ne_of_lt (h1.mp z) e.symm) (Int.not_lt.mp fun z => Int.ne_of_lt (h2.mp z) e)⟩
theorem wt_eqv {ds : List (Int × Int)} (hd : DivsOk ds) {r p q d e} (h : d ∈ ds) (k : e ∈ ds) : wt r (common ds) p d = wt r (common ds) q e ↔ pw r p * d.2 * e.1 = pw r q * e.2 * d.1 := by
  exact eq_of_gts (wt_lt hd (r := r) (p := p) (q := q) h k) (wt_lt hd (r := r) (p := q) (q := p) k h)

theorem dv_fall : ∀ r : Rule, ∀ l, l < 20 → ∀ k, k < l → (dv r k).2 * (dv r l).1 > (dv r l).2 * (dv r k).1 := by
  intro r; cases r <;> decide +kernel

noncomputable def free : Rule → Nat
  | .jeff => 0
  | .web => 0
  | .modi => 0
  | _ => 1
theorem wsOf_get {r c ds v} {i : Nat} (hi : i < v.length) : (wsOf r c ds v).getD i [] = ds.map (wt r c (v.getD i 0)) := by
  unfold wsOf
  rw [List.getD, List.getElem?_map, List.getElem?_eq_getElem hi, getD_lt hi]; rfl
theorem sum_one {l : List Int} : (∀ x ∈ l, 0 ≤ x) → 0 ≤ l.sum ∧ ∀ j, j < l.length → l.getD j 0 ≤ l.sum := by
  induction l with
  | nil => exact fun z_ => ⟨Int.le_refl _, fun j hj => absurd hj (Nat.not_lt_zero j)⟩
  | cons y q ih =>
    intro hq
    have := ih (fun z hz => hq z (List.mem_cons_of_mem _ hz))
    have hy := hq y List.mem_cons_self
    rw [List.sum_cons]
    refine ⟨Int.add_nonneg hy this.1, fun j hj => ?_⟩
    cases j with
    | zero => exact Int.le_add_of_nonneg_right this.1
    | succ j => exact Int.le_trans (this.2 j (Nat.lt_of_succ_lt_succ hj)) (Int.le_add_of_nonneg_left hy)
theorem sum_two (l : List Int) : (∀ x ∈ l, 0 ≤ x) → ∀ i j, i < j → j < l.length → l.getD i 0 + l.getD j 0 ≤ l.sum := by
  induction l with
  | nil => exact fun z_ i j z_ h => absurd h (Nat.not_lt_zero j)
  | cons x r ih =>
    intro h i j hij hj
    have h' : ∀ z ∈ r, 0 ≤ z := fun z hz => h z (List.mem_cons_of_mem _ hz)
    rw [List.sum_cons]
    cases j with
    | zero => exact absurd hij (Nat.not_lt_zero i)
    | succ j =>
      have hj := Nat.lt_of_succ_lt_succ hj
      cases i with
      | zero => exact Int.add_le_add_left ((sum_one h').2 j hj) x
      | succ i => exact Int.le_trans (ih h' i j (Nat.lt_of_succ_lt_succ hij) hj) (Int.le_add_of_nonneg_left (h x List.mem_cons_self))

noncomputable def TieAt (r : Rule) (v a : List Int) : Prop := ∃ i j x y : Nat, i < v.length ∧ j < v.length ∧ i ≠ j ∧ a.getD i 0 = (free r + x + 1 : Nat) ∧ a.getD j 0 = (free r + y : Nat) ∧
  pw r (v.getD i 0) * (dv r x).2 * (dv r y).1 = pw r (v.getD j 0) * (dv r y).2 * (dv r x).1

theorem cntP_mem {p : Int → Bool} {l : List Int} : ∀ {ws : List (List Int)}, l ∈ ws → cntP p l ≤ cntP p ws.flatten
  | w :: ws, h => by
    rw [List.flatten_cons, cntP_append]
    rcases List.mem_cons.mp h with rfl | h
    · exact Nat.le_add_right _ _
    · exact Nat.le_trans (cntP_mem h) (Nat.le_add_left _ _)
theorem div_setup {r : Rule} {v : List Int} {S : Nat} (hp : ∀ p ∈ v, 0 ≤ p) (hpe : ∃ p ∈ v, 0 < p) (hS : S ≤ 20) (hgt : (S : Int) > (base r v).sum) :
    0 < divM r v S ∧ (divW r v S).length = (base r v).length ∧ (∀ l ∈ divW r v S, FallM (divM r v S) l) ∧ Dealt (divW r v S) (base r v) S (divM r v S) (divF r v S) ∧
    (divTie r v S = true ↔ ∃ j, j < (base r v).length ∧ has (divM r v S) ((divW r v S).getD j []) = true ∧ (divF r v S).getD j 0 = (base r v).getD j 0 + cntP (fun w => decide (w > divM r v S)) ((divW r v S).getD j [])) ∧
    (∀ i, i < v.length → ((divW r v S).getD i []).length = S) ∧
    ∀ i j k l, i < v.length → j < v.length → k < S → l < S → (((divW r v S).getD i []).getD k 0 > ((divW r v S).getD j []).getD l 0 ↔ pw r (v.getD i 0) * (dv r k).2 * (dv r l).1 > pw r (v.getD j 0) * (dv r l).2 * (dv r k).1) ∧
      (((divW r v S).getD i []).getD k 0 = ((divW r v S).getD j []).getD l 0 ↔ pw r (v.getD i 0) * (dv r k).2 * (dv r l).1 = pw r (v.getD j 0) * (dv r l).2 * (dv r k).1) := by
  have hbl := base_len r v
  have hb0 := (base_sum r v).1
  have hn : 1 ≤ v.length := by obtain ⟨p, hm, _⟩ := hpe; exact List.length_pos_of_mem hm
  have hS1 : 1 ≤ S := by clear hp hpe hn hS hbl; (first | lia | omega)
  have hdo := divsOk r S (Nat.le_trans hS (by decide))
  have hdl := divs_len r S hS1
  have hwl : (divW r v S).length = (base r v).length := by unfold divW wsOf; rw [List.length_map, hbl]
  have hfl : (divW r v S).flatten.length = v.length * S := by unfold divW; rw [flat_len, hdl]
  have hge : ∀ k (hk : k < S), (divs r S)[k]'(Nat.lt_of_lt_of_eq hk hdl.symm) = dv r k := by
    intro k hk
    have : (divs r S)[k]? = some (dv r k) := by rw [divs_eq r hS1, List.getElem?_map, List.getElem?_range hk]; rfl
    rw [List.getElem?_eq_getElem (Nat.lt_of_lt_of_eq hk hdl.symm)] at this; exact Option.some.inj this
  have hmem : ∀ k, k < S → dv r k ∈ divs r S := fun k hk => by rw [← hge k hk]; exact List.getElem_mem _
  have hle : S ≤ v.length * S := Nat.le_mul_of_pos_left _ hn
  have hm0 : 0 < divM r v S := by
    obtain ⟨T, hT⟩ : ∃ T : Nat, (T : Int) = S - (base r v).sum := ⟨((S : Int) - (base r v).sum).toNat, by (first | (clear hle hmem hge hfl hwl hdl hdo hS1 hn hb0 hbl hS hp hpe; omega) | lia | omega)⟩
    have hsl := sortI_len (divW r v S).flatten
    have hcut : divM r v S = (sortI (divW r v S).flatten).getD ((sortI (divW r v S).flatten).length - T) 0 := by
      exact cut_at hT (by omega)
    have hc := (cut_counts (sortI_sorted (divW r v S).flatten) (T := T) (by (first | lia | omega)) (by (first | lia | omega))).1
    rw [← hcut, cntP_perm (sortI_perm _)] at hc
    obtain ⟨p, hpm, hp0⟩ := hpe
    have hin : (divs r S).map (wt r (common (divs r S)) p) ∈ divW r v S := List.mem_map.mpr ⟨p, hpm, rfl⟩
    have hge2 := cntP_mem (p := fun w => decide (w > divM r v S)) hin
    rcases Int.lt_or_le 0 (divM r v S) with q | q
    · exact q
    · have hall : cntP (fun w => decide (w > divM r v S)) ((divs r S).map (wt r (common (divs r S)) p)) = S := by
        rw [cntP_all, List.length_map, hdl]
        intro x hx
        obtain ⟨d, hd, rfl⟩ := List.mem_map.mp hx
        have h1 := wt_mul hdo (r := r) (p := p) hd
        have h2 := Int.mul_pos (Int.mul_pos (pw_pos (r := r) hp0) (hdo d hd).2.2.1) (common_ok hdo).1
        rw [← h1] at h2
        have h3 := Int.pos_of_mul_pos_left h2 (hdo d hd).1
        exact decide_eq_true (Int.lt_of_le_of_lt q h3)
      (first | lia | omega)
  have hfall : ∀ l ∈ divW r v S, FallM (divM r v S) l := by
    intro l hl
    unfold divW wsOf at hl
    obtain ⟨p, hpv, rfl⟩ := List.mem_map.mp hl
    refine List.pairwise_iff_getElem.mpr ?_
    intro k l hk hl hkl
    rw [List.length_map, hdl] at hk hl
    rw [List.getElem_map, List.getElem_map, hge k hk, hge l hl]
    rcases Int.lt_or_eq_of_le (hp p hpv) with hp0 | hp0
    · refine .inl ((wt_lt hdo (hmem k hk) (hmem l hl)).mpr ?_)
      have := dv_fall r l (Nat.lt_of_lt_of_le hl hS) k hkl
      rw [Int.mul_assoc, Int.mul_assoc]
      exact Int.mul_lt_mul_of_pos_left this (pw_pos hp0)
    · rw [← hp0]
      have z : ∀ d : Int × Int, wt r (common (divs r S)) 0 d = 0 := fun d => by unfold wt; split <;> simp
      rw [z, z]
      exact .inr ⟨Int.le_refl _, hm0⟩
  have h := deal_ok (ws := divW r v S) (r0 := base r v) (S := S) hwl hfall hgt (by rw [hfl]; generalize v.length * S = z at hle; clear hfl hfall hmem hge hwl hbl hdl hn; (first | lia | omega))
  have e1 : divR1 r v S = r1Of (base r v) (divW r v S) (divM r v S) (base r v).length := by rw [hbl]; exact if_pos hgt
  have e2 : divF r v S = tieFold S (divW r v S) (divM r v S) (r1Of (base r v) (divW r v S) (divM r v S) (base r v).length) (base r v).length := by unfold divF; rw [e1, hbl]
  have e3 : divTie r v S = tieSeen S (divW r v S) (divM r v S) (r1Of (base r v) (divW r v S) (divM r v S) (base r v).length) (base r v).length := by unfold divTie; rw [e1, hbl, decide_eq_true hgt, Bool.true_and]
  have e4 : divM r v S = cutOf (base r v) (sortI (divW r v S).flatten) S := rfl
  rw [← e4, ← e2, ← e3] at h
  have hw : ∀ {i k}, i < v.length → k < S → ((divW r v S).getD i []).getD k 0 = wt r (common (divs r S)) (v.getD i 0) (dv r k) := by
    intro i k hi hk
    unfold divW
    rw [wsOf_get hi, List.getD, List.getElem?_map, List.getElem?_eq_getElem (Nat.lt_of_lt_of_eq hk hdl.symm), hge k hk]; rfl
  refine ⟨hm0, hwl, hfall, h.1, h.2, fun i hi => by unfold divW; rw [wsOf_get hi, List.length_map, hdl], fun i j k l hi hj hk hl => ?_⟩
  rw [hw hi hk, hw hj hl]
  exact ⟨wt_lt hdo (hmem k hk) (hmem l hl), wt_eqv hdo (hmem k hk) (hmem l hl)⟩
theorem two_le {l : List Int} {f S : Nat} (hs : l.sum = (S : Int)) (ge : ∀ i, i < l.length → (f : Int) ≤ l.getD i 0) {i j : Nat} (hi : i < l.length) (hj : j < l.length) (hne : i ≠ j) : l.getD i 0 + l.getD j 0 ≤ (S : Int) := by
  have nn : ∀ x ∈ l, 0 ≤ x := fun x hx => by
    obtain ⟨i, hi, rfl⟩ := List.mem_iff_getElem.mp hx
    have := ge i hi
    rw [getD_lt hi] at this; exact Int.le_trans (Int.natCast_nonneg f) this
  rw [← hs]
  rcases Nat.lt_or_ge i j with q | q
  · exact sum_two _ nn i j q hj
  · have := sum_two _ nn j i (Nat.lt_of_le_of_ne q (Ne.symm hne)) hi
    rw [Int.add_comm]; exact this
end Mine
end

section
set_option tactic.hygienic false
open PySem PySem.W PyProof.Rows PySem.Calls PySem.SeqAt
set_option linter.unusedVariables false
set_option maxRecDepth 100000
namespace Mine

section
variable {W : Wk} {A : Around} {hid : PMap} {env : Env} {vars : Vars} {mu : Mu} {K : Out → Prop}

theorem seen_mono {S : Nat} {ws : List (List Int)} {m : Int} {r : List Int} {i j : Nat} (h : i ≤ j) (e : tieSeen S ws m r i = true) : tieSeen S ws m r j = true := by
  unfold tieSeen at *
  obtain ⟨k, hk, q⟩ := List.any_eq_true.mp e
  exact List.any_eq_true.mpr ⟨k, List.mem_range.mpr (Nat.lt_of_lt_of_le (List.mem_range.mp hk) h), q⟩
theorem tieFold_go {S : Nat} {ws : List (List Int)} {m : Int} {r : List Int} {i : Nat} {b : Bool} (e : (decide ((tieFold S ws m r i).sum < (S : Int)) && has m (ws.getD i [])) = b) :
    tieFold S ws m r (i + 1) = if b = true then (tieFold S ws m r i).set i ((tieFold S ws m r i).getD i 0 + 1) else tieFold S ws m r i := by
  rw [tieFold_succ]; unfold tieStep; rw [e]

set_option maxHeartbeats 400000 in
noncomputable abbrev LoopK (C : Addr) (votes : List Int) (S : Nat) (ta : Bool) (ws : List (List Int)) (D : Addr) (r1 : List Int) (m : Int) : Out → Prop := fun o => (∃ b, (ta = false → tieSeen S ws m r1 votes.length = false ∧ b = false) ∧ o = .next (vE votes S ta b D ws m) [(D, (tieFold S ws m r1 votes.length).map .int)]) ∨ (ta = false ∧ tieSeen S ws m r1 votes.length = true ∧ ∃ v mm, o = .exc (.ref C) v mm)
noncomputable abbrev LoopJ (votes : List Int) (S : Nat) (ta : Bool) (ws : List (List Int)) (D : Addr) (r1 : List Int) (m : Int) : Nat → Vars → Mu → Prop := fun i v mm => ∃ b, (ta = false → tieSeen S ws m r1 i = false ∧ b = false) ∧ v = vE votes S ta b D ws m ∧ mm = [(D, (tieFold S ws m r1 i).map .int)]
noncomputable abbrev LoopT (C : Addr) (votes : List Int) (S : Nat) (ta : Bool) (ws : List (List Int)) (D : Addr) (r1 : List Int) (m : Int) (i : Nat) : Out → Prop := fun o => (∃ b v', (ta = false → tieSeen S ws m r1 (i + 1) = false ∧ b = false) ∧ o = .next v' [(D, (tieFold S ws m r1 i).map .int)] ∧ Sub (("i", .int (i : Int)) :: vE votes S ta b D ws m) v') ∨ (ta = false ∧ tieSeen S ws m r1 votes.length = true ∧ ∃ v mm, o = .exc (.ref C) v mm)
theorem div_loopG {a L C : Addr} {dV kV doc pm an cdv ct} {votes : List Int} {S : Nat} {ta : Bool} {ws : List (List Int)} {D : Addr} {r1 : List Int} {m : Int} {outer} (N : Names W) (X : ta = false → OwnX W "TiesException" C) (ao : AOk W A 0) (FX : ta = false → tieSeen S ws m r1 votes.length = true → FrX A hid (dEnv p1 a L dV kV doc pm an cdv ct) outer)
    (hv : votes.length ≤ 100) (hr1 : r1.length = votes.length) (hws : ws.length = votes.length) (hlt : r1.sum < (S : Int))
    (hs : ∀ x, (scopeOf p1 "divisor").names.lookup x = some .local ∨ (scopeOf p1 "divisor").names.lookup x = some .cell → Sto hid (dEnv p1 a L dV kV doc pm an cdv ct) x) :
    Ex1 W A hid (dEnv p1 a L dV kV doc pm an cdv ct) (vE votes S ta false D ws m) [(D, r1.map .int)] ((bodyOf p1 "divisor").getD 4 (.Pass default))
      (LoopK C votes S ta ws D r1 m) := by
  have E : EnvOk (dEnv p1 a L dV kV doc pm an cdv ct) := ⟨rfl, rfl, rfl⟩
  have loc : ∀ {D : Addr} {r : List PV} {mm : Mu}, AsList ((D, r) :: mm) (.loc D) r := fun {D r mm} => .inr ⟨D, rfl, .head _⟩
  refine ex_if (x := decide ((S : Int) > r1.sum)) (tr_cmp (ev_name rfl rfl) (ev_sum N E ao.handled (ev_name rfl rfl) loc rfl rfl) rfl c_gt) (fun z_ => ?_) (fun e => absurd hlt (of_decide_eq_false e))
  refine exs_cons (ex_forG (K := LoopK C votes S ta ws D r1 m)
    (d := .rng 0 (votes.length : Int)) (its := (List.range votes.length).map fun (i : Nat) => PV.int (i : Int)) (LoopJ votes S ta ws D r1 m) ?_ ao.handled ?_ (fun z_ z_ z_ z_ => src_rng (Nat.lt_of_le_of_lt hv (by decide))) ⟨false, fun z_ => ⟨rfl, rfl⟩, rfl, rfl⟩ (hs _ (.inl rfl)) rfl rfl (fun z_ => rfl) ?_ ?_) ?_ (fun o e hn => e)
  · by_cases h : ta = false ∧ tieSeen S ws m r1 votes.length = true
    · exact .inl ⟨outer, FX h.1 h.2⟩
    · refine .inr fun x v m q => ?_
      rcases q with ⟨_, _, e⟩ | ⟨h1, h2, _⟩
      · cases e
      · exact h ⟨h1, h2⟩
  · rw [show ((votes.length : Nat) : Int) = ((votes.map PV.int).length : Nat) by rw [List.length_map]]
    exact ev_range1 N E (ev_len N E (ev_name rfl rfl) AsList.list (by rw [List.length_map]; exact Nat.lt_of_le_of_lt hv (by decide)) rfl rfl) rfl rfl
  · rintro hid' i v mm x hsto hfx hx ⟨b, hb, rfl, rfl⟩
    rw [List.getElem?_map] at hx
    obtain ⟨i', hi1, rfl⟩ := Option.map_eq_some_iff.mp hx
    have hlt' := lt_of_get hi1
    rw [List.length_range] at hlt'
    rw [List.getElem?_range hlt'] at hi1
    cases hi1
    have hlen : (tieFold S ws m r1 i).length = votes.length := by rw [tieFold_len, hr1]
    have hle5 : votes.length ≤ 100000 := Nat.le_trans hv (by decide)
    have hwl : i < ws.length := by rw [hws]; exact hlt'
    have hfl : i < (tieFold S ws m r1 i).length := by rw [hlen]; exact hlt'
    have hsucc := tieSeen_succ (S := S) (ws := ws) (m := m) (r := r1) (n := i)
    refine exs_cons (K' := LoopT C votes S ta ws D r1 m i)
      (ex_if (x := ((tieFold S ws m r1 i).sum == (S : Int)) && has m (ws.getD i [])) ?_ (fun e => ?_) (fun e => exs_nil (.inl ⟨b, _, fun h => ⟨by rw [hsucc, (hb h).1, e]; rfl, (hb h).2⟩, rfl, fun x d h => h⟩))) ?_ ?_
    · refine tr_and2 (tr_cmp (ev_sum N E ao.handled (ev_name rfl rfl) loc rfl rfl) (ev_name rfl rfl) rfl c_eq) fun z_ => ?_
      exact tr_cmp (ev_name rfl rfl) (ev_lidx (xs := ws) (ev_name rfl rfl) (ev_name rfl rfl) AsList.list hwl (by rw [hws]; exact hle5)) rfl (c_ini AsList.list)
    · have htrue : tieSeen S ws m r1 votes.length = true := seen_mono (i := i + 1) hlt' (by rw [hsucc, e, Bool.or_true])
      refine exs_cons (ex_if (x := !b) (tr_not (tr_name_bool rfl rfl fun z_ => rfl)) (fun e2 => ?_) (fun e2 => exs_nil (.inl ⟨b, _, fun h => ?_, rfl, fun x d h => h⟩))) (fun v m e => exs_nil e) (fun o e z_ => e)
      · refine exs_cons (K' := fun o => (ta = true ∧ o = .next (("i", .int (i : Int)) :: vE votes S ta b D ws m) [(D, (tieFold S ws m r1 i).map .int)]) ∨ (ta = false ∧ ∃ v mm, o = .exc (.ref C) v mm)) (ex_if (x := !ta) (tr_not (tr_name_bool rfl rfl fun z_ => rfl)) (fun e3 => ?_) (fun e3 => exs_nil (.inl ⟨by simpa using e3, rfl⟩))) ?_ ?_
        · have hta : ta = false := by simpa using e3
          exact exs_cons (ex_raise N.ok (X hta) (hfx outer (FX hta htrue)) ao.handled (gname_g E (X hta).own.bound rfl (by decide +kernel)) ev_str rfl) (fun v m e => nomatch e) (fun o e z_ => .inr ⟨hta, _, _, e⟩)
        · rintro v mm (⟨h, e⟩ | ⟨_, _, _, e⟩)
          · cases e
            exact exs_next (ex_assign ev_bool (hsto _ (hs _ (.inl rfl))) rfl rfl rfl) (exs_nil (.inl ⟨true, (_ : Vars), (fun h2 => absurd (h.symm.trans h2) (by decide)), rfl, by walk_at "sub"⟩))
          · cases e
        · rintro o (⟨_, e⟩ | ⟨h, v, mm, e⟩) hn
          · exact absurd e (hn _ _)
          · exact .inr ⟨h, htrue, v, mm, e⟩
      · rw [(hb h).2] at e2; cases e2
    · rintro v mm (⟨b', v', hb', e, hsub⟩ | ⟨_, _, _, _, e⟩)
      · cases e
        refine run_forget hsub (List.Sublist.refl _) ?_
        have hgo := fun {b} => tieFold_go (S := S) (ws := ws) (m := m) (r := r1) (i := i) (b := b)
        refine exs_cons (K' := fun o => ∃ v', o = .next v' [(D, (tieFold S ws m r1 (i + 1)).map .int)] ∧ Sub (vE votes S ta b' D ws m) v')
          (ex_if (x := (decide ((tieFold S ws m r1 i).sum < (S : Int))) && has m (ws.getD i [])) ?_ (fun e => ?_) (fun e => ?_)) (fun v m ⟨v', e, h⟩ => by cases e; exact exs_nil ⟨_, _, h, List.Sublist.refl _, b', hb', rfl, rfl⟩) (fun o ⟨v', e, _⟩ hn => absurd e (hn _ _))
        · refine tr_and2 (tr_cmp (ev_sum N E ao.handled (ev_name rfl rfl) loc rfl rfl) (ev_name rfl rfl) rfl c_lt) fun z_ => ?_
          exact tr_cmp (ev_name rfl rfl) (ev_lidx (xs := ws) (ev_name rfl rfl) (ev_name rfl rfl) AsList.list hwl (by rw [hws]; exact hle5)) rfl (c_ini AsList.list)
        · rw [hgo e, if_pos rfl]
          refine exs_next (ex_augitem (m1 := []) (m2 := []) (a := D) (k := (i : Int)) (ev_name rfl rfl) (ev_name rfl rfl) ev_int (Int.natCast_nonneg i) (by rw [List.length_map]; exact Int.ofNat_lt.mpr hfl) (by rw [List.length_map, hlen]; exact hle5) (by rw [Int.toNat_natCast]; exact getD_map_int _ _ hfl) a_add (fun z_ z_ z_ => rfl)) (exs_nil ⟨("i", .int (i : Int)) :: vE votes S ta b' D ws m, ?_, by walk_at "sub"⟩)
          rw [Int.toNat_natCast, List.map_set]; rfl
        · rw [hgo e, if_neg (by decide)]
          exact exs_nil ⟨_, rfl, by walk_at "sub"⟩
      · cases e
    · rintro o (⟨_, _, _, e, _⟩ | h) hn
      · exact absurd e (hn _ _)
      · obtain ⟨h1, h2, v, mm, e⟩ := h
        subst e; exact .inr ⟨h1, h2, v, mm, rfl⟩
  · rintro v mm ⟨b, hb, rfl, rfl⟩
    rw [List.length_map, List.length_range] at *
    exact .inl ⟨b, hb, rfl⟩
  · rintro v mm e
    exact exs_nil e
end
end Mine
end

section
set_option tactic.hygienic false
open PySem PySem.W PyProof.Rows PySem.Calls PySem.SeqAt
set_option linter.unusedVariables false
set_option maxRecDepth 100000
namespace Mine

theorem deal_lt {ws : List (List Int)} {r0 : List Int} {S : Nat} (hl : ws.length = r0.length) (h1 : r0.sum < (S : Int)) (h2 : (S : Int) - r0.sum ≤ ws.flatten.length) :
    (r1Of r0 ws (cutOf r0 (sortI ws.flatten) S) r0.length).sum < (S : Int) := by
  obtain ⟨T, hT⟩ : ∃ T : Nat, (T : Int) = S - r0.sum := ⟨((S : Int) - r0.sum).toNat, by (first | (clear h2 hl; omega) | lia | omega)⟩
  have hsl := sortI_len ws.flatten
  have hcut : cutOf r0 (sortI ws.flatten) S = (sortI ws.flatten).getD ((sortI ws.flatten).length - T) 0 := cut_at hT h1
  have hc := (cut_counts (sortI_sorted ws.flatten) (T := T) (by (first | lia | omega)) (by (first | lia | omega))).1
  rw [← hcut, cntP_perm (sortI_perm _), cntP_flatten] at hc
  rw [sum_deal _ r0.length r0 ws rfl hl]
  (first | (clear hcut hsl h2 h1 hl; omega) | lia | omega)
theorem divR1_lt {r : Rule} {v : List Int} {S : Nat} (hn : 1 ≤ v.length) (hgt : (S : Int) > (base r v).sum) : (divR1 r v S).sum < (S : Int) := by
  have hbl := base_len r v
  have hb0 := (base_sum r v).1
  have hS1 : 1 ≤ S := by (first | lia | omega)
  have hdl := divs_len r S hS1
  have hwl : (divW r v S).length = (base r v).length := by unfold divW wsOf; rw [List.length_map, hbl]
  have hfl : (divW r v S).flatten.length = v.length * S := by unfold divW; rw [flat_len, hdl]
  have hle : S ≤ v.length * S := Nat.le_mul_of_pos_left _ hn
  have := deal_lt (ws := divW r v S) (r0 := base r v) (S := S) hwl hgt (by rw [hfl]; (first | (clear hfl hwl hdl hS1 hbl hgt hn; lia) | lia | omega))
  have e1 : divR1 r v S = r1Of (base r v) (divW r v S) (divM r v S) (base r v).length := by rw [hbl]; exact if_pos hgt
  rw [e1]; exact this

section
variable {W : Wk} {A : Around} {hid : PMap} {env : Env} {vars : Vars} {mu : Mu} {K : Out → Prop}

theorem div_specG {a : Addr} {T C : Addr} {oT : Obj} {dv : Value} {nT : Nat} {votes : List Int} {S B : Nat} {nm : Str} {r : Rule} {ta : Bool} (N : Names W) (X : ta = false → OwnX W "TiesException" C) (DA : DefAt W p1 "divisor" a (.ref T)) (hT : W.base.get? T = some oT) (hTd : oT.data = .seq #[dv] nT) (P : DivPre r votes S B nm) :
    FnP W (ta = false) (.ref a) 1 [listI votes, .int S, .str nm, .bool ta] (fun d => (ta = false → divTie r votes S = false) ∧ d = listI (divF r votes S)) (fun x => ta = false ∧ divTie r votes S = true ∧ x = .ref C) := by
  obtain ⟨hm, kV, doc, pm, an, cdv, ct, F⟩ := DA
  refine fn_introP (fun z_ h => h.1) N.ok F [("votes", listI votes), ("seats", .int S), ("method", .str nm), ("tiesallowed", .bool ta)] ["votes", "seats", "method", "tiesallowed"] rfl (by show paramsOk (scopeOf p1 "divisor") _ = true; decide +kernel) (by decide +kernel) ?_ ?_
  · intro g h t us kb kg is
    exact iss4 (P := fun us => ∃ binds, BindsTo _ _ ⟨us, []⟩ binds ∧ Binds _ _ binds) is fun z_ z_ z_ z_ i1 i2 i3 i4 => ⟨_, BindsTo.of_defaults rfl (kb _ _ hT) hTd rfl rfl, .cons i1 (.cons i2 (.cons i3 (.cons i4 .nil)))⟩
  · intro A hid L outer ao FX hs
    have E : EnvOk (dEnv p1 a L (.ref T) kV doc pm an cdv ct) := ⟨rfl, rfl, rfl⟩
    show Exs _ _ _ _ _ _ ((bodyOf p1 "divisor").take 3 ++ (bodyOf p1 "divisor").drop 3) _
    have hbl := base_len r votes
    have hl1 : (divR1 r votes S).length = votes.length := by unfold divR1 r1Of; split <;> simp [hbl]
    have hwl : (divW r votes S).length = votes.length := by unfold divW wsOf; rw [List.length_map]
    refine div_deal N ao P hs (fun hgt D => ?_) (fun hgt D => ?_)
    · have eT : divTie r votes S = tieSeen S (divW r votes S) (divM r votes S) (divR1 r votes S) votes.length := by unfold divTie; rw [decide_eq_true hgt, Bool.true_and]
      refine exs_next (ex_assign ev_bool (hs _ (.inl rfl)) rfl rfl rfl) ?_
      refine exs_cons (div_loopG N X ao (fun h1 z_ => FX h1) P.hv hl1 hwl (divR1_lt P.hn hgt) hs) ?_ ?_
      · rintro v m (⟨b, hb, e⟩ | ⟨_, _, _, _, e⟩)
        · cases e
          have hx : (b && !ta) = false := by
            cases ta with
            | true => simp
            | false => rw [(hb rfl).2]; rfl
          refine exs_next (ex_if (x := (b && !ta)) (tr_and2 (tr_name_bool rfl rfl fun z_ => rfl) fun z_ => tr_not (tr_name_bool rfl rfl fun z_ => rfl)) (fun e => by rw [hx] at e; cases e) (fun z_ => exs_nil rfl)) ?_
          exact exs_cons (ex_retloc (ev_name rfl rfl) (.head _)) (fun v m e => nomatch e) (fun o e z_ => .inl ⟨_, ⟨fun h => by rw [eT]; exact (hb h).1, rfl⟩, e⟩)
        · cases e
      · rintro o (⟨_, _, e⟩ | ⟨h, ht, v, m, e⟩) hn
        · exact absurd e (hn _ _)
        · exact .inr ⟨_, v, m, ⟨h, by rw [eT]; exact ht, rfl⟩, e⟩
    · have eT : divTie r votes S = false := by unfold divTie; rw [decide_eq_false hgt]; rfl
      refine exs_next (ex_assign ev_bool (hs _ (.inl rfl)) rfl rfl rfl) ?_
      have e : divR1 r votes S = base r votes := if_neg hgt
      have e2 : divF r votes S = divR1 r votes S := by unfold divF; rw [tieFold_full (by rw [e]; omega)]
      refine exs_next (ex_if (x := false) ?_ (fun e => nomatch e) (fun z_ => exs_nil rfl)) ?_
      · rw [show false = decide ((S : Int) > (divR1 r votes S).sum) by rw [e]; simpa using hgt]
        exact tr_cmp (ev_name rfl rfl) (ev_sum N E ao.handled (ev_name rfl rfl) (.inr ⟨D, rfl, .head _⟩) rfl rfl) rfl c_gt
      refine exs_next (ex_if (x := (false && !ta)) (tr_and2 (tr_name_bool rfl rfl fun z_ => rfl) fun z_ => tr_not (tr_name_bool rfl rfl fun z_ => rfl)) (fun e => nomatch e) (fun z_ => exs_nil rfl)) ?_
      exact exs_cons (ex_retloc (ev_name rfl rfl) (.head _)) (fun v m e => nomatch e) (fun o ho z_ => .inl ⟨_, ⟨fun z_ => eT, by rw [e2]⟩, ho⟩)
end
end Mine
end

section
set_option tactic.hygienic false
open PySem PySem.W PyProof.Rows PySem.Calls PySem.SeqAt
set_option linter.unusedVariables false
set_option maxRecDepth 100000
namespace Mine

section
variable {W : Wk} {A : Around} {hid : PMap} {env : Env} {vars : Vars} {mu : Mu} {K : Out → Prop}

end
end Mine
end

section
set_option tactic.hygienic false
open PySem PySem.W PyProof.Rows PySem.Calls PySem.SeqAt
set_option linter.unusedVariables false
set_option maxRecDepth 100000
namespace Mine

theorem evargs_str {W : Wk} {A : Around} {hid : PMap} {env : Env} {vars : Vars} {mu : Mu} {x : Str} {k : Nat} {p : Pos} {es ds} (h : EvArgs W A hid env vars mu es ds) : EvArgs W A hid env vars mu (.Constant (.str x) k p :: es) (.str x :: ds) := evargs_cons ev_str h rfl
noncomputable def allNames : List Str := ["dhondt", "jefferson", "saintelague", "webster", "modified_saintelague", "huntington", "hill", "adams", "dean", "smallestdivisor", "harmonicmean", "equalproportions", "majorfractions", "greatestdivisors"]
noncomputable def lrNames : List Str := ["lrm", "hamilton", "largest_remainder"]
noncomputable def allR : List Rule := [.jeff, .web, .modi, .hill, .adams, .dean]
theorem mem_allR : ∀ r : Rule, r ∈ allR := by intro r; cases r <;> decide
noncomputable def nameOk (r : Rule) (x : Str) : Bool := !(x == ("quota" : Str)) && !(lrNames.any (· == x)) && allNames.any (· == x) && allR.all fun q => (ruleNames q).any (· == x) == decide (q = r)
theorem nameOks : (allR.all fun r => (ruleNames r).all (nameOk r)) = true := by decide +kernel
theorem names_ok (r : Rule) (x : Str) (hx : x ∈ ruleNames r) : (x == ("quota" : Str)) = false ∧ lrNames.any (· == x) = false ∧ allNames.any (· == x) = true ∧ ∀ q : Rule, (ruleNames q).any (· == x) = decide (q = r) := by
  have h := List.all_eq_true.mp (List.all_eq_true.mp nameOks r (mem_allR r)) x hx
  unfold nameOk at h
  simp only [Bool.and_eq_true, Bool.not_eq_true'] at h
  obtain ⟨⟨⟨h1, h2⟩, h3⟩, h4⟩ := h
  exact ⟨h1, h2, h3, fun q => by simpa using List.all_eq_true.mp h4 q (mem_allR q)⟩

section
variable {W : Wk} {A : Around} {hid : PMap} {env : Env} {vars : Vars} {mu : Mu} {K : Out → Prop}

theorem ev_call_def {x : Str} {np pos : Pos} {a : Addr} {dV : Value} {n : Nat} {e : Expr} {es : List Expr} {ds : List PV} {d : PV} (N : Names W) (E : EnvOk env) (ao : AOk W A n) (DA : DefAt W p1 x a dV) (hx : env.kindOf x = some .globalImplicit) (hdb : (x == ("__debug__" : Str)) = false)
    (ha : EvArgs W A hid env vars mu (e :: es) ds) (hf : Fn W (.ref a) n ds d) (hs : starEach (e :: es) env = (false, eval e env) :: starEach es env) : Ev W A hid env vars mu (.Call (.Name x np) (e :: es) [] pos) d := by
  obtain ⟨hm, kV, doc, pm, an, cdv, ct, F⟩ := DA
  obtain ⟨o, ho, hd⟩ := F.obj
  exact ev_call_fn N.ok ao (gname_g E hm hx hdb) ho hd ha hf hs

set_option genInjectivity false in
set_option genSizeOfSpec false in
structure Defs (W : Wk) where
  nm : Names W
  at_ : Addr
  hat : DefAt W p1 "apply_threshold" at_ .none
  dv : Addr
  dvT : Addr
  dvo : Obj
  dvv : Value
  dvn : Nat
  hdv : DefAt W p1 "divisor" dv (.ref dvT)
  hdvT : W.base.get? dvT = some dvo
  hdvd : dvo.data = .seq #[dvv] dvn
  cp : Addr
  cpT : Addr
  cpo : Obj
  cpn : Nat
  hcp : DefAt W p1 "compute" cp (.ref cpT)
  hcpT : W.base.get? cpT = some cpo
  hcpd : cpo.data = .seq #[.none, .bool true] cpn

theorem at_spec (D : Defs W) (l : List PV) : Fn W (.ref D.at_) 1 [.list l, .none] (.list l) := by
  obtain ⟨hm, kV, doc, pm, an, cdv, ct, F⟩ := D.hat
  refine fn_intro D.nm.ok F [("votes", .list l), ("threshold", .none)] ["votes", "threshold"] rfl (by show paramsOk (scopeOf p1 "apply_threshold") _ = true; decide +kernel) (by decide +kernel) ?_ ?_
  · intro g h t us kb kg is
    exact iss2 (P := fun us => ∃ binds, BindsTo _ _ ⟨us, []⟩ binds ∧ Binds _ _ binds) is fun z_ z_ i1 i2 => ⟨_, BindsTo.of_eq rfl, .cons i1 (.cons i2 .nil)⟩
  · intro A hid L ao hs
    refine exs_cons (K' := (· = .ret (.list l))) (ex_if (x := false) (tr_cmp (ev_name rfl rfl) ev_none rfl (c_isnn (by intro v e; cases e))) (fun e => by cases e) (fun z_ => ?_)) (fun v m e => by cases e) (fun o e z_ => .inl e)
    refine exs_cons (ex_ret (ev_name rfl rfl)) (fun v m e => by cases e) (fun o e z_ => e)

theorem ev_call_defG {x : Str} {np pos : Pos} {a : Addr} {dV : Value} {n : Nat} {e : Expr} {es : List Expr} {ds : List PV} {P : Prop} {Kd : PV → Prop} {Xx : Value → Prop} {outer} (N : Names W) (E : EnvOk env) (ao : AOk W A n) (F : P → FrX A hid env outer) (hXP : ∀ x, Xx x → P) (DA : DefAt W p1 x a dV) (hx : env.kindOf x = some .globalImplicit) (hdb : (x == ("__debug__" : Str)) = false)
    (ha : EvArgs W A hid env vars mu (e :: es) ds) (hf : FnP W P (.ref a) n ds Kd Xx) (hs : starEach (e :: es) env = (false, eval e env) :: starEach es env) : EvG W A hid env vars mu (.Call (.Name x np) (e :: es) [] pos) Kd Xx := by
  obtain ⟨hm, kV, doc, pm, an, cdv, ct, Fa⟩ := DA
  obtain ⟨o, ho, hd⟩ := Fa.obj
  exact ev_call_core N.ok ao F hXP (gname_g E hm hx hdb) ho hd ha hf hs

theorem not_next {K : PV → Prop} {X : Value → Prop} {o : Out} {v m} (h : (∃ d, K d ∧ o = .ret d) ∨ ∃ x v m, X x ∧ o = .exc x v m) : o ≠ .next v m := by
  rcases h with ⟨_, _, e⟩ | ⟨_, _, _, _, e⟩ <;> subst e <;> intro z <;> cases z

end
end Mine
end

section
set_option tactic.hygienic false
open PySem PySem.W PyProof.Rows PySem.Calls PySem.SeqAt
set_option linter.unusedVariables false
set_option maxRecDepth 100000
namespace Mine
section
variable {W : Wk} {A : Around} {hid : PMap} {env : Env} {vars : Vars} {mu : Mu} {K K' : Out → Prop}

theorem c_neb {a b : Bool} : Op W A hid env vars mu [.bool a, .bool b] (fun us => compareOp .NotEq (us.getD 0 .none) (us.getD 1 .none)) (.bool (a != b)) :=
  op2 fun g h t u v Q E R i j k => by cases i; cases j; exact PyProof.Rows.ne_bool (k _ g h t (Le.refl g) R .bool)
structure GData (W : Wk) (x : Str) (d : PV) : Prop where
  v : ∃ v, W.mg x = some v ∧ Is (fun a => W.base.get? a) d v
theorem ev_gdata {x : Str} {pos : Pos} {d} (N : Names W) (E : EnvOk env) (G : GData W x d) (hx : env.kindOf x = some .globalImplicit) (hd : (x == ("__debug__" : Str)) = false) : Ev W A hid env vars mu (.Name x pos) d := fun g h t Q Ee R k => by
  obtain ⟨v, hm, i⟩ := G.v
  exact name_global N.ok (gname_g E hm hx hd) R (k v g h t (Le.refl g) R (i.mono fun a o e => R.bs a o e))

theorem ex_for_xs {α : Type} {x : Str} {p pos : Pos} {e : Expr} {body : List Stmt} {d : PV} (mk : α → PV) (xs : List α) (J : Nat → Vars → Mu → Prop) (hh : A.handled = none) (he : Ev W A hid env vars mu e d) (hsrc : ∀ i v m, J i v m → Src m d (xs.map mk)) (h0 : J 0 vars mu)
    (hs : Sto hid env x) (hk : env.scope.kind = .function) (hd : (x == ("__debug__" : Str)) = false) (hf : ∀ x, foldedSetIterable e env x = pure x)
    (turn : ∀ hid' i v m a, (∀ y, Sto hid env y → Sto hid' env y) → xs[i]? = some a → J i v m → Exs W A hid' env ((x, mk a) :: v) m body (TurnK (J (i + 1)) K))
    (done : ∀ v m, J xs.length v m → K (.next v m)) : Ex1 W A hid env vars mu (.For (.Name x p) e body [] pos) K := by
  refine ex_for J hh he hsrc h0 hs hk hd hf (fun hid' i v m a hsto ha hJ => ?_) (fun v m hJ => done v m (by rw [List.length_map] at hJ; exact hJ))
  rw [List.getElem?_map] at ha
  obtain ⟨b, hb, rfl⟩ := Option.map_eq_some_iff.mp ha
  exact turn hid' i v m b hsto hb hJ
theorem ex_for_rng {x : Str} {p pos : Pos} {e : Expr} {body : List Stmt} {n : Nat} (J : Nat → Vars → Mu → Prop) (hh : A.handled = none) (he : Ev W A hid env vars mu e (.rng 0 (n : Int))) (hn : n < 2 ^ 61) (h0 : J 0 vars mu)
    (hs : Sto hid env x) (hk : env.scope.kind = .function) (hd : (x == ("__debug__" : Str)) = false) (hf : ∀ x, foldedSetIterable e env x = pure x)
    (turn : ∀ hid' i v m, (∀ y, Sto hid env y → Sto hid' env y) → i < n → J i v m → Exs W A hid' env ((x, .int (i : Int)) :: v) m body (TurnK (J (i + 1)) K))
    (done : ∀ v m, J n v m → K (.next v m)) : Ex1 W A hid env vars mu (.For (.Name x p) e body [] pos) K := by
  refine ex_for_xs (fun (i : Nat) => PV.int (i : Int)) (List.range n) J hh he (fun z_ z_ z_ z_ => src_rng hn) h0 hs hk hd hf (fun hid' i v m a hsto ha hJ => ?_) (fun v m hJ => done v m (by rw [List.length_range] at hJ; exact hJ))
  have hlt := lt_of_get ha
  rw [List.length_range] at hlt
  rw [List.getElem?_range hlt] at ha
  cases ha
  exact turn hid' i v m hsto hlt hJ
end

theorem fmod_lt (a : Int) {b : Nat} (h : 0 < b) : ∃ u : Nat, u < b ∧ a.fmod (b : Int) = (u : Int) := by
  have h0 : (0 : Int) < b := Int.ofNat_lt.mpr h
  have h1 := Int.fmod_nonneg_of_pos a h0
  have h2 := Int.fmod_lt_of_pos a h0
  exact ⟨(a.fmod b).toNat, (Int.toNat_lt h1).mpr h2, (Int.toNat_of_nonneg h1).symm⟩
end Mine
end

section
set_option tactic.hygienic false
open PySem PySem.W PyProof.Rows PySem.Calls PySem.SeqAt
set_option linter.unusedVariables false
set_option maxRecDepth 100000
namespace Mine
section
variable {W : Wk} {A : Around} {hid : PMap} {env : Env} {vars : Vars} {mu : Mu} {K K' : Out → Prop}

theorem exs_set {x : Str} {p pos : Pos} {e : Expr} {d : PV} {rest : List Stmt} (he : Ev W A hid env vars mu e d) (hs : Sto hid env x) (hsw : swapsWith e (some (.Name x p)) pos.line env = pure false) (hk : env.scope.kind = .function) (hd : (x == ("__debug__" : Str)) = false)
    (k : Exs W A hid env ((x, d) :: vars) mu rest K) : Exs W A hid env vars mu (.Assign [.Name x p] e pos :: rest) K := exs_next (ex_assign he hs hsw hk hd) k
theorem exs_ret {e : Expr} {pos : Pos} {d : PV} {rest : List Stmt} (he : Ev W A hid env vars mu e d) (k : K (.ret d)) : Exs W A hid env vars mu (.Return (some e) pos :: rest) K :=
  exs_cons (ex_ret he) (fun v m e => nomatch e) (fun o e z_ => by subst e; exact k)
theorem exs_go {c : Bool} {cond e : Expr} {p q : Pos} {d : PV} {rest : List Stmt} (hc : Tr W A hid env vars mu cond c) (ht : c = true → Ev W A hid env vars mu e d ∧ K (.ret d)) (hf : c = false → Exs W A hid env vars mu rest K) :
    Exs W A hid env vars mu (.If cond [.Return (some e) p] [] q :: rest) K := by
  cases c with
  | true => exact exs_cons (K' := (· = .ret d)) (ex_if hc (fun z_ => exs_ret (ht rfl).1 rfl) (fun e => nomatch e)) (fun v m e => nomatch e) (fun o e z_ => by subst e; exact (ht rfl).2)
  | false => exact exs_next (ex_if hc (fun e => nomatch e) (fun z_ => exs_nil rfl)) (hf rfl)
theorem exs_skip {cond : Expr} {b : List Stmt} {q : Pos} {rest : List Stmt} (hc : Tr W A hid env vars mu cond false) (k : Exs W A hid env vars mu rest K) : Exs W A hid env vars mu (.If cond b [] q :: rest) K :=
  exs_next (ex_if hc (fun e => nomatch e) (fun z_ => exs_nil rfl)) k

theorem isEmpty_ints {l : List Int} : ((l.map PV.int).isEmpty) = decide (l = []) := by cases l <;> simp

theorem ev_sc0 {x : Str} {ns : List Int} {z c : Int} {q1 q2 q3 q4 q5 q6 : Pos} {k1 k2 : Nat} (E : EnvOk env) (hx : vars.lookup x = some (listI ns)) (hn : ns.length ≤ 63) (hz : z = 0)
    (hf : ∀ v : Sem Value, isTrue (.Name x q1) env v = (do let y ← v; standAt (Expr.Name x q1).pos; holding [y] (truthy y))) :
    Ev W A hid env vars mu (.IfExp (.Name x q1) (.Subscript (.Name x q2) (.Constant (.int z) k1 q3) q4) (.Constant (.int c) k2 q5) q6) (.int (ns.getD 0 c)) := by
  subst hz
  refine ev_if (x := !decide (ns = [])) ?_ (fun e => ?_) (fun e => ?_)
  · refine tr_of (d := listI ns) (ev_name hx E.kind) ?_ hf
    show (_ = !(ns.map PV.int).isEmpty) ∧ _
    rw [isEmpty_ints, List.length_map]
    exact ⟨rfl, by (first | lia | omega)⟩
  · have h0 : 0 < ns.length := List.length_pos_iff.mpr (by simpa using e)
    refine ev_idx (l := ns.map .int) (ev_name hx E.kind) ev_int AsList.list (by (first | (simp; done) | lia | omega)) (by rw [List.length_map]; (first | lia | omega)) (by rw [List.length_map]; (first | lia | omega)) ?_
    rw [show idx 0 (ns.map PV.int).length = 0 from idx_nat 0 _]
    rw [List.getElem?_map, List.getD, List.getElem?_eq_getElem h0]; rfl
  · have h0 : ns = [] := by simpa using e
    subst h0
    exact ev_int
theorem ev_scK {x : Str} {ns : List Int} {z c : Int} {k : Nat} {np q1 q2 q3 q4 q5 q6 q7 q8 q9 : Pos} {k1 k2 k3 : Nat} (N : Names W) (E : EnvOk env) (hx : vars.lookup x = some (listI ns)) (hn : ns.length ≤ 63) (hz : z = (k : Int))
    (hl : env.kindOf "len" = some .globalImplicit) (hs : starEach [.Name x q1] env = [(false, eval (.Name x q1) env)]) :
    Ev W A hid env vars mu (.IfExp (.Compare (.Call (.Name "len" np) [.Name x q1] [] q2) [.Gt] [.Constant (.int z) k1 q3] q4) (.Subscript (.Name x q5) (.Constant (.int z) k2 q6) q7) (.Constant (.int c) k3 q8) q9) (.int (ns.getD k c)) := by
  subst hz
  refine ev_if (x := decide (((ns.map PV.int).length : Nat) > (k : Int))) (tr_cmp (ev_len N E (ev_name hx E.kind) AsList.list (by rw [List.length_map]; (first | lia | omega)) hl hs) ev_int rfl c_gt) (fun e => ?_) (fun e => ?_)
  · have h0 : k < ns.length := by
      have := of_decide_eq_true e
      rw [List.length_map] at this
      (first | lia | omega)
    refine ev_idx (l := ns.map .int) (ev_name hx E.kind) ev_int AsList.list (by (first | (simp; done) | lia | omega)) (by rw [List.length_map]; (first | lia | omega)) (by rw [List.length_map]; (first | lia | omega)) ?_
    rw [idx_nat, List.getElem?_map, List.getD, List.getElem?_eq_getElem h0]; rfl
  · have h0 : ns.length ≤ k := by
      have := of_decide_eq_false e
      rw [List.length_map] at this
      (first | lia | omega)
    rw [List.getD, List.getElem?_eq_none h0]
    exact ev_int

noncomputable abbrev strsV (l : List Str) : PV := .list (l.map .str)
theorem AOk.less {n m : Nat} (a : AOk W A n) (h : m ≤ n) : AOk W A m := ⟨a.handled, by have := a.depth; (first | lia | omega), by have := a.units; (first | lia | omega), a.frames⟩
end

theorem sliceP_map {α β : Type} (f : α → β) (l : List α) (lo hi) : sliceP (l.map f) lo hi = (sliceP l lo hi).map f := by
  unfold sliceP; rw [List.length_map, List.map_take, List.map_drop]
theorem sliceP_mem {α : Type} {l : List α} {lo hi} {x : α} (h : x ∈ sliceP l lo hi) : x ∈ l := List.mem_of_mem_drop (List.mem_of_mem_take h)
theorem clip_cast (n a : Nat) : clipAt n (a : Int) = min a n := by
  unfold clipAt
  rw [if_neg (Int.not_lt.mpr (Int.natCast_nonneg a))]
  rcases Nat.le_total a n with h | h
  · rw [Int.min_eq_left (Int.ofNat_le.mpr h), Int.max_eq_right (Int.natCast_nonneg _), Int.toNat_natCast, Nat.min_eq_left h]
  · rw [Int.min_eq_right (Int.ofNat_le.mpr h), Int.max_eq_right (Int.natCast_nonneg _), Int.toNat_natCast, Nat.min_eq_right h]
theorem min_sub (a b n : Nat) : min b n - min a n ≤ b - a := by
  rcases Nat.le_total a n with h | h
  · rw [Nat.min_eq_left h]; exact Nat.sub_le_sub_right (Nat.min_le_left _ _) _
  · rw [Nat.min_eq_right h, Nat.sub_eq_zero_of_le (Nat.min_le_right _ _)]; exact Nat.zero_le _
theorem sliceP_len {α : Type} (l : List α) (a b : Nat) : (sliceP l (some (a : Int)) (some (b : Int))).length ≤ b - a := by
  unfold sliceP
  rw [List.length_take]
  show min (clipAt l.length (b : Int) - clipAt l.length (a : Int)) _ ≤ b - a
  rw [clip_cast, clip_cast]
  exact Nat.le_trans (Nat.min_le_left _ _) (min_sub _ _ _)
section
variable {W : Wk} {A : Around} {hid : PMap} {env : Env} {vars : Vars} {mu : Mu} {K K' : Out → Prop}
end
theorem well_list {P : Params} {h : Heap} {l : Addr} {d : WData} {arr : Array Value} (w : Well P h (.ref l) d) (hl : h.IsList l arr) : ∃ n, h.get? l = some (lobj arr n) := by
  obtain ⟨o, e, hc, n, hd⟩ := hl
  cases w with
  | list q _ =>
    rw [e] at q
    cases q
    cases hd
    exact ⟨_, e⟩
  | bytearray q => rw [e] at q; cases q; cases hd
  | tuple q _ => rw [e] at q; cases q; exact absurd hc (fun z => by injection z with z; exact absurd z (by decide))
  | dict q _ => rw [e] at q; cases q; cases hd
  | set q _ _ _ => rw [e] at q; cases q; cases hd
  | frozenset q _ _ _ => rw [e] at q; cases q; cases hd
  | obj q _ _ _ => rw [e] at q; cases q; cases hd
theorem bits_lt {a : Int} {k : Nat} (h : Builtin.Int.intBits a ≤ k) : a.natAbs < 2 ^ k := by
  unfold Builtin.Int.intBits at h
  set_option tactic.hygienic true in split at h
  · rename_i h0
    have : a = 0 := by simpa using h0
    subst this
    exact Nat.two_pow_pos k
  · rename_i h0
    have hn : a.natAbs ≠ 0 := by
      intro z; apply h0; simp; (first | (clear h h0; lia) | lia | omega)
    exact (Nat.log2_lt hn).mp h

theorem defAt_mk {W : Wk} {n : Str} {a : Addr} {dV : Value} {K : Frag} (X : K.In W.base) (hm : W.mg n = some (.ref a)) {o : Obj} (ho : K.lookup a = some o) {kV doc pm an cdv ct} (hd : o.data = .func (fnOf n n (argsOf p1 n) (bodyOf p1 n) (scopeOf p1 n) dV kV doc pm an cdv ct))
    (hc : codeIn K cdv n = true) (hs : (scopeOf p1 n).isCoroutine = false ∧ (scopeOf p1 n).isGenerator = false ∧ (scopeOf p1 n).kind = .function) : DefAt W p1 n a dV :=
  ⟨hm, kV, doc, pm, an, cdv, ct, ⟨⟨o, X _ _ ho, hd⟩, codeRec_of X hc, rfl, rfl, rfl, rfl, hs.1, hs.2.1, hs.2.2⟩⟩
theorem mapLe {α β : Type} {l : List α} {f : α → β} (h : l.length ≤ 63) : (l.map f).length ≤ 100000 := by rw [List.length_map]; exact Nat.le_trans h (by decide)
theorem mapLt {α β : Type} {l : List α} {f : α → β} (h : l.length ≤ 63) : (l.map f).length < 2 ^ 62 := by rw [List.length_map]; exact Nat.lt_of_le_of_lt h (by decide)
theorem le5 {n : Nat} (h : n ≤ 63) : n ≤ 100000 := Nat.le_trans h (by decide)
theorem lt61 {n : Nat} (h : n ≤ 63) : n < 2 ^ 61 := Nat.lt_of_le_of_lt h (by decide)
section
variable {W : Wk} {A : Around} {hid : PMap} {env : Env} {vars : Vars} {mu : Mu} {K : Out → Prop}
theorem ev_lenI {x : Str} {np q1 q2 : Pos} {ns : List Int} (N : Names W) (E : EnvOk env) (hx : vars.lookup x = some (listI ns)) (hn : ns.length ≤ 63) (hl : env.kindOf "len" = some .globalImplicit) (hs : starEach [.Name x q1] env = [(false, eval (.Name x q1) env)]) :
    Ev W A hid env vars mu (.Call (.Name "len" np) [.Name x q1] [] q2) (.int (ns.length : Nat)) := by
  have := ev_len (np := np) (pos := q2) N E (ev_name (A := A) (hid := hid) (mu := mu) (pos := q1) hx E.kind) AsList.list (mapLt hn) hl hs
  rw [List.length_map] at this
  exact this

end
end Mine
end

section
set_option tactic.hygienic false
set_option linter.unusedVariables false
namespace Mine

noncomputable def fr (r : Rule) (p : Int) : Nat := if 0 < p then free r else 0
theorem base_get0 {r : Rule} {v : List Int} {i : Nat} (hi : i < v.length) : (base r v).getD i 0 = (fr r (v.getD i 0) : Int) := by
  have e : v.getD i 0 = v[i] := getD_lt hi
  rw [e]
  unfold fr
  cases r <;> simp [base, free, List.getD, List.getElem?_eq_getElem hi] <;> split <;> rfl

structure Apport0 (r : Rule) (v : List Int) (S : Nat) (a : List Int) : Prop where
  len : a.length = v.length
  sum : a.sum = (S : Int)
  ge : ∀ i, i < v.length → (fr r (v.getD i 0) : Int) ≤ a.getD i 0
  nought : ∀ i, i < v.length → v.getD i 0 = 0 → a.getD i 0 = 0
  stab : ∀ i j x y : Nat, i < v.length → j < v.length → i ≠ j → a.getD i 0 = (fr r (v.getD i 0) + x + 1 : Nat) → a.getD j 0 = (fr r (v.getD j 0) + y : Nat) →
    pw r (v.getD i 0) * (dv r x).2 * (dv r y).1 > pw r (v.getD j 0) * (dv r y).2 * (dv r x).1 ∨ (pw r (v.getD i 0) * (dv r x).2 * (dv r y).1 = pw r (v.getD j 0) * (dv r y).2 * (dv r x).1 ∧ i < j)
theorem two_le0 {l : List Int} {S : Nat} (hs : l.sum = (S : Int)) (ge : ∀ i, i < l.length → 0 ≤ l.getD i 0) {i j : Nat} (hi : i < l.length) (hj : j < l.length) (hne : i ≠ j) : l.getD i 0 + l.getD j 0 ≤ (S : Int) :=
  two_le (f := 0) hs ge hi hj hne
theorem seat_lt0 {f f' x y S : Nat} {a b : Int} (h : a + b ≤ (S : Int)) (ha : a = ((f + x + 1 : Nat) : Int)) (hb : b = ((f' + y : Nat) : Int)) : x < S ∧ y < S := by (first | (subst_vars; lia) | lia | omega)

theorem divF_ok0 {r : Rule} {v : List Int} {S : Nat} (hp : ∀ p ∈ v, 0 ≤ p) (hpe : ∃ p ∈ v, 0 < p) (hS : S ≤ 20) (hfree : (base r v).sum ≤ (S : Int)) : Apport0 r v S (divF r v S) := by
  have hbl := base_len r v
  have hbg : ∀ {i}, i < v.length → (base r v).getD i 0 = (fr r (v.getD i 0) : Int) := fun hi => base_get0 hi
  by_cases hgt : (S : Int) > (base r v).sum
  · obtain ⟨hm0, hwl, hfall, D, _, hwlen, hcmp⟩ := div_setup hp hpe hS hgt
    have hlen : (divF r v S).length = v.length := D.len.trans hbl
    have ge : ∀ i, i < v.length → (fr r (v.getD i 0) : Int) ≤ (divF r v S).getD i 0 := fun i hi => by
      obtain ⟨x, e, _⟩ := D.part i (hbl ▸ hi)
      rw [e, hbg hi]; exact Int.le_add_of_nonneg_right (Int.natCast_nonneg x)
    refine ⟨hlen, D.sum, ge, fun i hi hz => ?_, fun i j x y hi hj hne ai aj => ?_⟩
    · obtain ⟨x, e, hx⟩ := D.part i (hbl ▸ hi)
      have hall : ∀ w ∈ (divW r v S).getD i [], w = 0 := by
        unfold divW
        rw [wsOf_get hi, hz]
        intro w hw
        obtain ⟨d, _, rfl⟩ := List.mem_map.mp hw
        unfold wt; split <;> simp
      have h1 : cntP (fun w => decide (w > divM r v S)) ((divW r v S).getD i []) = 0 := cntP_zero fun w hw => by rw [hall w hw]; exact decide_eq_false (by (first | lia | omega))
      have h2 : has (divM r v S) ((divW r v S).getD i []) = false := by
        unfold has
        rw [List.any_eq_false]
        intro w hw
        rw [hall w hw]
        simp; (first | lia | omega)
      rw [e, hbg hi, hz]
      rcases hx with hx | ⟨_, hx⟩
      · rw [hx, h1]; rfl
      · rw [h2] at hx; cases hx
    · have ht := two_le0 D.sum (fun i hi => Int.le_trans (Int.natCast_nonneg _) (ge i (hlen ▸ hi))) (hlen ▸ hi) (hlen ▸ hj) hne
      obtain ⟨hx, hy⟩ := seat_lt0 ht ai aj
      have := dealt_stable D hwl hfall (i := i) (j := j) (x := x) (y := y) (hbl ▸ hi) (hbl ▸ hj) (by rw [hbg hi, ai]; rfl) (by rw [hbg hj, aj]; rfl) (by rw [hwlen j hj]; exact hy)
      rw [(hcmp i j x y hi hj hx hy).1, (hcmp i j x y hi hj hx hy).2] at this
      rcases this with q | ⟨q1, q2, _⟩
      · exact .inl q
      · exact .inr ⟨q1, q2⟩
  · have e2 : divF r v S = base r v := by
      unfold divF
      rw [show divR1 r v S = base r v from if_neg hgt, tieFold_full (fun q => hgt q)]
    have hsum : (base r v).sum = (S : Int) := Int.le_antisymm hfree (Int.not_lt.mp hgt)
    rw [e2]
    exact ⟨hbl, hsum, fun i hi => by rw [hbg hi]; exact Int.le_refl _, fun i hi hz => by rw [hbg hi, hz]; rfl, fun i j x y hi hj hne ai aj => by
      rw [hbg hi] at ai
      have := Int.ofNat_inj.mp ai
      (first | (simp only [Int.natCast_add, Int.natCast_one] at *; lia) | lia | omega)⟩
end Mine
end

section
set_option tactic.hygienic false
set_option linter.unusedVariables false
namespace Mine

noncomputable def sg (n : Nat) (f : Nat → Int) : Int := ((List.range n).map f).sum
theorem sg_succ {n : Nat} {f : Nat → Int} : sg (n + 1) f = sg n f + f n := by
  unfold sg; rw [List.range_succ, List.map_append, List.sum_append]; simp
theorem sg_lin {n : Nat} {A B C : Int} {x y : Nat → Int} : sg n (fun j => A * x j + B * y j + C) = A * sg n x + B * sg n y + C * (n : Int) := by
  induction n with
  | zero => show (0 : Int) = A * 0 + B * 0 + C * 0; simp
  | succ n ih => rw [sg_succ, sg_succ, sg_succ, ih, Int.mul_add, Int.mul_add, Int.natCast_add, Int.mul_add]; (first | lia | omega)
theorem sg_nonneg {n : Nat} {f : Nat → Int} (h : ∀ j, j < n → 0 ≤ f j) : 0 ≤ sg n f := by
  induction n with
  | zero => exact Int.le_refl _
  | succ n ih => rw [sg_succ]; exact Int.add_nonneg (ih fun j hj => h j (Nat.lt_succ_of_lt hj)) (h n (Nat.lt_succ_self n))
theorem sg_term {n : Nat} {f : Nat → Int} (h : ∀ j, j < n → 0 ≤ f j) {i : Nat} (hi : i < n) : f i ≤ sg n f := by
  induction n with
  | zero => exact absurd hi (Nat.not_lt_zero _)
  | succ n ih =>
    rw [sg_succ]
    have hn := sg_nonneg fun j hj => h j (Nat.lt_succ_of_lt hj)
    by_cases q : i = n
    · subst q; (first | lia | omega)
    · have := ih (fun j hj => h j (Nat.lt_succ_of_lt hj)) (by (first | lia | omega))
      have := h n (Nat.lt_succ_self n)
      (first | lia | omega)
theorem sg_list (l : List Int) : sg l.length (fun j => l.getD j 0) = l.sum := by
  unfold sg
  congr 1
  refine List.ext_getElem (by simp) fun j h1 h2 => ?_
  rw [List.getElem_map, List.getElem_range, getD_lt h2]
theorem sg_listN {l : List Int} {n : Nat} (h : l.length = n) : sg n (fun j => l.getD j 0) = l.sum := by subst h; exact sg_list l

structure Sl (t : Int) (v : List Int) (S : Nat) (a : List Int) : Prop where
  len : a.length = v.length
  sum : a.sum = (S : Int)
  nn : ∀ i, i < v.length → 0 ≤ a.getD i 0
  stab : ∀ i j, i < v.length → j < v.length → i ≠ j → 0 < a.getD i 0 → v.getD i 0 * (2 * a.getD j 0 + t) > v.getD j 0 * (2 * a.getD i 0 - 2 + t) ∨ (v.getD i 0 * (2 * a.getD j 0 + t) = v.getD j 0 * (2 * a.getD i 0 - 2 + t) ∧ i < j)
  pos : ∀ i, i < v.length → 0 < a.getD i 0 → 0 < v.getD i 0
noncomputable def TieL (t : Int) (v a : List Int) : Prop := ∃ i j, i < v.length ∧ j < v.length ∧ i ≠ j ∧ 0 < a.getD i 0 ∧ v.getD i 0 * (2 * a.getD j 0 + t) = v.getD j 0 * (2 * a.getD i 0 - 2 + t)
theorem Sl.ge {t : Int} {v a : List Int} {S : Nat} (h : Sl t v S a) {i j : Nat} (hi : i < v.length) (hj : j < v.length) (hij : i ≠ j) (h0 : 0 < a.getD i 0) : v.getD j 0 * (2 * a.getD i 0 - 2 + t) ≤ v.getD i 0 * (2 * a.getD j 0 + t) := by
  rcases h.stab i j hi hj hij h0 with q | ⟨q, _⟩
  · exact Int.le_of_lt q
  · exact Int.le_of_eq q.symm

theorem exists_ne_of_sum {a b : List Int} (hl : a.length = b.length) (hs : a.sum = b.sum) (hne : a ≠ b) : ∃ i, i < a.length ∧ b.getD i 0 < a.getD i 0 := by
  refine Classical.byContradiction fun q => hne ?_
  have hle : ∀ j, j < a.length → 0 ≤ b.getD j 0 + -1 * a.getD j 0 := fun j hj => by
    have := Int.not_lt.mp fun z => q ⟨j, hj, z⟩
    (first | lia | omega)
  have h0 : sg a.length (fun j => 1 * b.getD j 0 + -1 * a.getD j 0 + 0) = 0 := by
    rw [sg_lin, sg_listN hl.symm, sg_list, hs]; (first | (clear hle q hne hs hl; lia) | lia | omega)
  refine List.ext_getElem hl fun j h1 h2 => ?_
  have := sg_term (n := a.length) (f := fun j => 1 * b.getD j 0 + -1 * a.getD j 0 + 0) (fun j hj => by have := hle j hj; (first | (clear hj h2 h1 h0 hle q hne hs hl; lia) | lia | omega)) h1
  rw [h0] at this
  have h3 := hle j h1
  rw [← getD_lt h1, ← getD_lt h2]; (first | lia | omega)

theorem no_ring {a b c d : Int} {i j : Nat} (s1 : a > b ∨ (a = b ∧ i < j)) (s2 : c > d ∨ (c = d ∧ j < i)) (m1 : c ≤ b) (m2 : a ≤ d) : False := by
  rcases s1 with s1 | ⟨e1, s1⟩
  · rcases s2 with s2 | ⟨e2, s2⟩
    · exact Int.lt_irrefl _ (Int.lt_of_lt_of_le (Int.lt_of_lt_of_le s2 m1) (Int.le_trans (Int.le_of_lt s1) m2))
    · exact Int.lt_irrefl _ (Int.lt_of_le_of_lt (Int.le_trans m2 (Int.le_trans (Int.le_of_eq e2.symm) m1)) s1)
  · rcases s2 with s2 | ⟨e2, s2⟩
    · exact Int.lt_irrefl _ (Int.lt_of_lt_of_le s2 (Int.le_trans m1 (Int.le_trans (Int.le_of_eq e1.symm) m2)))
    · exact Nat.lt_asymm s1 s2
theorem Sl.uniq {t : Int} {v a b : List Int} {S : Nat} (ht : 1 ≤ t) (nn : ∀ i, i < v.length → 0 ≤ v.getD i 0) (ha : Sl t v S a) (hb : Sl t v S b) : a = b := by
  refine Classical.byContradiction fun hne => ?_
  obtain ⟨i, hi, e1⟩ := exists_ne_of_sum (ha.len.trans hb.len.symm) (ha.sum.trans hb.sum.symm) hne
  obtain ⟨j, hj, e2⟩ := exists_ne_of_sum (hb.len.trans ha.len.symm) (hb.sum.trans ha.sum.symm) (Ne.symm hne)
  rw [ha.len] at hi
  rw [hb.len] at hj
  have hij : i ≠ j := by rintro rfl; (first | lia | omega)
  have b0 := hb.nn i hi
  have a0 := ha.nn j hj
  have s1 := ha.stab i j hi hj hij (by (first | lia | omega))
  have s2 := hb.stab j i hj hi (Ne.symm hij) (by (first | exact Int.lt_of_le_of_lt (by assumption) (by assumption) | lia | omega))
  have m1 : v.getD j 0 * (2 * b.getD i 0 + t) ≤ v.getD j 0 * (2 * a.getD i 0 - 2 + t) := Int.mul_le_mul_of_nonneg_left (by (first | lia | omega)) (nn j hj)
  have m2 : v.getD i 0 * (2 * a.getD j 0 + t) ≤ v.getD i 0 * (2 * b.getD j 0 - 2 + t) := Int.mul_le_mul_of_nonneg_left (by (first | lia | omega)) (nn i hi)
  exact no_ring s1 s2 m1 m2

theorem Sl.least {t : Int} {v a : List Int} {S : Nat} (nn : ∀ i, i < v.length → 0 ≤ v.getD i 0) (h : Sl t v S a) {i : Nat} (hi : i < v.length) (h0 : 0 < a.getD i 0) :
    (2 * a.getD i 0 - 2 + t) * v.sum ≤ v.getD i 0 * (2 * (S : Int) + (v.length : Int) * t - 2) := by
  have key : ∀ j, j < v.length → 0 ≤ 2 * v.getD i 0 * a.getD j 0 + -(2 * a.getD i 0 - 2 + t) * v.getD j 0 + v.getD i 0 * t := fun j hj => by
    by_cases q : i = j
    · subst q
      have : 2 * v.getD i 0 * a.getD i 0 + -(2 * a.getD i 0 - 2 + t) * v.getD i 0 + v.getD i 0 * t = 2 * v.getD i 0 := by grind
      rw [this]; have := nn i hi; (first | lia | omega)
    · have := h.ge hi hj q h0
      have e : 2 * v.getD i 0 * a.getD j 0 + -(2 * a.getD i 0 - 2 + t) * v.getD j 0 + v.getD i 0 * t = v.getD i 0 * (2 * a.getD j 0 + t) - v.getD j 0 * (2 * a.getD i 0 - 2 + t) := by grind
      rw [e]; (first | (clear e q hj h0 hi h nn; omega) | lia | omega)
  have := sg_term key hi
  rw [sg_lin, sg_listN h.len, sg_list, h.sum] at this
  have e : 2 * v.getD i 0 * a.getD i 0 + -(2 * a.getD i 0 - 2 + t) * v.getD i 0 + v.getD i 0 * t = 2 * v.getD i 0 := by grind
  rw [e] at this
  have e2 : v.getD i 0 * (2 * (S : Int) + (v.length : Int) * t - 2) - (2 * a.getD i 0 - 2 + t) * v.sum = (2 * v.getD i 0 * (S : Int) + -(2 * a.getD i 0 - 2 + t) * v.sum + v.getD i 0 * t * (v.length : Int)) - 2 * v.getD i 0 := by grind
  (first | lia | omega)

theorem Sl.most {t : Int} {v a : List Int} {S : Nat} (ht : 1 ≤ t) (ht2 : t ≤ 2) (nn : ∀ i, i < v.length → 0 ≤ v.getD i 0) (h : Sl t v S a) {i : Nat} (hi : i < v.length) :
    v.getD i 0 * (2 * (S : Int) + t - min ((v.length : Int) - 1) ((S : Int) - a.getD i 0) * (2 - t)) ≤ (2 * a.getD i 0 + t) * v.sum := by
  let e : Nat → Int := fun j => if j = i then 0 else if 0 < a.getD j 0 then 1 else 0
  have ei : e i = 0 := if_pos rfl
  have hv := nn i hi
  have hai := h.nn i hi
  have he : ∀ j, j < v.length → 0 ≤ e j ∧ e j ≤ 1 ∧ e j ≤ a.getD j 0 := fun j hj => by
    have := h.nn j hj
    by_cases q : j = i
    · have ej : e j = 0 := if_pos q
      (first | (subst_vars; lia) | lia | omega)
    · by_cases z : 0 < a.getD j 0
      · have ej : e j = 1 := by simp only [e]; rw [if_neg q, if_pos z]
        (first | (clear q hj hai hv ei hi h nn ht2 ht; omega) | lia | omega)
      · have ej : e j = 0 := by simp only [e]; rw [if_neg q, if_neg z]
        (first | (clear q hj hai hv ei hi h nn ht2 ht z; omega) | lia | omega)
  have k1 : sg v.length e ≤ (v.length : Int) - 1 := by
    have := sg_term (n := v.length) (f := fun j => -1 * e j + 0 * e j + 1) (fun j hj => by have := he j hj; (first | (clear hj he hai hv ei hi h nn ht2 ht; omega) | lia | omega)) hi
    rw [sg_lin] at this
    rw [ei] at this; (first | (clear he hai hv ei hi h nn ht2 ht; lia) | lia | omega)
  have k2 : sg v.length e ≤ (S : Int) - a.getD i 0 := by
    have := sg_term (n := v.length) (f := fun j => -1 * e j + 1 * a.getD j 0 + 0) (fun j hj => by have := he j hj; (first | (clear hj k1 he hai hv ei hi h nn ht2 ht; omega) | lia | omega)) hi
    rw [sg_lin, sg_listN h.len, h.sum] at this
    rw [ei] at this; (first | (clear k1 he hai hv ei hi h nn ht2 ht; lia) | lia | omega)
  have key : ∀ j, j < v.length → 0 ≤ 1 * ((2 * a.getD i 0 + t) * v.getD j 0 + -(2 * v.getD i 0) * a.getD j 0 + 0) + v.getD i 0 * (2 - t) * e j + 0 := fun j hj => by
    by_cases q : j = i
    · subst q
      have : 1 * ((2 * a.getD j 0 + t) * v.getD j 0 + -(2 * v.getD j 0) * a.getD j 0 + 0) + v.getD j 0 * (2 - t) * e j + 0 = t * v.getD j 0 := by rw [ei]; grind
      rw [this]; exact Int.mul_nonneg (by (first | exact Int.le_of_lt (by assumption) | lia | omega)) hv
    · by_cases z : 0 < a.getD j 0
      · have ej : e j = 1 := by simp only [e]; rw [if_neg q, if_pos z]
        have := h.ge hj hi q z
        have g : 1 * ((2 * a.getD i 0 + t) * v.getD j 0 + -(2 * v.getD i 0) * a.getD j 0 + 0) + v.getD i 0 * (2 - t) * e j + 0 = v.getD j 0 * (2 * a.getD i 0 + t) - v.getD i 0 * (2 * a.getD j 0 - 2 + t) := by rw [ej]; grind
        rw [g]; (first | (clear g ej z q hj k2 k1 he hai hv ei hi h nn ht2 ht; omega) | lia | omega)
      · have ej : e j = 0 := by simp only [e]; rw [if_neg q, if_neg z]
        have aj : a.getD j 0 = 0 := by have := h.nn j hj; (first | lia | omega)
        have g : 1 * ((2 * a.getD i 0 + t) * v.getD j 0 + -(2 * v.getD i 0) * a.getD j 0 + 0) + v.getD i 0 * (2 - t) * e j + 0 = (2 * a.getD i 0 + t) * v.getD j 0 := by rw [ej, aj]; grind
        rw [g]; exact Int.mul_nonneg (by (first | lia | omega)) (nn j hj)
  have := sg_term key hi
  rw [sg_lin (x := fun j => (2 * a.getD i 0 + t) * v.getD j 0 + -(2 * v.getD i 0) * a.getD j 0 + 0), sg_lin, sg_listN h.len, sg_list, h.sum] at this
  have ti : 1 * ((2 * a.getD i 0 + t) * v.getD i 0 + -(2 * v.getD i 0) * a.getD i 0 + 0) + v.getD i 0 * (2 - t) * e i + 0 = t * v.getD i 0 := by rw [ei]; grind
  rw [ti] at this
  have hm : v.getD i 0 * (2 - t) * sg v.length e ≤ v.getD i 0 * (2 - t) * min ((v.length : Int) - 1) ((S : Int) - a.getD i 0) := Int.mul_le_mul_of_nonneg_left (by (first | (clear ti this key he hai hv ei hi h nn ht2 ht; omega) | lia | omega)) (Int.mul_nonneg hv (by (first | lia | omega)))
  have g : (2 * a.getD i 0 + t) * v.sum - v.getD i 0 * (2 * (S : Int) + t - min ((v.length : Int) - 1) ((S : Int) - a.getD i 0) * (2 - t)) = (1 * ((2 * a.getD i 0 + t) * v.sum + -(2 * v.getD i 0) * (S : Int) + 0 * (v.length : Int)) + v.getD i 0 * (2 - t) * min ((v.length : Int) - 1) ((S : Int) - a.getD i 0) + 0 * (v.length : Int)) - t * v.getD i 0 := by grind
  (first | lia | omega)
end Mine
end

section
set_option tactic.hygienic false
set_option linter.unusedVariables false
namespace Mine

theorem fr_zero {r : Rule} (h0 : free r = 0) {p : Int} : fr r p = 0 := by
  unfold fr; split
  · exact h0
  · rfl
theorem base_zero {r : Rule} (h0 : free r = 0) (v : List Int) : (base r v).sum = 0 := by
  have : base r v = v.map fun z_ => 0 := by cases r <;> first | rfl | exact absurd h0 (by decide)
  rw [this]
  induction v with
  | nil => rfl
  | cons x l ih => rw [List.map_cons, List.sum_cons, ih (by cases r <;> first | rfl | exact absurd h0 (by decide))]; rfl

theorem divF_tie0 {r : Rule} {v : List Int} {S : Nat} (h0 : free r = 0) (hp : ∀ p ∈ v, 0 ≤ p) (hpe : ∃ p ∈ v, 0 < p) (hS : S ≤ 20) : divTie r v S = true ↔ TieAt r v (divF r v S) := by
  have hbl := base_len r v
  have hbg : ∀ {i}, i < v.length → (base r v).getD i 0 = 0 := fun hi => by rw [base_get0 hi, fr_zero h0]; rfl
  have hb0 := base_zero h0 v
  by_cases hgt : (S : Int) > (base r v).sum
  · obtain ⟨_, hwl, hfall, D, hT, hwlen, hcmp⟩ := div_setup hp hpe hS hgt
    have AP := divF_ok0 (r := r) hp hpe hS (by rw [hb0]; exact Int.natCast_nonneg _)
    have hlen := AP.len
    have ge : ∀ i, i < (divF r v S).length → 0 ≤ (divF r v S).getD i 0 := fun i hi => Int.le_trans (Int.natCast_nonneg _) (AP.ge i (hlen ▸ hi))
    rw [hT, dealt_tie D hwl hfall]
    constructor
    · rintro ⟨i, j, x, y, hi, hj, ai, aj, hy, e⟩
      have hi' : i < v.length := hbl ▸ hi
      have hj' : j < v.length := hbl ▸ hj
      rw [hwlen j hj'] at hy
      rw [hbg hi'] at ai
      rw [hbg hj'] at aj
      have hne : i ≠ j := by
        rintro rfl
        have exy : y = x + 1 := by (first | lia | omega)
        subst exy
        have e := (hcmp i i x (x + 1) hi' hi' (Nat.lt_of_succ_lt hy) hy).2.mp e
        have f := dv_fall r (x + 1) (Nat.lt_of_lt_of_le hy hS) x (Nat.lt_succ_self x)
        have vp : 0 < v.getD i 0 := by
          have h1 : 0 ≤ v.getD i 0 := by rw [getD_lt hi']; exact hp _ (List.getElem_mem _)
          rcases Int.lt_or_eq_of_le h1 with q | q
          · exact q
          · have := AP.nought i hi' q.symm; (first | lia | omega)
        have f2 := Int.mul_lt_mul_of_pos_left f (pw_pos (r := r) vp)
        rw [← Int.mul_assoc, ← Int.mul_assoc, e] at f2
        exact Int.lt_irrefl _ f2
      have ht := two_le0 AP.sum ge (hlen ▸ hi') (hlen ▸ hj') hne
      obtain ⟨hx, _⟩ := seat_lt0 (f := 0) (f' := 0) (x := x) (y := y) ht (by rw [ai]; (first | (simp; done) | lia | omega)) (by rw [aj]; (first | (simp; done) | lia | omega))
      exact ⟨i, j, x, y, hi', hj', hne, by rw [ai, h0]; (first | (simp; done) | lia | omega), by rw [aj, h0]; (first | (simp; done) | lia | omega), (hcmp i j x y hi' hj' hx hy).2.mp e⟩
    · rintro ⟨i, j, x, y, hi, hj, hne, ai, aj, e⟩
      rw [h0] at ai aj
      have ht := two_le0 AP.sum ge (hlen ▸ hi) (hlen ▸ hj) hne
      obtain ⟨hx, hy⟩ := seat_lt0 ht ai aj
      exact ⟨i, j, x, y, hbl ▸ hi, hbl ▸ hj, by rw [hbg hi, ai]; (first | (simp; done) | lia | omega), by rw [hbg hj, aj]; (first | (simp; done) | lia | omega), by rw [hwlen j hj]; exact hy, (hcmp i j x y hi hj hx hy).2.mpr e⟩
  · have e2 : divF r v S = base r v := by
      unfold divF
      rw [show divR1 r v S = base r v from if_neg hgt, tieFold_full (fun q => hgt q)]
    have : divTie r v S = false := by unfold divTie; rw [decide_eq_false hgt]; rfl
    rw [this, e2]
    constructor
    · intro q; cases q
    · rintro ⟨i, j, x, y, hi, hj, hne, ai, aj, e⟩
      rw [hbg hi, h0] at ai
      (first | (simp only [Int.natCast_add, Int.natCast_one] at *; lia) | lia | omega)

inductive RT : Rule → Int → Prop where
  | jeff : RT .jeff 2
  | web : RT .web 1
theorem RT.free {r t} (h : RT r t) : free r = 0 := by cases h <;> rfl
theorem RT.rng {r t} (h : RT r t) : 1 ≤ t ∧ t ≤ 2 := by cases h <;> decide
theorem RT.post {r t} (h : RT r t) (p q : Int) (x y : Nat) : (pw r p * (dv r x).2 * (dv r y).1 > pw r q * (dv r y).2 * (dv r x).1 ↔ p * (2 * (y : Int) + t) > q * (2 * (x : Int) + t)) ∧ (pw r p * (dv r x).2 * (dv r y).1 = pw r q * (dv r y).2 * (dv r x).1 ↔ p * (2 * (y : Int) + t) = q * (2 * (x : Int) + t)) := by
  cases h
  · show (p * 1 * ((y : Int) + 1) > q * 1 * ((x : Int) + 1) ↔ _) ∧ (p * 1 * ((y : Int) + 1) = q * 1 * ((x : Int) + 1) ↔ _)
    rw [Int.mul_one, Int.mul_one]
    have e1 : p * (2 * (y : Int) + 2) = 2 * (p * ((y : Int) + 1)) := by grind
    have e2 : q * (2 * (x : Int) + 2) = 2 * (q * ((x : Int) + 1)) := by grind
    rw [e1, e2]; (first | (clear e2 e1; omega) | lia | omega)
  · show (p * 1 * (2 * (y : Int) + 1) > q * 1 * (2 * (x : Int) + 1) ↔ _) ∧ (p * 1 * (2 * (y : Int) + 1) = q * 1 * (2 * (x : Int) + 1) ↔ _)
    rw [Int.mul_one, Int.mul_one]
    exact ⟨Iff.rfl, Iff.rfl⟩
theorem sl_of {r : Rule} {t : Int} {v : List Int} {S : Nat} (rt : RT r t) (hp : ∀ p ∈ v, 0 ≤ p) (hpe : ∃ p ∈ v, 0 < p) (hS : S ≤ 20) : Sl t v S (divF r v S) ∧ (divTie r v S = true ↔ TieL t v (divF r v S)) := by
  have h0 := rt.free
  have AP := divF_ok0 (r := r) hp hpe hS (by rw [base_zero h0]; exact Int.natCast_nonneg _)
  have nn : ∀ i, i < v.length → 0 ≤ (divF r v S).getD i 0 := fun i hi => Int.le_trans (Int.natCast_nonneg _) (AP.ge i hi)
  refine ⟨⟨AP.len, AP.sum, nn, fun i j hi hj hne h1 => ?_, fun i hi h1 => ?_⟩, ?_⟩
  · have a1 := nn j hj
    obtain ⟨x, hx⟩ : ∃ x : Nat, (divF r v S).getD i 0 = ((0 + x + 1 : Nat) : Int) := ⟨((divF r v S).getD i 0 - 1).toNat, by (first | (clear a1 hne hj hi nn AP h0 hS hp rt hpe; lia) | lia | omega)⟩
    obtain ⟨y, hy⟩ : ∃ y : Nat, (divF r v S).getD j 0 = ((0 + y : Nat) : Int) := ⟨((divF r v S).getD j 0).toNat, by (first | (clear hx h1 hne hj hi nn AP h0 hS hp rt hpe; lia) | lia | omega)⟩
    have := AP.stab i j x y hi hj hne (by rw [fr_zero h0]; exact hx) (by rw [fr_zero h0]; exact hy)
    rw [(rt.post _ _ x y).1, (rt.post _ _ x y).2] at this
    rw [hx, hy]
    have e1 : 2 * ((0 + y : Nat) : Int) + t = 2 * (y : Int) + t := by (first | (simp; done) | lia | omega)
    have e2 : 2 * ((0 + x + 1 : Nat) : Int) - 2 + t = 2 * (x : Int) + t := by (first | (clear e1 this hy hx a1 h1 hne hj hi nn AP h0 hS hpe hp rt; lia) | lia | omega)
    rw [e1, e2]; exact this
  · have h2 : 0 ≤ v.getD i 0 := by rw [getD_lt hi]; exact hp _ (List.getElem_mem _)
    rcases Int.lt_or_eq_of_le h2 with q | q
    · exact q
    · have := AP.nought i hi q.symm; (first | lia | omega)
  · rw [divF_tie0 h0 hp hpe hS]
    constructor
    · rintro ⟨i, j, x, y, hi, hj, hne, ai, aj, e⟩
      rw [h0] at ai aj
      refine ⟨i, j, hi, hj, hne, by (first | (clear e aj hne hj hi nn AP h0 hS hpe hp rt; omega) | lia | omega), ?_⟩
      rw [ai, aj]
      have e1 : 2 * ((0 + y : Nat) : Int) + t = 2 * (y : Int) + t := by (first | (simp; done) | lia | omega)
      have e2 : 2 * ((0 + x + 1 : Nat) : Int) - 2 + t = 2 * (x : Int) + t := by (first | lia | omega)
      rw [e1, e2]; exact (rt.post _ _ x y).2.mp e
    · rintro ⟨i, j, hi, hj, hne, h1, e⟩
      have a1 := nn j hj
      obtain ⟨x, hx⟩ : ∃ x : Nat, (divF r v S).getD i 0 = ((0 + x + 1 : Nat) : Int) := ⟨((divF r v S).getD i 0 - 1).toNat, by (first | lia | omega)⟩
      obtain ⟨y, hy⟩ : ∃ y : Nat, (divF r v S).getD j 0 = ((0 + y : Nat) : Int) := ⟨((divF r v S).getD j 0).toNat, by (first | lia | omega)⟩
      rw [hx, hy] at e
      have e1 : 2 * ((0 + y : Nat) : Int) + t = 2 * (y : Int) + t := by (first | (simp; done) | lia | omega)
      have e2 : 2 * ((0 + x + 1 : Nat) : Int) - 2 + t = 2 * (x : Int) + t := by (first | lia | omega)
      rw [e1, e2] at e
      exact ⟨i, j, x, y, hi, hj, hne, by rw [hx, h0], by rw [hy, h0], (rt.post _ _ x y).2.mpr e⟩
end Mine
end

section
set_option tactic.hygienic false
set_option linter.unusedVariables false
namespace Mine

noncomputable def filtT (t own : Int) (v : List Int) : List Int := v.map fun x => if x * own < v.sum * t then 0 else x
theorem filtT_len {t own : Int} {v : List Int} : (filtT t own v).length = v.length := List.length_map _
theorem filtT_get {t own : Int} {v : List Int} {i : Nat} (hi : i < v.length) : (filtT t own v).getD i 0 = if v.getD i 0 * own < v.sum * t then 0 else v.getD i 0 := by
  unfold filtT
  rw [List.getD, List.getElem?_map, List.getD, List.getElem?_eq_getElem hi]; rfl
theorem filtT_nn {t own : Int} {v : List Int} (hp : ∀ p ∈ v, 0 ≤ p) : ∀ p ∈ filtT t own v, 0 ≤ p := fun p h => by
  obtain ⟨x, hx, rfl⟩ := List.mem_map.mp h
  split
  · exact Int.le_refl _
  · exact hp x hx

theorem Sl.holder {t : Int} {v a : List Int} {S : Nat} (h : Sl t v S a) (hS : 1 ≤ S) : ∃ i, i < v.length ∧ 0 < a.getD i 0 := by
  refine Classical.byContradiction fun q => ?_
  have := sg_nonneg (n := v.length) (f := fun j => -1 * a.getD j 0 + 0 * a.getD j 0 + 0) fun j hj => by
    have := Int.not_lt.mp fun z => q ⟨j, hj, z⟩
    (first | lia | omega)
  rw [sg_lin, sg_listN h.len, h.sum] at this
  (first | (clear q h; lia) | lia | omega)

theorem Sl.tied {t : Int} {v a : List Int} {S : Nat} (ht : 1 ≤ t) (nn : ∀ i, i < v.length → 0 ≤ v.getD i 0) (h : Sl t v S a) {i j : Nat} (hi : i < v.length) (hj : j < v.length) (hij : i ≠ j) (h0 : 0 < a.getD i 0) (aj : a.getD j 0 = 0)
    (e : v.getD i 0 * (2 * a.getD j 0 + t) = v.getD j 0 * (2 * a.getD i 0 - 2 + t)) : v.sum * t ≤ v.getD j 0 * (2 * (S : Int) + (v.length : Int) * t - 2) := by
  rw [aj] at e
  have key : ∀ k, k < v.length → 0 ≤ 2 * v.getD j 0 * a.getD k 0 + -t * v.getD k 0 + v.getD j 0 * t := fun k hk => by
    have g : 2 * v.getD j 0 * a.getD k 0 + -t * v.getD k 0 + v.getD j 0 * t = v.getD j 0 * (2 * a.getD k 0 + t) - v.getD k 0 * t := by grind
    rw [g]
    by_cases q : k = i
    · subst q
      have := Int.mul_nonneg (nn k hi) (show 0 ≤ t by (first | exact Int.le_of_lt (by assumption) | lia | omega))
      have e' : v.getD k 0 * t = v.getD j 0 * (2 * a.getD k 0 - 2 + t) := by rw [← e]; grind
      have e3 : v.getD j 0 * (2 * a.getD k 0 + t) = v.getD j 0 * (2 * a.getD k 0 - 2 + t) + 2 * v.getD j 0 := by grind
      have := nn j hj
      (first | lia | omega)
    · have g1 := h.ge hi hk (Ne.symm q) h0
      have hc : 0 < 2 * a.getD i 0 - 2 + t := by (first | lia | omega)
      have g2 : v.getD k 0 * (2 * a.getD i 0 - 2 + t) * t ≤ v.getD i 0 * (2 * a.getD k 0 + t) * t := Int.mul_le_mul_of_nonneg_right g1 (by (first | exact Int.le_of_lt (by assumption) | lia | omega))
      have g3 : v.getD i 0 * (2 * a.getD k 0 + t) * t = v.getD j 0 * (2 * a.getD k 0 + t) * (2 * a.getD i 0 - 2 + t) := by
        have : v.getD i 0 * (2 * a.getD k 0 + t) * t = v.getD i 0 * (2 * 0 + t) * (2 * a.getD k 0 + t) := by grind
        rw [this, e]; grind
      have g4 : v.getD k 0 * (2 * a.getD i 0 - 2 + t) * t = v.getD k 0 * t * (2 * a.getD i 0 - 2 + t) := by grind
      rw [g3, g4] at g2
      have := Int.le_of_mul_le_mul_right g2 hc
      (first | (clear g4 g3 g2 hc g1 q g hk e aj h0 hij hj hi h nn ht; omega) | lia | omega)
  have := sg_term key hi
  rw [sg_lin, sg_listN h.len, sg_list, h.sum] at this
  have ti : 2 * v.getD j 0 * a.getD i 0 + -t * v.getD i 0 + v.getD j 0 * t = 2 * v.getD j 0 := by grind
  rw [ti] at this
  have g : v.getD j 0 * (2 * (S : Int) + (v.length : Int) * t - 2) - v.sum * t = (2 * v.getD j 0 * (S : Int) + -t * v.sum + v.getD j 0 * t * (v.length : Int)) - 2 * v.getD j 0 := by grind
  (first | lia | omega)

theorem filt_same {r : Rule} {t : Int} {v : List Int} {S : Nat} (rt : RT r t) (hp : ∀ p ∈ v, 0 ≤ p) (hpe : ∃ p ∈ v, 0 < p) (hS : S ≤ 20) (h1 : 1 ≤ S) :
    divF r (filtT t (2 * (S : Int) + (v.length : Int) * t - 2) v) S = divF r v S ∧ divTie r (filtT t (2 * (S : Int) + (v.length : Int) * t - 2) v) S = divTie r v S ∧ ∃ p ∈ filtT t (2 * (S : Int) + (v.length : Int) * t - 2) v, 0 < p := by
  obtain ⟨A, T⟩ := sl_of rt hp hpe hS
  have ht := rt.rng.1
  have nn : ∀ i, i < v.length → 0 ≤ v.getD i 0 := fun i hi => by rw [getD_lt hi]; exact hp _ (List.getElem_mem _)
  generalize divF r v S = a at *
  generalize ho : 2 * (S : Int) + (v.length : Int) * t - 2 = own at *
  have keep : ∀ i, i < v.length → 0 < a.getD i 0 → (filtT t own v).getD i 0 = v.getD i 0 := fun i hi h0 => by
    rw [filtT_get hi, if_neg]
    have h2 := A.least nn hi h0
    rw [ho] at h2
    have h3 : t * v.sum ≤ (2 * a.getD i 0 - 2 + t) * v.sum := Int.mul_le_mul_of_nonneg_right (by (first | lia | omega)) (by
      have := sg_nonneg nn; rw [sg_list] at this; exact this)
    rw [Int.mul_comm v.sum t]; (first | (clear h0 hi ho T A nn ht h1 hS hpe hp rt; omega) | lia | omega)
  have either : ∀ i, i < v.length → (filtT t own v).getD i 0 = 0 ∨ (filtT t own v).getD i 0 = v.getD i 0 := fun i hi => by
    rw [filtT_get hi]; split
    · exact .inl rfl
    · exact .inr rfl
  have B : Sl t (filtT t own v) S a := by
    refine ⟨by rw [filtT_len]; exact A.len, A.sum, fun i hi => A.nn i (filtT_len ▸ hi), fun i j hi hj hne h0 => ?_, fun i hi h0 => ?_⟩
    · rw [filtT_len] at hi hj
      rw [keep i hi h0]
      rcases either j hj with q | q
      · left
        rw [q, Int.zero_mul]
        exact Int.mul_pos (A.pos i hi h0) (by have := A.nn j hj; (first | lia | omega))
      · rw [q]; exact A.stab i j hi hj hne h0
    · rw [filtT_len] at hi
      rw [keep i hi h0]; exact A.pos i hi h0
  obtain ⟨i, hi, h0⟩ := A.holder h1
  have hpe' : ∃ p ∈ filtT t own v, 0 < p := by
    have hi' : i < (filtT t own v).length := by rw [filtT_len]; exact hi
    refine ⟨(filtT t own v)[i], List.getElem_mem _, ?_⟩
    rw [← getD_lt hi', keep i hi h0]; exact A.pos i hi h0
  obtain ⟨A', T'⟩ := sl_of rt (filtT_nn (t := t) (own := own) hp) hpe' hS
  have nn' : ∀ i, i < (filtT t own v).length → 0 ≤ (filtT t own v).getD i 0 := fun i hi => by rw [getD_lt hi]; exact filtT_nn hp _ (List.getElem_mem _)
  have e := A'.uniq ht nn' B
  refine ⟨e, ?_, hpe'⟩
  rw [e] at T'
  rw [Bool.eq_iff_iff, T, T']
  constructor
  · rintro ⟨i, j, hi, hj, hne, h0, e⟩
    rw [filtT_len] at hi hj
    rw [keep i hi h0] at e
    refine ⟨i, j, hi, hj, hne, h0, ?_⟩
    rcases either j hj with q | q
    · rw [q, Int.zero_mul] at e
      have := Int.mul_pos (A.pos i hi h0) (show 0 < 2 * a.getD j 0 + t by have := A.nn j hj; (first | lia | omega))
      (first | (clear q h0 hne hj hi nn' T' A' hpe' B either keep ho T A nn ht h1 hS hpe hp rt; omega) | lia | omega)
    · rw [q] at e; exact e
  · rintro ⟨i, j, hi, hj, hne, h0, e⟩
    refine ⟨i, j, by rw [filtT_len]; exact hi, by rw [filtT_len]; exact hj, hne, h0, ?_⟩
    rw [keep i hi h0]
    have kj : (filtT t own v).getD j 0 = v.getD j 0 := by
      by_cases q : 0 < a.getD j 0
      · exact keep j hj q
      · have aj : a.getD j 0 = 0 := by have := A.nn j hj; (first | lia | omega)
        have := A.tied ht nn hi hj hne h0 aj e
        rw [ho] at this
        rw [filtT_get hj, if_neg (by (first | (clear aj q e h0 hne hj hi nn' T' A' hpe' B either keep ho T A nn ht h1 hS hpe hp rt; lia) | lia | omega))]
    rw [kj]; exact e

noncomputable def postsT (t f : Int) (b : List Int) : List Int := b.map fun x => (2 * x + t) * f
noncomputable def firstR (b : List Int) (m : Nat) : List Int := (List.range b.length).map fun i => b.getD i 0 + (if i < m then 1 else 0)
theorem firstR_get {b : List Int} {m i : Nat} (hi : i < b.length) : (firstR b m).getD i 0 = b.getD i 0 + (if i < m then 1 else 0) := by
  unfold firstR
  rw [List.getD, List.getElem?_map, List.getElem?_range hi]; rfl
theorem postsT_get {t f : Int} {b : List Int} {i : Nat} (hi : i < b.length) : (postsT t f b).getD i 0 = (2 * b.getD i 0 + t) * f := by
  unfold postsT
  rw [List.getD, List.getElem?_map, List.getD, List.getElem?_eq_getElem hi]; rfl
theorem sum_firsts : ∀ (n m : Nat), m ≤ n → sg n (fun i => if i < m then 1 else 0) = (m : Int)
  | 0, m, h => by rw [show m = 0 by (first | lia | omega)]; rfl
  | n + 1, m, h => by
    rw [sg_succ]
    by_cases q : m = n + 1
    · subst q
      have e : sg n (fun i => if i < n + 1 then 1 else 0) = sg n (fun i => if i < n then 1 else 0) := by
        unfold sg; congr 1
        refine List.map_congr_left fun i hi => ?_
        have := List.mem_range.mp hi
        rw [if_pos (by (first | exact Nat.lt_succ_of_lt (by assumption) | lia | omega)), if_pos (by omega)]
      rw [e, sum_firsts n n (Nat.le_refl _), if_pos (by (first | assumption | lia | omega))]; (first | (simp; done) | lia | omega)
    · rw [sum_firsts n m (by (first | lia | omega)), if_neg (by (first | lia | omega))]; (first | (simp; done) | lia | omega)
theorem firstR_sum {b : List Int} {m : Nat} (h : m ≤ b.length) : (firstR b m).sum = b.sum + (m : Int) := by
  have e : (firstR b m).sum = sg b.length (fun i => 1 * b.getD i 0 + 1 * (if i < m then 1 else 0) + 0) := by
    unfold firstR sg
    congr 1
    refine List.map_congr_left fun i z_ => ?_
    (first | (simp; done) | lia | omega)
  rw [e, sg_lin, sg_list, sum_firsts _ _ h]; (first | (simp; done) | lia | omega)

theorem posts_answer {r : Rule} {t f : Int} {b : List Int} {S m : Nat} (rt : RT r t) (hf : 1 ≤ f) (hb : ∀ x ∈ b, 0 ≤ x) (hn : 1 ≤ b.length) (hm : m ≤ b.length) (hS : (S : Int) = b.sum + (m : Int)) (h20 : S ≤ 20) :
    divF r (postsT t f b) S = firstR b m ∧ (divTie r (postsT t f b) S = true ↔ 0 < m ∧ m < b.length) ∧ (∀ p ∈ postsT t f b, 0 < p) := by
  have ht := rt.rng.1
  have hl : (postsT t f b).length = b.length := List.length_map _
  have b0 : ∀ i, i < b.length → 0 ≤ b.getD i 0 := fun i hi => by rw [getD_lt hi]; exact hb _ (List.getElem_mem _)
  have pos : ∀ p ∈ postsT t f b, 0 < p := fun p h => by
    obtain ⟨x, hx, rfl⟩ := List.mem_map.mp h
    exact Int.mul_pos (by have := hb x hx; (first | lia | omega)) (by (first | assumption | lia | omega))
  have hpe : ∃ p ∈ postsT t f b, 0 < p := by
    have h0 : 0 < (postsT t f b).length := by rw [hl]; exact hn
    exact ⟨_, List.getElem_mem h0, pos _ (List.getElem_mem h0)⟩
  obtain ⟨A, T⟩ := sl_of rt (fun p h => Int.le_of_lt (pos p h)) hpe h20
  have nn : ∀ i, i < (postsT t f b).length → 0 ≤ (postsT t f b).getD i 0 := fun i hi => by rw [getD_lt hi]; exact Int.le_of_lt (pos _ (List.getElem_mem _))
  have cmp : ∀ i j, i < b.length → j < b.length → (postsT t f b).getD i 0 * (2 * (firstR b m).getD j 0 + t) = f * ((2 * b.getD i 0 + t) * (2 * (b.getD j 0 + (if j < m then 1 else 0)) + t)) := fun i j hi hj => by
    rw [postsT_get hi, firstR_get hj]; grind
  have cmp2 : ∀ i j, i < b.length → j < b.length → (postsT t f b).getD j 0 * (2 * (firstR b m).getD i 0 - 2 + t) = f * ((2 * b.getD j 0 + t) * (2 * (b.getD i 0 + (if i < m then 1 else 0)) - 2 + t)) := fun i j hi hj => by
    rw [postsT_get hj, firstR_get hi]; grind
  have lt3 : ∀ {x y z : Int}, 0 < x → y < z → f * (x * y) < f * (x * z) := fun hx h => Int.mul_lt_mul_of_pos_left (Int.mul_lt_mul_of_pos_left h hx) (by (first | assumption | lia | omega))
  have eq1 : ∀ i j, i < b.length → j < b.length → i < m → ¬ j < m → (postsT t f b).getD i 0 * (2 * (firstR b m).getD j 0 + t) = (postsT t f b).getD j 0 * (2 * (firstR b m).getD i 0 - 2 + t) := fun i j hi hj q1 q2 => by
    rw [cmp i j hi hj, cmp2 i j hi hj, if_pos q1, if_neg q2]; grind
  have gt1 : ∀ i j, i < b.length → j < b.length → (¬ i < m ∨ j < m) → (postsT t f b).getD i 0 * (2 * (firstR b m).getD j 0 + t) > (postsT t f b).getD j 0 * (2 * (firstR b m).getD i 0 - 2 + t) := fun i j hi hj q => by
    rw [cmp i j hi hj, cmp2 i j hi hj]
    have hbi := b0 i hi
    have hbj := b0 j hj
    have e : f * ((2 * b.getD i 0 + t) * (2 * (b.getD j 0 + (if j < m then 1 else 0)) + t)) = f * ((2 * (b.getD j 0 + (if j < m then 1 else 0)) + t) * (2 * b.getD i 0 + t)) := by rw [Int.mul_comm (2 * b.getD i 0 + t)]
    rcases q with q | q
    · rw [if_neg q]
      have h1 : f * ((2 * b.getD j 0 + t) * (2 * (b.getD i 0 + 0) - 2 + t)) < f * ((2 * b.getD j 0 + t) * (2 * b.getD i 0 + t)) := lt3 (by (first | lia | omega)) (by (first | lia | omega))
      have h2 : f * ((2 * b.getD j 0 + t) * (2 * b.getD i 0 + t)) ≤ f * ((2 * (b.getD j 0 + (if j < m then 1 else 0)) + t) * (2 * b.getD i 0 + t)) :=
        Int.mul_le_mul_of_nonneg_left (Int.mul_le_mul_of_nonneg_right (by split <;> (first | lia | omega)) (by (first | lia | omega))) (by (first | exact Int.le_of_lt (by assumption) | lia | omega))
      rw [e]; exact Int.lt_of_lt_of_le h1 h2
    · rw [if_pos q]
      have h1 : f * ((2 * b.getD j 0 + t) * (2 * (b.getD i 0 + (if i < m then 1 else 0)) - 2 + t)) ≤ f * ((2 * b.getD j 0 + t) * (2 * b.getD i 0 + t)) :=
        Int.mul_le_mul_of_nonneg_left (Int.mul_le_mul_of_nonneg_left (by split <;> (first | lia | omega)) (by (first | lia | omega))) (by (first | exact Int.le_of_lt (by assumption) | lia | omega))
      have h2 : f * ((2 * b.getD i 0 + t) * (2 * b.getD j 0 + t)) < f * ((2 * b.getD i 0 + t) * (2 * (b.getD j 0 + 1) + t)) := lt3 (by (first | lia | omega)) (by (first | lia | omega))
      rw [Int.mul_comm (2 * b.getD i 0 + t) (2 * b.getD j 0 + t)] at h2
      exact Int.lt_of_le_of_lt h1 h2
  have B : Sl t (postsT t f b) S (firstR b m) := by
    refine ⟨by rw [hl]; unfold firstR; rw [List.length_map, List.length_range], by rw [firstR_sum hm, hS], fun i hi => ?_, fun i j hi hj hne z_ => ?_, fun i hi z_ => by rw [getD_lt hi]; exact pos _ (List.getElem_mem _)⟩
    · rw [hl] at hi
      rw [firstR_get hi]
      have := b0 i hi
      split <;> (first | lia | omega)
    · rw [hl] at hi hj
      by_cases q : i < m ∧ ¬ j < m
      · exact .inr ⟨eq1 i j hi hj q.1 q.2, by (first | (clear hj hi gt1 eq1 lt3 cmp2 cmp nn T A hpe pos b0 hl ht h20 hS hm hn hb hf rt hne; lia) | lia | omega)⟩
      · exact .inl (gt1 i j hi hj (by (first | (clear hne hj hi gt1 eq1 lt3 cmp2 cmp nn A pos b0 hl ht h20 hS hm hn hb hf rt T hpe; lia) | lia | omega)))
  have e := A.uniq ht nn B
  refine ⟨e, ?_, pos⟩
  rw [T, e]
  constructor
  · rintro ⟨i, j, hi, hj, hne, h0, e⟩
    rw [hl] at hi hj
    by_cases q : i < m ∧ ¬ j < m
    · (first | (clear e h0 hne hi B gt1 eq1 lt3 cmp2 cmp nn A pos b0 hl ht h20 hS hn hb hf rt T hpe hm; lia) | lia | omega)
    · have := gt1 i j hi hj (by (first | lia | omega))
      (first | (clear q h0 hne hj hi B gt1 eq1 lt3 cmp2 cmp nn T A hpe pos b0 hl ht h20 hS hm hn hb hf rt; omega) | lia | omega)
  · rintro ⟨h1, h2⟩
    refine ⟨0, m, by rw [hl]; (first | assumption | lia | omega), by rw [hl]; exact h2, by (first | exact Nat.ne_of_lt (by assumption) | lia | omega), ?_, eq1 0 m (by (first | assumption | lia | omega)) h2 h1 (Nat.lt_irrefl m)⟩
    rw [firstR_get (by (first | assumption | lia | omega)), if_pos h1]
    have := b0 0 (by (first | assumption | lia | omega))
    (first | lia | omega)
end Mine
end

section
set_option tactic.hygienic false
open PySem PySem.W PyProof.Rows PySem.Calls PySem.SeqAt
set_option linter.unusedVariables false
set_option maxRecDepth 100000
namespace Mine

section
variable {W : Wk} {A : Around} {hid : PMap} {env : Env} {vars : Vars} {mu : Mu} {K : Out → Prop}

noncomputable abbrev vTh (v : List Int) (t own : Int) (D : Addr) : Vars := [("v", .loc D), ("min_votes", .int (v.sum * t)), ("votes", listI v), ("threshold", .tup [.int t, .int own])]
theorem at_specT (D : Defs W) {v : List Int} {t own : Int} (hn : v.length ≤ 63) (m1 : IntMulOk v.sum t) (m2 : ∀ x ∈ v, IntMulOk x own) : Fn W (.ref D.at_) 1 [listI v, .tup [.int t, .int own]] (listI (filtT t own v)) := by
  have N := D.nm
  obtain ⟨hm, kV, doc, pm, an, cdv, ct, F⟩ := D.hat
  refine fn_intro N.ok F [("votes", listI v), ("threshold", .tup [.int t, .int own])] ["votes", "threshold"] rfl (by show paramsOk (scopeOf p1 "apply_threshold") _ = true; decide +kernel) (by decide +kernel) ?_ ?_
  · intro g h tt us kb kg is
    cases is with
    | cons i1 is => cases is with
      | cons i2 is =>
        cases is
        exact ⟨_, BindsTo.of_eq rfl, .cons i1 (.cons i2 .nil)⟩
  · intro A hid L ao hs
    have E : EnvOk (fEnv (fnOf "apply_threshold" "apply_threshold" (argsOf p1 "apply_threshold") (bodyOf p1 "apply_threshold") (scopeOf p1 "apply_threshold") .none kV doc pm an cdv ct) D.at_ L) := ⟨rfl, rfl, rfl⟩
    refine exs_cons (K' := (· = .ret (listI (filtT t own v)))) (ex_if (x := true) (tr_cmp (ev_name rfl rfl) ev_none rfl (c_isnn (by intro v e; cases e))) (fun z_ => ?_) (fun e => nomatch e)) (fun v m e => by cases e) (fun o e z_ => .inl e)
    refine exs_own (ds := []) (ex_own (evnew_list evargs_nil (Nat.zero_le _)) (hs _ (.inl rfl)) rfl rfl rfl) (fun V => ?_)
    refine exs_set (d := .int v.sum) (ev_sum N E ao.handled (ev_name rfl rfl) AsList.list rfl rfl) (hs _ (.inl rfl)) rfl rfl rfl ?_
    refine exs_set (d := .int (v.sum * t)) (ev_mul (ev_name rfl rfl) (ev_pair0 (ev_name rfl rfl) ev_int) m1) (hs _ (.inl rfl)) rfl rfl rfl ?_
    refine run_forget (v' := vTh v t own V) (by walk_at "sub") (List.Sublist.refl _) ?_
    refine exs_next (v := vTh v t own V) (m := [(V, (filtT t own v).map .int)]) (ex_for_xs (fun (x : Int) => PV.int x) v (fun i vv m => vv = vTh v t own V ∧ m = [(V, ((v.take i).map fun x => if x * own < v.sum * t then 0 else x).map .int)]) ao.handled (ev_name rfl rfl) (fun z_ z_ z_ z_ => .list AsList.list) ⟨rfl, rfl⟩ (hs _ (.inl rfl)) rfl rfl (fun z_ => rfl) ?_ ?_) (exs_cons (ex_retloc (ev_name rfl rfl) (.head _)) (fun v m e => nomatch e) (fun o e z_ => e))
    · rintro hid' i vv m x hsto hx ⟨rfl, rfl⟩
      have hmx : x ∈ v := List.mem_of_getElem? hx
      have hi := lt_of_get hx
      have ht : (v.take (i + 1)).map (fun x => if x * own < v.sum * t then 0 else x) = (v.take i).map (fun x => if x * own < v.sum * t then 0 else x) ++ [if x * own < v.sum * t then 0 else x] := by
        rw [List.take_add_one, hx, List.map_append]; rfl
      have len : (((v.take i).map fun x => if x * own < v.sum * t then 0 else x).map PV.int).length ≤ 99999 := by
        rw [List.length_map, List.length_map, List.length_take]; exact Nat.le_trans (Nat.min_le_right _ _) (Nat.le_trans hn (Nat.le_of_ble_eq_true rfl))
      refine exs_cons (K' := (· = .next (("vote", .int x) :: vTh v t own V) [(V, ((v.take i).map fun x => if x * own < v.sum * t then 0 else x).map .int ++ [.int (if x * own < v.sum * t then 0 else x)])])) (ex_if (x := decide (x * own < v.sum * t)) (tr_cmp (ev_mul (ev_name rfl rfl) (ev_pair1 (ev_name rfl rfl) ev_int) (m2 x hmx)) (ev_name rfl rfl) rfl c_lt) (fun e => ?_) (fun e => ?_)) ?_ (fun o e hn => absurd e (hn _ _))
      · rw [if_pos (of_decide_eq_true e)]
        exact exs_next (ex_append (m1 := []) (m2 := []) (a := V) (d := .int 0) (ev_name rfl rfl) ev_int len rfl rfl rfl rfl rfl) (exs_nil rfl)
      · rw [if_neg (of_decide_eq_false e)]
        exact exs_next (ex_append (m1 := []) (m2 := []) (a := V) (d := .int x) (ev_name rfl rfl) (ev_name rfl rfl) len rfl rfl rfl rfl rfl) (exs_nil rfl)
      · rintro v' m' e
        cases e
        refine exs_nil ⟨vTh v t own V, _, by walk_at "sub", List.Sublist.refl _, rfl, ?_⟩
        rw [ht, List.map_append]; rfl
    · rintro vv m ⟨rfl, rfl⟩
      rw [List.take_length]; rfl

set_option maxHeartbeats 400000 in
theorem cp_specT (D : Defs W) {C : Addr} {θ : PV} {votes fv : List Int} {S B : Nat} {nm : Str} {r : Rule} {ta : Bool} (X : OwnX W "TiesException" C) (hr : nm ∈ ruleNames r) (hT : Fn W (.ref D.at_) 1 [listI votes, θ] (listI fv)) (P : DivPre r fv S B nm) :
    FnP W (ta = false) (.ref D.cp) 2 [.str nm, listI votes, .int S, θ, .bool ta] (fun d => (ta = false → divTie r fv S = false) ∧ d = listI (divF r fv S)) (fun x => ta = false ∧ divTie r fv S = true ∧ x = .ref C) := by
  have N := D.nm
  obtain ⟨n1, n2, n3, n4⟩ := names_ok r nm hr
  have DC := D.hcp
  obtain ⟨hm, kV, doc, pm, an, cdv, ct, F⟩ := DC
  refine fn_introP (fun z_ h => h.1) N.ok F [("method", .str nm), ("votes", listI votes), ("seats", .int S), ("threshold", θ), ("tiesallowed", .bool ta)] ["method", "votes", "seats", "threshold", "tiesallowed"] rfl (by show paramsOk (scopeOf p1 "compute") _ = true; decide +kernel) (by decide +kernel) ?_ ?_
  · intro g h t us kb kg is
    cases is with
    | cons i1 is => cases is with
      | cons i2 is => cases is with
        | cons i3 is => cases is with
          | cons i4 is => cases is with
            | cons i5 is =>
              cases is
              exact ⟨_, BindsTo.of_defaults rfl (kb _ _ D.hcpT) D.hcpd rfl rfl, .cons i1 (.cons i2 (.cons i3 (.cons i4 (.cons i5 .nil))))⟩
  intro A hid L outer ao FX hs
  refine exs_next (ex_assign (ev_call_def N ⟨rfl, rfl, rfl⟩ ao D.hat rfl (by decide +kernel) (by walk_at "args") hT rfl) (hs _ (.inl rfl)) rfl rfl rfl) ?_
  refine exs_cons (ex_if (x := (nm == ("quota" : Str))) (tr_cmp (ev_name rfl rfl) ev_str rfl c_eqs) (fun e => by rw [n1] at e; cases e) (fun z_ => ?_)) (fun v m e => absurd rfl (not_next e)) (fun o e z_ => e)
  refine exs_cons (ex_if (x := lrNames.any (· == nm)) ?_ (fun e => by rw [n2] at e; cases e) (fun z_ => ?_)) (fun v m e => absurd rfl (not_next e)) (fun o e z_ => e)
  · refine ev_in (ns := lrNames) (d := .list (lrNames.map PV.str)) (ev_name rfl rfl) ?_ ?_ rfl
    · refine ev_list ?_ ?_
      · iterate 3 refine evargs_str ?_
        exact evargs_nil
      · exact Nat.le_of_ble_eq_true rfl
    · exact AsList.list
  refine exs_cons (ex_if (x := allNames.any (· == nm)) ?_ (fun z_ => ?_) (fun e => by rw [n3] at e; cases e)) (fun v m e => absurd rfl (not_next e)) (fun o e z_ => e)
  · refine ev_in (ns := allNames) (d := .list (allNames.map PV.str)) (ev_name rfl rfl) ?_ ?_ rfl
    · refine ev_list ?_ ?_
      · iterate 14 refine evargs_str ?_
        exact evargs_nil
      · exact Nat.le_of_ble_eq_true rfl
    · exact AsList.list
  refine exs_cons (ex_retG (ev_call_defG N ⟨rfl, rfl, rfl⟩ ao FX (fun z_ h => h.1) D.hdv rfl (by decide +kernel) (by walk_at "args") (div_specG N (fun z_ => X) D.hdv D.hdvT D.hdvd P) rfl)) ?_ ?_
  · rintro v m (⟨_, _, e⟩ | ⟨_, _, e⟩) <;> cases e
  · rintro o (e | ⟨x, hx, e⟩) _
    · exact .inl e
    · exact .inr ⟨x, _, _, hx, e⟩

noncomputable def nonV (b : Bool) (a : List Int) : PV := if b then .none else listI a
set_option maxHeartbeats 400000 in
theorem told_specT {a C : Addr} {θ : PV} {v fv : List Int} {S B : Nat} {nm : Str} {r : Rule} {ta : Bool} (D : Defs W) (X : OwnX W "TiesException" C) (DA : DefAt W p1 "_law_told" a .none) (hr : nm ∈ ruleNames r) (hT : Fn W (.ref D.at_) 1 [listI v, θ] (listI fv)) (P : DivPre r fv S B nm) :
    FnG W (.ref a) 3 [.str nm, listI v, .int (S : Int), θ, .bool ta] (· = nonV (!ta && divTie r fv S) (divF r fv S)) (fun z_ => False) := by
  have N := D.nm
  obtain ⟨hm, kV, doc, pm, an, cdv, ct, F⟩ := DA
  refine fn_introX N.ok F [("name", .str nm), ("votes", listI v), ("seats", .int (S : Int)), ("threshold", θ), ("ties", .bool ta)] ["name", "votes", "seats", "threshold", "ties"] rfl (by show paramsOk (scopeOf p1 "_law_told") _ = true; decide +kernel) (by decide +kernel) ?_ ?_
  · intro g h t us kb kg is
    cases is with
    | cons i1 is => cases is with
      | cons i2 is => cases is with
        | cons i3 is => cases is with
          | cons i4 is => cases is with
            | cons i5 is =>
              cases is
              exact ⟨_, BindsTo.of_eq rfl, .cons i1 (.cons i2 (.cons i3 (.cons i4 (.cons i5 .nil))))⟩
  · intro A hid L outer ao FX hs
    have E : EnvOk (fEnv (fnOf "_law_told" "_law_told" (argsOf p1 "_law_told") (bodyOf p1 "_law_told") (scopeOf p1 "_law_told") .none kV doc pm an cdv ct) a L) := ⟨rfl, rfl, rfl⟩
    refine exs_cons (K' := (· = .ret (nonV (!ta && divTie r fv S) (divF r fv S))))
      (ex_tryX (K' := fun o => ((ta = false → divTie r fv S = false) ∧ o = .ret (listI (divF r fv S))) ∨ (∃ m v, ta = false ∧ divTie r fv S = true ∧ o = .exc (.ref C) v m)) (K2 := fun o => (ta = false ∧ divTie r fv S = true) ∧ o = .ret .none)
        N.ok X FX (gname_g E X.own.bound rfl (by decide +kernel)) ?_ ?_ ?_ ?_ ?_) (fun v m e => nomatch e) (fun o e z_ => .inl ⟨_, rfl, e⟩)
    · refine exs_cons (ex_retG (ev_call_defG N E ao (fun z_ => FX) (fun z_ z_ => trivial) D.hcp rfl (by decide +kernel) (by walk_at "args") ((cp_specT D X hr hT P).imp (fun z_ => trivial) (fun z_ h => h) (fun z_ h => h)) rfl)) ?_ ?_
      · rintro v m (⟨_, _, e⟩ | ⟨_, _, e⟩) <;> cases e
      · rintro o (⟨d, ⟨h1, rfl⟩, e⟩ | ⟨x, ⟨h1, h2, rfl⟩, e⟩) _
        · exact .inl ⟨h1, e⟩
        · exact .inr ⟨_, _, h1, h2, e⟩
    · rintro o (⟨h1, e⟩ | ⟨_, _, _, _, e⟩) hn
      · have : (!ta && divTie r fv S) = false := by
          cases ta
          · rw [h1 rfl]; rfl
          · rfl
        rw [this]; exact e
      · exact absurd e (hn _ _ _)
    · rintro y v' m' (⟨_, e⟩ | ⟨_, _, h1, h2, e⟩)
      · cases e
      · cases e
        exact ⟨rfl, fun z_ => exs_ret ev_none ⟨⟨h1, h2⟩, rfl⟩⟩
    · rintro o ⟨⟨h1, h2⟩, e⟩
      subst h1
      rw [h2]; exact e
    · rintro y v' m' ⟨_, e⟩; cases e
end
end Mine
end

section
set_option tactic.hygienic false
open PySem PySem.W PyProof.Rows PySem.Calls PySem.SeqAt
set_option linter.unusedVariables false
set_option maxRecDepth 100000
namespace Mine

structure Set3 (r : Rule) (t : Int) (v : List Int) (S B : Nat) (nm : Str) : Prop where
  rt : RT r t
  nm : nm ∈ ruleNames r
  nn : ∀ p ∈ v, 0 ≤ p
  pe : ∃ p ∈ v, 0 < p
  hS : S ≤ 20
  n4 : v.length ≤ 4
  small : ∀ p ∈ v, p.natAbs < 2 ^ B
  sum : v.sum.natAbs < 2 ^ B
  hB : B ≤ 2 * 10 ^ 6
theorem Set3.n1 {r t v S B nm} (H : Set3 r t v S B nm) : 1 ≤ v.length := by obtain ⟨p, hm, _⟩ := H.pe; exact List.length_pos_of_mem hm
theorem Set3.pre {r t v S B nm} (H : Set3 r t v S B nm) {w : List Int} (hl : w.length = v.length) (hw : ∀ p ∈ w, p.natAbs < 2 ^ B) : DivPre r w S B nm := by
  have n1 := H.n1
  have n4 := H.n4
  have hS := H.hS
  refine ⟨Nat.le_trans hS (by decide), by rw [hl]; exact n1, by rw [hl]; exact Nat.le_trans n4 (by decide), fun q hq e => ?_, (names_ok r nm H.nm).2.2.2, ?_, hw, Nat.le_trans H.hB (by decide)⟩
  · have h0 := H.rt.free
    rw [e] at h0
    rcases hq with rfl | rfl | rfl <;> cases h0
  · rw [hl]; exact Nat.le_trans (Nat.mul_le_mul n4 hS) (by decide)
noncomputable def nonD (b : Bool) (a : List Int) : PyData := if b then .none else .list (a.map .int)
theorem non_dat {mu : Mu} {b : Bool} {a : List Int} : Dat mu (nonV b a) (nonD b a) := by
  cases b
  · exact .nums AsList.list
  · exact .none
theorem eqv_non (b : Bool) (a l : List Int) : PyData.eqv (nonD b a) (.list (l.map .int)) = (!b && decide (a = l)) := by
  cases b
  · exact eqv_ints a l
  · rfl
theorem eqv_nonself (b : Bool) (a : List Int) : PyData.eqv (nonD b a) (nonD b a) = true := by
  cases b
  · exact (eqv_ints a a).trans (decide_eq_true rfl)
  · rfl
theorem natAbs20 {x : Int} (h : -1000 ≤ x) (h2 : x ≤ 1000) : x.natAbs < 2 ^ 20 := by (first | lia | omega)

section
variable {W : Wk} {A : Around} {hid : PMap} {env : Env} {vars : Vars} {mu : Mu} {K : Out → Prop}
noncomputable abbrev vKeep (r : Rule) (t : Int) (v : List Int) (S : Nat) (nm : Str) : Vars := [("own", .int (2 * (S : Int) + (v.length : Int) * t - 2)), ("total", .int v.sum), ("parties", .int ((v.length : Nat) : Int)), ("name", .str nm), ("step", .int t), ("votes", listI v), ("seats", .int (S : Int)), ("told", listI (divF r v S)), ("strict", nonV (divTie r v S) (divF r v S))]
set_option maxHeartbeats 1000000 in
theorem keeps_spec {ka ta C : Addr} {r : Rule} {t : Int} {v : List Int} {S B : Nat} {nm : Str} (D : Defs W) (X : OwnX W "TiesException" C) (DT : DefAt W p1 "_law_told" ta .none) (DK : DefAt W p1 "_law_keeps" ka .none) (H : Set3 r t v S B nm) :
    FnG W (.ref ka) 4 [.str nm, .int t, listI v, .int (S : Int), listI (divF r v S), nonV (divTie r v S) (divF r v S)] (· = .bool true) (fun z_ => False) := by
  have N := D.nm
  obtain ⟨hm, kV, doc, pm, an, cdv, ct, F⟩ := DK
  refine fn_introX N.ok F [("name", .str nm), ("step", .int t), ("votes", listI v), ("seats", .int (S : Int)), ("told", listI (divF r v S)), ("strict", nonV (divTie r v S) (divF r v S))] ["name", "step", "votes", "seats", "told", "strict"] rfl (by show paramsOk (scopeOf p1 "_law_keeps") _ = true; decide +kernel) (by decide +kernel) ?_ ?_
  · intro g h t us kb kg is
    cases is with
    | cons i1 is => cases is with
      | cons i2 is => cases is with
        | cons i3 is => cases is with
          | cons i4 is => cases is with
            | cons i5 is => cases is with
              | cons i6 is =>
                cases is
                exact ⟨_, BindsTo.of_eq rfl, .cons i1 (.cons i2 (.cons i3 (.cons i4 (.cons i5 (.cons i6 .nil)))))⟩
  · intro A hid L outer ao FX hs
    have E : EnvOk (fEnv (fnOf "_law_keeps" "_law_keeps" (argsOf p1 "_law_keeps") (bodyOf p1 "_law_keeps") (scopeOf p1 "_law_keeps") .none kV doc pm an cdv ct) ka L) := ⟨rfl, rfl, rfl⟩
    refine Run.imp (K := (· = .ret (.bool true))) ?_ fun o e => .inl ⟨_, rfl, e⟩
    have ao3 : AOk W A 3 := ao.less (by decide)
    have v63 : v.length ≤ 63 := Nat.le_trans H.n4 (by decide)
    have n1 := H.n1
    have n4 := H.n4
    have hS := H.hS
    have hB := H.hB
    have tr := H.rt.rng
    obtain ⟨SL, TI⟩ := sl_of H.rt H.nn H.pe hS
    have nn : ∀ i, i < v.length → 0 ≤ v.getD i 0 := fun i hi => by rw [getD_lt hi]; exact H.nn _ (List.getElem_mem _)
    have sm : ∀ {i}, i < v.length → (v.getD i 0).natAbs < 2 ^ B := fun {i} hi => by rw [getD_lt hi]; exact H.small _ (List.getElem_mem _)
    have a63 : (divF r v S).length ≤ 63 := by rw [SL.len]; exact v63
    have mnt : 0 ≤ (v.length : Int) * t ∧ (v.length : Int) * t ≤ 8 := by
      have h1 : 0 ≤ (v.length : Int) * t := Int.mul_nonneg (Int.natCast_nonneg _) (by (first | lia | omega))
      have h2 : (v.length : Int) * t ≤ 4 * 2 := Int.mul_le_mul (by (first | lia | omega)) tr.2 (by (first | lia | omega)) (by (first | exact Int.natCast_nonneg _ | lia | omega))
      (first | lia | omega)
    have own20 : (2 * (S : Int) + (v.length : Int) * t - 2).natAbs < 2 ^ 20 := natAbs20 (by (first | lia | omega)) (by (first | lia | omega))
    refine exs_next (ex_unpack_sw (names := ["total", "parties"]) ao.handled rfl (ev_tuple (ds := [.int v.sum, .int ((v.length : Nat) : Int)]) (evargs_cons (ev_sum N E ao.handled (ev_name rfl rfl) AsList.list rfl rfl) (evargs_cons (ev_lenI N E rfl v63 rfl rfl) evargs_nil rfl) rfl) (Nat.le_of_ble_eq_true rfl)) rfl (.cons (hs _ (.inl rfl)) rfl (.cons (hs _ (.inl rfl)) rfl .nil)) rfl rfl) ?_
    refine exs_skip (tr_bool (.more (b := false) ?_ rfl (.more (b := false) ?_ rfl (.more (b := false) ?_ rfl .nil)))) ?_
    · have e : false = ((((divF r v S).length : Nat) : Int) != ((v.length : Nat) : Int)) := by rw [SL.len]; simp
      rw [e]
      exact tr_cmp (ev_lenI N E rfl a63 rfl rfl) (ev_name rfl rfl) rfl c_ne
    · have e : false = ((divF r v S).sum != (S : Int)) := by rw [SL.sum]; simp
      rw [e]
      exact tr_cmp (ev_sum N E ao.handled (ev_name rfl rfl) AsList.list rfl rfl) (ev_name rfl rfl) rfl c_ne
    · refine tr_eq ?_ (tr_and2 (tr_cmp (ev_name rfl rfl) ev_none rfl (c_isnn (a := nonV (divTie r v S) (divF r v S)) (by intro w e; cases q : divTie r v S <;> rw [q] at e <;> cases e))) fun z_ => tr_cmp (ev_name rfl rfl) (ev_name rfl rfl) rfl (c_ned ao (non_dat (b := divTie r v S) (a := divF r v S)) (.nums (ns := divF r v S) AsList.list)))
      rw [eqv_non, decide_eq_true rfl]
      cases divTie r v S <;> rfl
    refine exs_set (d := .int (2 * (S : Int) + (v.length : Int) * t - 2)) (ev_sub (ev_add (ev_mul ev_int (ev_name rfl rfl) (mulOk20 (by decide) (natAbs20 (by (first | exact Int.natCast_nonneg _ | lia | omega)) (by (first | lia | omega))))) (ev_mul (ev_name rfl rfl) (ev_name rfl rfl) (mulOk20 (natAbs20 (by (first | exact Int.natCast_nonneg _ | lia | omega)) (by (first | lia | omega))) (natAbs20 (by (first | lia | omega)) (by (first | lia | omega)))))) ev_int) (hs _ (.inl rfl)) rfl rfl rfl ?_
    refine run_forget (v' := vKeep r t v S nm) (by walk_at "sub") (List.Sublist.refl _) ?_
    refine exs_next (v := vKeep r t v S nm) (m := []) (ex_for_rng (n := v.length) (fun z_ vv m => vv = vKeep r t v S nm ∧ m = []) ao.handled (ev_range1 N E (ev_name rfl rfl) rfl rfl) (lt61 v63) ⟨rfl, rfl⟩ (hs _ (.inl rfl)) rfl rfl (fun z_ => rfl) ?_ ?_) ?_
    · rintro hid' i vv m hsto hi ⟨rfl, rfl⟩
      have a0 := SL.nn i hi
      have aS : (divF r v S).getD i 0 ≤ (S : Int) := by
        have := sg_term SL.nn hi
        rw [sg_listN SL.len, SL.sum] at this; exact this
      have LE := fun h => SL.least nn hi h
      have MO := SL.most tr.1 tr.2 nn hi
      generalize hg : (divF r v S).getD i 0 = ai at *
      have m1 : IntMulOk (2 : Int) ai := mulOk20 (by decide) (natAbs20 (by (first | lia | omega)) (by (first | lia | omega)))
      refine exs_skip (tr_eq ?_ (tr_and2 (x := decide (ai > 0)) (y := decide (v.getD i 0 * (2 * (S : Int) + (v.length : Int) * t - 2) < (2 * ai - 2 + t) * v.sum)) (tr_cmp (by rw [← hg]; exact ev_iidx (xs := divF r v S) (ev_name rfl rfl) (ev_name rfl rfl) AsList.list (by rw [SL.len]; exact hi) (le5 a63)) ev_int rfl c_gt) fun z_ => tr_cmp (ev_mul (ev_iidx (xs := v) (ev_name rfl rfl) (ev_name rfl rfl) AsList.list hi (le5 v63)) (ev_name rfl rfl) (mulOk (sm hi) own20 (by (first | lia | omega)))) (ev_mul (ev_add (ev_sub (ev_mul ev_int (by rw [← hg]; exact ev_iidx (xs := divF r v S) (ev_name rfl rfl) (ev_name rfl rfl) AsList.list (by rw [SL.len]; exact hi) (le5 a63)) m1) ev_int) (ev_name rfl rfl)) (ev_name rfl rfl) (mulOk (j := 20) (natAbs20 (by (first | lia | omega)) (by (first | lia | omega))) H.sum (by (first | lia | omega)))) rfl c_lt)) ?_
      · by_cases q : ai > 0
        · rw [decide_eq_false (Int.not_lt.mpr (LE q)), Bool.and_false]
        · rw [decide_eq_false q]; rfl
      have svr : 0 ≤ min ((v.length : Int) - 1) ((S : Int) - ai) ∧ min ((v.length : Int) - 1) ((S : Int) - ai) ≤ 3 := by (first | (clear m1 MO LE a0 hg hi hsto own20 mnt a63 sm nn SL tr hB hS v63 ao3 E hs FX ao F hm N H DT X; omega) | lia | omega)
      refine exs_set (d := .int (min ((v.length : Int) - 1) ((S : Int) - ai))) (ev_min2 N E ao.handled (ev_sub (ev_name rfl rfl) ev_int) (ev_sub (ev_name rfl rfl) (by rw [← hg]; exact ev_iidx (xs := divF r v S) (ev_name rfl rfl) (ev_name rfl rfl) AsList.list (by rw [SL.len]; exact hi) (le5 a63))) rfl rfl rfl) (hsto _ (hs _ (.inl rfl))) rfl rfl rfl ?_
      generalize min ((v.length : Int) - 1) ((S : Int) - ai) = sv at *
      have ms : 0 ≤ sv * (2 - t) ∧ sv * (2 - t) ≤ 3 := by
        have h1 : 0 ≤ sv * (2 - t) := Int.mul_nonneg svr.1 (by (first | lia | omega))
        have h2 : sv * (2 - t) ≤ 3 * 1 := Int.mul_le_mul svr.2 (by (first | lia | omega)) (by (first | lia | omega)) (by (first | exact Int.natCast_nonneg _ | lia | omega))
        (first | (clear svr MO m1 LE aS a0 hg hi hsto own20 mnt a63 sm nn TI SL tr hB hS n4 n1 v63 ao3 E hs FX ao F hm N H DT X; omega) | lia | omega)
      refine exs_skip (tr_eq ?_ (tr_cmp (c := decide (v.getD i 0 * (2 * (S : Int) + t - sv * (2 - t)) > (2 * ai + t) * v.sum)) (ev_mul (ev_iidx (xs := v) (ev_name rfl rfl) (ev_name rfl rfl) AsList.list hi (le5 v63)) (ev_sub (ev_add (ev_mul ev_int (ev_name rfl rfl) (mulOk20 (by decide) (natAbs20 (by (first | exact Int.natCast_nonneg _ | lia | omega)) (by (first | lia | omega))))) (ev_name rfl rfl)) (ev_mul (ev_name rfl rfl) (ev_sub ev_int (ev_name rfl rfl)) (mulOk20 (natAbs20 (by (first | lia | omega)) (by (first | lia | omega))) (natAbs20 (by (first | lia | omega)) (by (first | lia | omega)))))) (mulOk (k := 20) (sm hi) (natAbs20 (by (first | lia | omega)) (by (first | (clear svr MO m1 LE aS a0 hg hi hsto own20 mnt a63 sm nn TI SL hB n4 n1 v63 ao3 E hs FX ao F hm N H DT X; lia) | lia | omega))) (by (first | lia | omega))))
        (ev_mul (ev_add (ev_mul ev_int (by rw [← hg]; exact ev_iidx (xs := divF r v S) (ev_name rfl rfl) (ev_name rfl rfl) AsList.list (by rw [SL.len]; exact hi) (le5 a63)) m1) (ev_name rfl rfl)) (ev_name rfl rfl) (mulOk (j := 20) (natAbs20 (by (first | (simp only [Int.natCast_add, Int.natCast_one] at *; lia) | lia | omega)) (by (first | lia | omega))) H.sum (by (first | lia | omega)))) rfl c_gt)) (exs_nil ⟨_, _, ?_, List.Sublist.refl _, rfl, rfl⟩)
      · exact decide_eq_false (Int.not_lt.mpr MO)
      · walk_at "sub"
    · rintro vv m ⟨rfl, rfl⟩; rfl
    refine exs_go (c := ((S : Int) == 0)) (tr_cmp (ev_name rfl rfl) ev_int rfl c_eq) (fun z_ => ⟨ev_bool, rfl⟩) (fun e => ?_)
    rw [beq_eq_false_iff_ne] at e
    obtain ⟨f1, f2, f3⟩ := filt_same H.rt H.nn H.pe hS (by (first | lia | omega))
    have hT := at_specT (W := W) D (v := v) (t := t) (own := 2 * (S : Int) + (v.length : Int) * t - 2) v63 (mulOk (k := 20) H.sum (natAbs20 (by (first | lia | omega)) (by (first | lia | omega))) (by (first | lia | omega))) (fun x hx => mulOk (H.small x hx) own20 (by (first | lia | omega)))
    have P := H.pre (w := filtT t (2 * (S : Int) + (v.length : Int) * t - 2) v) filtT_len (fun p hp => by
      obtain ⟨x, hx, rfl⟩ := List.mem_map.mp hp
      split
      · exact Nat.pow_pos (by decide)
      · exact H.small x hx)
    have TS := fun b => told_specT (ta := b) D X DT H.nm hT P
    rw [f1, f2] at TS
    have ev : ∀ {b : Bool} {np pos q1 q2 q3 q4 q5 q6 q7 : Pos}, Ev W A hid (fEnv (fnOf "_law_keeps" "_law_keeps" (argsOf p1 "_law_keeps") (bodyOf p1 "_law_keeps") (scopeOf p1 "_law_keeps") .none kV doc pm an cdv ct) ka L) (vKeep r t v S nm) [] (.Call (.Name "_law_told" np) [.Name "name" q1, .Name "votes" q2, .Name "seats" q3, .Tuple [.Name "step" q4, .Name "own" q5] 0 q6, .Constant (.bool b) 0 q7] [] pos) (nonV (!b && divTie r v S) (divF r v S)) := fun {b np pos q1 q2 q3 q4 q5 q6 q7} =>
      EvG.ev (ev_call_defG N E ao3 (fun z_ => FX) (fun z_ h => h.elim) DT rfl (by decide +kernel) (evargs_cons (ev_name rfl rfl) (evargs_cons (ev_name rfl rfl) (evargs_cons (ev_name rfl rfl) (evargs_cons (ev_tuple (evargs_cons (ev_name rfl rfl) (evargs_cons (ev_name rfl rfl) evargs_nil rfl) rfl) (Nat.le_of_ble_eq_true rfl)) (evargs_cons ev_bool evargs_nil rfl) rfl) rfl) rfl) rfl) (TS b) rfl) (fun z_ h => h) (fun z_ h => h)
    refine exs_skip (tr_eq ?_ (tr_cmp (a := listI (divF r v S)) ev (ev_name rfl rfl) rfl (c_nel ao AsList.list (ms := divF r v S) AsList.list))) ?_
    · rw [decide_eq_true rfl]; rfl
    refine exs_ret (ev_eq ?_ (ev_cmp (a := nonV (divTie r v S) (divF r v S)) ev (ev_name rfl rfl) rfl (c_eqd ao non_dat non_dat))) rfl
    rw [eqv_nonself]
end
end Mine
end

section
set_option tactic.hygienic false
open PySem PySem.W PyProof.Rows PySem.Calls PySem.SeqAt
set_option linter.unusedVariables false
set_option maxRecDepth 100000
namespace Mine

theorem sumP_nonneg : ∀ {l : List Int}, (∀ x ∈ l, 0 ≤ x) → 0 ≤ l.sum
  | [], _ => Int.le_refl _
  | x :: r, h => by rw [List.sum_cons]; exact Int.add_nonneg (h x List.mem_cons_self) (sumP_nonneg fun z hz => h z (List.mem_cons_of_mem _ hz))
theorem sumP_le : ∀ {l : List Int} {c : Int}, (∀ x ∈ l, x ≤ c) → l.sum ≤ c * (l.length : Int)
  | [], c, _ => by simp
  | x :: r, c, h => by
    have h1 := sumP_le (c := c) fun z hz => h z (List.mem_cons_of_mem x hz)
    have h2 := h x List.mem_cons_self
    rw [List.sum_cons, List.length_cons, Int.natCast_add, Int.mul_add]; simp; (first | lia | omega)
noncomputable def w3 (ns : List Int) : List Int := (sliceP ns (some 4) (some 8)).map fun x => (x.natAbs : Int)
noncomputable def u3 (ns : List Int) : List Int := if w3 ns = [] then [1] else w3 ns
noncomputable def v3 (ns : List Int) : List Int := if (u3 ns).sum = 0 then (u3 ns).set 0 1 else u3 ns
theorem w3_len (ns : List Int) : (w3 ns).length ≤ 4 := by unfold w3; rw [List.length_map]; exact sliceP_len ns 4 8
theorem u3_ok {ns : List Int} {B : Nat} (h : ∀ x ∈ ns, x.natAbs < 2 ^ B) : 1 ≤ (u3 ns).length ∧ (u3 ns).length ≤ 4 ∧ ∀ p ∈ u3 ns, 0 ≤ p ∧ p ≤ 2 ^ B := by
  have ex : ((2 ^ B : Nat) : Int) = 2 ^ B := by rw [Int.natCast_pow]; rfl
  have h1 : 1 ≤ 2 ^ B := Nat.one_le_two_pow
  unfold u3
  set_option tactic.hygienic true in split
  · exact ⟨by decide, by decide, fun p hp => by rw [List.mem_singleton] at hp; subst hp; (first | lia | omega)⟩
  · rename_i q
    refine ⟨List.length_pos_iff.mpr q, w3_len ns, fun p hp => ?_⟩
    unfold w3 at hp
    obtain ⟨x, hx, rfl⟩ := List.mem_map.mp hp
    have := h x (sliceP_mem hx)
    (first | (clear hp hx q h1 ex h; lia) | lia | omega)
theorem v3_ok {ns : List Int} {B : Nat} (h : ∀ x ∈ ns, x.natAbs < 2 ^ B) : 1 ≤ (v3 ns).length ∧ (v3 ns).length ≤ 4 ∧ (∀ p ∈ v3 ns, 0 ≤ p ∧ p ≤ 2 ^ B) ∧ ∃ p ∈ v3 ns, 0 < p := by
  obtain ⟨h1, h4, hp⟩ := u3_ok h
  have ex : ((2 ^ B : Nat) : Int) = 2 ^ B := by rw [Int.natCast_pow]; rfl
  have hb : 1 ≤ 2 ^ B := Nat.one_le_two_pow
  have hb : (1 : Int) ≤ 2 ^ B := by (first | lia | omega)
  unfold v3
  generalize u3 ns = u at *
  by_cases q : u.sum = 0
  · rw [if_pos q]
    cases u with
    | nil => cases h1
    | cons x r =>
      refine ⟨h1, h4, fun p h => ?_, 1, List.mem_cons_self, by decide⟩
      rcases List.mem_cons.mp h with rfl | h
      · exact ⟨by decide, hb⟩
      · exact hp p (List.mem_cons_of_mem _ h)
  · rw [if_neg q]
    refine ⟨h1, h4, hp, Classical.byContradiction fun z => q ?_⟩
    have h0 := sumP_nonneg fun x hx => (hp x hx).1
    have h2 := sumP_le (c := 0) fun x hx => Int.not_lt.mp fun y => z ⟨x, hx, y⟩
    (first | (clear z hp h4 h1 hb ex h q; lia) | lia | omega)
theorem small_of {p : Int} {B : Nat} (h : 0 ≤ p ∧ p ≤ 2 ^ B) : p.natAbs < 2 ^ (B + 3) := by
  have ex : ((2 ^ B : Nat) : Int) = 2 ^ B := by rw [Int.natCast_pow]; rfl
  have : 2 ^ (B + 3) = 2 ^ B * 8 := by rw [Nat.pow_add]
  have hb : 1 ≤ 2 ^ B := Nat.one_le_two_pow
  (first | (clear ex this; lia) | lia | omega)
theorem small_sum {l : List Int} {B : Nat} (h : ∀ p ∈ l, 0 ≤ p ∧ p ≤ 2 ^ B) (h4 : l.length ≤ 4) : l.sum.natAbs < 2 ^ (B + 3) := by
  have ex : ((2 ^ B : Nat) : Int) = 2 ^ B := by rw [Int.natCast_pow]; rfl
  have : 2 ^ (B + 3) = 2 ^ B * 8 := by rw [Nat.pow_add]
  have hb : 1 ≤ 2 ^ B := Nat.one_le_two_pow
  have h0 := sumP_nonneg fun x hx => (h x hx).1
  have h2 := sumP_le fun x hx => (h x hx).2
  have h3 : (2 : Int) ^ B * (l.length : Int) ≤ 2 ^ B * 4 := Int.mul_le_mul_of_nonneg_left (by (first | lia | omega)) (by (first | exact Int.natCast_nonneg _ | lia | omega))
  (first | (clear ex h4 h this; lia) | lia | omega)

noncomputable def rule3 : Nat → Rule
  | 0 => .web
  | _ => .jeff
noncomputable abbrev names3V : PV := .list ([ruleNames .web, ruleNames .jeff].map strsV)
theorem rt3 {u : Nat} (h : u < 2) : RT (rule3 u) ((u + 1 : Nat) : Int) := by
  rcases (show u = 0 ∨ u = 1 by (first | lia | omega)) with rfl | rfl
  · exact .web
  · exact .jeff
theorem names3_len {u : Nat} (h : u < 2) : (ruleNames (rule3 u)).length = 3 := by
  rcases (show u = 0 ∨ u = 1 by (first | lia | omega)) with rfl | rfl <;> decide
theorem names3_get {u : Nat} (h : u < 2) : [ruleNames .web, ruleNames .jeff][u]? = some (ruleNames (rule3 u)) := by
  rcases (show u = 0 ∨ u = 1 by (first | lia | omega)) with rfl | rfl <;> rfl

structure Ctx3 (W : Wk) where
  D : Defs W
  C : Addr
  X : OwnX W "TiesException" C
  ta : Addr
  DT : DefAt W p1 "_law_told" ta .none
  ka : Addr
  DK : DefAt W p1 "_law_keeps" ka .none
  G : GData W "_law_names" names3V

section
variable {W : Wk} {A : Around} {hid : PMap} {env : Env} {vars : Vars} {mu : Mu} {K : Out → Prop}
noncomputable abbrev lEnv (p : Program) (a L : Addr) (dV kV doc pm : Value) (an : Option Addr) (cdv ct : Value) : Env := fEnv (fnOf "law" "law" (argsOf p "law") (bodyOf p "law") (scopeOf p "law") dV kV doc pm an cdv ct) a L
noncomputable abbrev StoAll (hid : PMap) (env : Env) : Prop := ∀ x, ((scopeOf p1 "law").names.lookup x == some .local || (scopeOf p1 "law").names.lookup x == some .cell) = true → Sto hid env x
theorem stoAll {hid : PMap} {env : Env} (hs : ∀ x, (scopeOf p1 "law").names.lookup x = some .local ∨ (scopeOf p1 "law").names.lookup x = some .cell → Sto hid env x) : StoAll hid env := fun x h => hs x (by
  rw [Bool.or_eq_true, beq_iff_eq, beq_iff_eq] at h; exact h)

theorem ev_told3 {np pos : Pos} {e : Expr} {es : List Expr} {r : Rule} {t : Int} {v : List Int} {S B : Nat} {nm : Str} {ta : Bool} {outer} (c : Ctx3 W) (E : EnvOk env) (ao : AOk W A 3) (FX : FrX A hid env outer) (H : Set3 r t v S B nm) (hk : env.kindOf "_law_told" = some .globalImplicit)
    (ha : EvArgs W A hid env vars mu (e :: es) [.str nm, listI v, .int (S : Int), .none, .bool ta]) (hs : starEach (e :: es) env = (false, eval e env) :: starEach es env) :
    Ev W A hid env vars mu (.Call (.Name "_law_told" np) (e :: es) [] pos) (nonV (!ta && divTie r v S) (divF r v S)) :=
  EvG.ev (ev_call_defG c.D.nm E ao (fun z_ => FX) (fun z_ h => h.elim) c.DT hk (by decide +kernel) ha (told_specT c.D c.X c.DT H.nm (at_spec c.D _) (H.pre rfl H.small)) hs) (fun z_ h => h) (fun z_ h => h)
theorem ev_keeps3 {np pos : Pos} {e : Expr} {es : List Expr} {r : Rule} {t : Int} {v : List Int} {S B : Nat} {nm : Str} {outer} (c : Ctx3 W) (E : EnvOk env) (ao : AOk W A 4) (FX : FrX A hid env outer) (H : Set3 r t v S B nm) (hk : env.kindOf "_law_keeps" = some .globalImplicit)
    (ha : EvArgs W A hid env vars mu (e :: es) [.str nm, .int t, listI v, .int (S : Int), listI (divF r v S), nonV (divTie r v S) (divF r v S)]) (hs : starEach (e :: es) env = (false, eval e env) :: starEach es env) :
    Ev W A hid env vars mu (.Call (.Name "_law_keeps" np) (e :: es) [] pos) (.bool true) :=
  EvG.ev (ev_call_defG c.D.nm E ao (fun z_ => FX) (fun z_ h => h.elim) c.DK hk (by decide +kernel) ha (keeps_spec c.D c.X c.DT c.DK H) hs) (fun z_ h => h) (fun z_ h => h)

noncomputable abbrev vA (t : Int) (nm : Str) (ns : List Int) : Vars := [("name", .str nm), ("step", .int t), ("script", listI ns)]

set_option maxHeartbeats 1000000 in
theorem law_A {a L : Addr} {dV kV doc pm an cdv ct} {ns : List Int} {B : Nat} {rest : List Stmt} {outer} (c : Ctx3 W) (ao : AOk W A 4) (FX : FrX A hid (lEnv p1 a L dV kV doc pm an cdv ct) outer) (hn : ns.length ≤ 63) (hB : ∀ x ∈ ns, x.natAbs < 2 ^ B) (hB2 : B ≤ 2 ^ 20)
    (st : StoAll hid (lEnv p1 a L dV kV doc pm an cdv ct))
    (k : ∀ r t nm, RT r t → nm ∈ ruleNames r → Exs W A hid (lEnv p1 a L dV kV doc pm an cdv ct) (vA t nm ns) [] rest K) :
    Exs W A hid (lEnv p1 a L dV kV doc pm an cdv ct) [("script", listI ns)] [] ((bodyOf p1 "law").take 9 ++ rest) K := by
  have N := c.D.nm
  have E : EnvOk (lEnv p1 a L dV kV doc pm an cdv ct) := ⟨rfl, rfl, rfl⟩
  have ao3 : AOk W A 3 := ao.less (by decide)
  have ao0 : AOk W A 0 := ao.less (by decide)
  show Exs _ _ _ _ _ _ ((bodyOf p1 "law").getD 0 (.Pass default) :: (bodyOf p1 "law").getD 1 (.Pass default) :: (bodyOf p1 "law").getD 2 (.Pass default) :: (bodyOf p1 "law").getD 3 (.Pass default) :: (bodyOf p1 "law").getD 4 (.Pass default) :: (bodyOf p1 "law").getD 5 (.Pass default) :: (bodyOf p1 "law").getD 6 (.Pass default) :: (bodyOf p1 "law").getD 7 (.Pass default) :: (bodyOf p1 "law").getD 8 (.Pass default) :: rest) K
  generalize hhd : ns.getD 0 0 = hd
  refine exs_set (d := .int hd) (by rw [← hhd]; exact ev_sc0 E rfl hn rfl (fun z_ => rfl)) (st _ rfl) rfl rfl rfl ?_
  obtain ⟨u, hu, eu⟩ := fmod_lt hd (show 0 < 2 by decide)
  have eu : hd.fmod 2 = (u : Int) := eu
  have eu1 : ((u + 1 : Nat) : Int) = (u : Int) + 1 := rfl
  refine exs_set (d := .int ((u + 1 : Nat) : Int)) (by rw [eu1, ← eu]; exact ev_add (ev_mod (ev_name rfl rfl) ev_int (by decide)) ev_int) (st _ rfl) rfl rfl rfl ?_
  obtain ⟨x, hx, ex⟩ := fmod_lt (hd.fdiv 2) (show 0 < 3 by decide)
  have ex : (hd.fdiv 2).fmod 3 = (x : Int) := ex
  have hl3 := names3_len hu
  have hx3 : (ruleNames (rule3 u))[x]? = some ((ruleNames (rule3 u)).getD x "") := by rw [List.getD, List.getElem?_eq_getElem (by rw [hl3]; exact hx)]; rfl
  have hmem : (ruleNames (rule3 u)).getD x "" ∈ ruleNames (rule3 u) := List.mem_of_getElem? hx3
  refine exs_set (d := .str ((ruleNames (rule3 u)).getD x "")) ?_ (st _ rfl) rfl rfl rfl ?_
  · refine ev_nidx (k := x) (l := (ruleNames (rule3 u)).map .str) (d := strsV (ruleNames (rule3 u))) (ev_nidx (k := u) (l := [ruleNames .web, ruleNames .jeff].map strsV) (ev_gdata N E c.G rfl (by decide +kernel)) (ev_eq (congrArg PV.int (show ((u + 1 : Nat) : Int) - 1 = (u : Int) by (first | (simp; done) | lia | omega))) (ev_sub (ev_name rfl rfl) ev_int)) AsList.list (by decide) (by rw [List.getElem?_map, names3_get hu]; rfl)) (by rw [← ex]; exact ev_mod (ev_fdiv N.ok ao0 (ev_name rfl rfl) ev_int (by decide)) ev_int (by decide)) AsList.list (by rw [List.length_map, hl3]; decide) ?_
    rw [List.getElem?_map, hx3]; rfl
  have rt := rt3 hu
  generalize (ruleNames (rule3 u)).getD x "" = nm at *
  generalize rule3 u = r at *
  generalize ((u + 1 : Nat) : Int) = t at *
  have hw4 := w3_len ns
  have hu4 := (u3_ok hB).2.1
  have hu1 := (u3_ok hB).1
  refine exs_own (ds := (u3 ns).map .int) (ex_own (evnew_or (da := (w3 ns).map .int) (mapLt (Nat.le_trans hw4 (by decide))) ?_ ?_ ?_) (st _ rfl) rfl rfl rfl) (fun D => ?_)
  · have h : (w3 ns).map PV.int = (sliceP ns (some 4) (some 8)).map fun x => .int (x.natAbs : Int) := by
      unfold w3; rw [List.map_map]; rfl
    rw [h]
    refine evnew_compA (α := Int) (mk := .int) (xs := sliceP ns (some 4) (some 8)) (f := fun x => .int (x.natAbs : Int)) (d := listI (sliceP ns (some 4) (some 8))) (vars' := []) (tv := fun x => [("number", .int x)])
      ⟨inj_int, ao.handled, rfl, ?_, .list AsList.list, ⟨rfl, rfl, by decide⟩, .nil, fun z_ => rfl, .any fun z_ z_ => rfl, ?_, fun hid' C x z_ o => tgt_name (store_own hid' rfl) rfl rfl, fun hid' C x hx => ?_, fun x z_ => .nil⟩
    · show Ev _ _ _ _ _ _ _ (.list ((sliceP ns (some 4) (some 8)).map .int))
      rw [← sliceP_map]
      exact EvNew.ev (evnew_slice (l := ns.map .int) (ev_name rfl rfl) AsList.list (mapLe hn) (.some ev_int) (.some ev_int))
    · have := hw4
      unfold w3 at this
      rw [List.length_map] at this
      exact Nat.le_trans this (by decide)
    · exact ev_abs N ⟨rfl, rfl, rfl⟩ (ev_name rfl rfl) rfl rfl
  · intro e
    have e : w3 ns = [] := List.map_eq_nil_iff.mp e
    have : u3 ns = [1] := if_pos e
    rw [this]
    exact evnew_list (evargs_cons ev_int evargs_nil rfl) (Nat.le_of_ble_eq_true rfl)
  · intro e
    have e : w3 ns ≠ [] := fun q => e (by rw [q]; rfl)
    have : u3 ns = w3 ns := if_neg e
    rw [this]
  refine run_forget (v' := ("votes", .loc D) :: vA t nm ns) (by walk_at "sub") (List.Sublist.refl _) ?_
  refine exs_next (v := ("votes", .loc D) :: vA t nm ns) (m := [(D, (v3 ns).map .int)]) (ex_if (x := ((u3 ns).sum == 0)) (tr_cmp (ev_sum (ns := u3 ns) N E ao.handled (ev_name rfl rfl) (.inr ⟨D, rfl, List.mem_singleton.mpr rfl⟩) rfl rfl) ev_int rfl c_eq) (fun e => ?_) (fun e => ?_)) ?_
  · rw [beq_iff_eq] at e
    have : v3 ns = (u3 ns).set 0 1 := if_pos e
    rw [this, List.map_set]
    exact exs_next (ex_setitem (m1 := []) (m2 := []) ev_int (ev_name rfl rfl) ev_int (Int.le_refl 0) (by rw [List.length_map]; (first | lia | omega)) (mapLe (Nat.le_trans hu4 (by decide))) rfl) (exs_nil rfl)
  · rw [beq_eq_false_iff_ne] at e
    have : v3 ns = u3 ns := if_neg e
    rw [this]
    exact exs_nil rfl
  obtain ⟨q1, q2, q3, q4⟩ := v3_ok hB
  refine run_seal (x := "votes") (v' := vA t nm ns) (m' := []) (List.mem_singleton.mpr rfl) rfl (by walk_at "sub") (List.nil_sublist _) ?_
  generalize v3 ns = v at *
  obtain ⟨s, hs8, es⟩ := fmod_lt (ns.getD 1 3) (show 0 < 8 by decide)
  have es : (ns.getD 1 3).fmod 8 = (s : Int) := es
  have H : Set3 r t v s (B + 3) nm := ⟨rt, hmem, fun p hp => (q3 p hp).1, q4, by (first | lia | omega), q2, fun p hp => small_of (q3 p hp), small_sum q3 q2, by (first | lia | omega)⟩
  refine exs_set (d := .int (s : Int)) (by rw [← es]; exact ev_mod (ev_scK (k := 1) N E rfl hn rfl rfl rfl) ev_int (by decide)) (st _ rfl) rfl rfl rfl ?_
  refine exs_set (d := listI (divF r v s)) (ev_told3 (ta := true) c E ao3 FX H rfl (by walk_at "args") rfl) (st _ rfl) rfl rfl rfl ?_
  refine exs_set (d := nonV (divTie r v s) (divF r v s)) (ev_told3 (ta := false) c E ao3 FX H rfl (by walk_at "args") rfl) (st _ rfl) rfl rfl rfl ?_
  refine exs_skip (tr_or2 (x := false) (y := false) (tr_cmp (ev_name rfl rfl) ev_none rfl (c_isn (a := listI (divF r v s)) (by intro w e; cases e))) fun z_ => tr_not (b := true) (tr_of (d := .bool true) (ev_keeps3 c E ao FX H rfl (by walk_at "args") rfl) rfl (fun z_ => rfl))) ?_
  exact run_forget (by walk_at "sub") (List.Sublist.refl _) (k r t nm rt hmem)
end
end Mine
end

section
set_option tactic.hygienic false
open PySem PySem.W PyProof.Rows PySem.Calls PySem.SeqAt
set_option linter.unusedVariables false
set_option maxRecDepth 100000
namespace Mine

noncomputable def b03 (ns : List Int) : List Int := (sliceP ns (some 4) (some 8)).map fun x => x.fmod 5
noncomputable def b3 (ns : List Int) : List Int := if b03 ns = [] then [1] else b03 ns
theorem b03_len (ns : List Int) : (b03 ns).length ≤ 4 := by unfold b03; rw [List.length_map]; exact sliceP_len ns 4 8
theorem b3_ok (ns : List Int) : 1 ≤ (b3 ns).length ∧ (b3 ns).length ≤ 4 ∧ ∀ x ∈ b3 ns, 0 ≤ x ∧ x ≤ 4 := by
  unfold b3
  set_option tactic.hygienic true in split
  · exact ⟨by decide, by decide, fun p hp => by rw [List.mem_singleton] at hp; subst hp; decide⟩
  · rename_i q
    refine ⟨List.length_pos_iff.mpr q, b03_len ns, fun p hp => ?_⟩
    unfold b03 at hp
    obtain ⟨y, _, rfl⟩ := List.mem_map.mp hp
    obtain ⟨u, hu, e⟩ := fmod_lt y (show 0 < 5 by decide)
    have e : y.fmod 5 = (u : Int) := e
    rw [e]; (first | lia | omega)

theorem post_small {x t f : Int} {B : Nat} (hx : 0 ≤ x ∧ x ≤ 4) (ht : 1 ≤ t ∧ t ≤ 2) (f1 : 1 ≤ f) (f2 : f ≤ 2 ^ B) : 0 ≤ (2 * x + t) * f ∧ (2 * x + t) * f ≤ 2 ^ (B + 4) := by
  have e : (2 : Int) ^ (B + 4) = 2 ^ B * 16 := by rw [Int.pow_add]; rfl
  have h1 : (2 * x + t) * f ≤ 10 * f := Int.mul_le_mul_of_nonneg_right (by (first | lia | omega)) (by (first | exact Int.le_of_lt (by assumption) | lia | omega))
  exact ⟨Int.mul_nonneg (by (first | lia | omega)) (by (first | exact Int.le_of_lt (by assumption) | lia | omega)), by (first | (clear ht hx f1; lia) | lia | omega)⟩

section
variable {W : Wk} {A : Around} {hid : PMap} {env : Env} {vars : Vars} {mu : Mu} {K : Out → Prop}
set_option maxHeartbeats 1000000 in
theorem law_B {a L : Addr} {dV kV doc pm an cdv ct} {ns : List Int} {B : Nat} {r : Rule} {t : Int} {nm : Str} {outer} (c : Ctx3 W) (ao : AOk W A 4) (FX : FrX A hid (lEnv p1 a L dV kV doc pm an cdv ct) outer) (hn : ns.length ≤ 63) (hB : ∀ x ∈ ns, x.natAbs < 2 ^ B) (hB2 : B ≤ 2 ^ 20)
    (st : StoAll hid (lEnv p1 a L dV kV doc pm an cdv ct)) (rt : RT r t) (hmem : nm ∈ ruleNames r) :
    Exs W A hid (lEnv p1 a L dV kV doc pm an cdv ct) (vA t nm ns) [] ((bodyOf p1 "law").drop 9) (· = .ret (.bool true)) := by
  have N := c.D.nm
  have E : EnvOk (lEnv p1 a L dV kV doc pm an cdv ct) := ⟨rfl, rfl, rfl⟩
  have ao3 : AOk W A 3 := ao.less (by decide)
  have ao0 : AOk W A 0 := ao.less (by decide)
  have tr := rt.rng
  show Exs _ _ _ _ _ _ ((bodyOf p1 "law").getD 9 (.Pass default) :: (bodyOf p1 "law").getD 10 (.Pass default) :: (bodyOf p1 "law").getD 11 (.Pass default) :: (bodyOf p1 "law").getD 12 (.Pass default) :: (bodyOf p1 "law").getD 13 (.Pass default) :: (bodyOf p1 "law").getD 14 (.Pass default) :: (bodyOf p1 "law").getD 15 (.Pass default) :: (bodyOf p1 "law").getD 16 (.Pass default) :: (bodyOf p1 "law").getD 17 (.Pass default) :: (bodyOf p1 "law").drop 18) _
  have hb4 := b03_len ns
  obtain ⟨b1, b4, bb⟩ := b3_ok ns
  -- base
  refine exs_set (d := listI (b3 ns)) ?_ (st _ rfl) rfl rfl rfl ?_
  · refine EvNew.ev (evnew_or (da := (b03 ns).map .int) (mapLt (Nat.le_trans hb4 (by decide))) ?_ ?_ ?_)
    · have h : (b03 ns).map PV.int = (sliceP ns (some 4) (some 8)).map fun x => .int (x.fmod 5) := by
        unfold b03; rw [List.map_map]; rfl
      rw [h]
      refine evnew_compA (α := Int) (mk := .int) (xs := sliceP ns (some 4) (some 8)) (f := fun x => .int (x.fmod 5)) (d := listI (sliceP ns (some 4) (some 8))) (vars' := []) (tv := fun x => [("number", .int x)])
        ⟨inj_int, ao.handled, rfl, ?_, .list AsList.list, ⟨rfl, rfl, by decide⟩, .nil, fun z_ => rfl, .any fun z_ z_ => rfl, ?_, fun hid' C x z_ o => tgt_name (store_own hid' rfl) rfl rfl, fun hid' C x hx => ev_mod (ev_name rfl rfl) ev_int (by decide), fun x z_ => .nil⟩
      · show Ev _ _ _ _ _ _ _ (.list ((sliceP ns (some 4) (some 8)).map .int))
        rw [← sliceP_map]
        exact EvNew.ev (evnew_slice (l := ns.map .int) (ev_name rfl rfl) AsList.list (mapLe hn) (.some ev_int) (.some ev_int))
      · have := hb4
        unfold b03 at this
        rw [List.length_map] at this
        exact Nat.le_trans this (by decide)
    · intro e
      have e : b03 ns = [] := List.map_eq_nil_iff.mp e
      have : b3 ns = [1] := if_pos e
      rw [this]
      exact evnew_list (evargs_cons ev_int evargs_nil rfl) (Nat.le_of_ble_eq_true rfl)
    · intro e
      have e : b03 ns ≠ [] := fun q => e (by rw [q]; rfl)
      have : b3 ns = b03 ns := if_neg e
      rw [this]
  generalize b3 ns = b at *
  have b63 : b.length ≤ 63 := Nat.le_trans b4 (by decide)
  -- more
  obtain ⟨m, hm, em⟩ := fmod_lt (ns.getD 2 1) (show 0 < b.length + 1 by (first | exact Nat.lt_succ_of_lt (by assumption) | lia | omega))
  have em : (ns.getD 2 1).fmod ((b.length : Int) + 1) = (m : Int) := em
  refine exs_set (d := .int (m : Int)) (by rw [← em]; exact ev_mod (ev_scK (k := 2) N E rfl hn rfl rfl rfl) (ev_add (ev_lenI N E rfl b63 rfl rfl) ev_int) (by (first | lia | omega))) (st _ rfl) rfl rfl rfl ?_
  -- factor
  have fx : ∃ f : Int, 1 ≤ f ∧ f ≤ 2 ^ B ∧ f = ((ns.getD 3 0).natAbs : Int) + 1 := by
    have ex : ((2 ^ B : Nat) : Int) = 2 ^ B := by rw [Int.natCast_pow]; rfl
    have hb : 1 ≤ 2 ^ B := Nat.one_le_two_pow
    refine ⟨_, by (first | lia | omega), ?_, rfl⟩
    by_cases q : 3 < ns.length
    · have := hB _ (List.getElem_mem q)
      rw [getD_lt q]; (first | (clear hb ex em hm b63 bb b4 b1 hb4 tr ao0 ao3 E N hmem rt st hB2 hB hn FX ao; lia) | lia | omega)
    · rw [List.getD, List.getElem?_eq_none (by (first | exact Nat.le_of_not_lt (by assumption) | lia | omega))]
      show ((0 : Int).natAbs : Int) + 1 ≤ 2 ^ B
      rw [Int.natAbs_zero]; (first | lia | omega)
  obtain ⟨f, f1, f2, ef⟩ := fx
  refine exs_set (d := .int f) ?_ (st _ rfl) rfl rfl rfl ?_
  · rw [ef]
    refine ev_add (ev_if (x := decide (((ns.length : Nat) : Int) > 3)) (tr_cmp (ev_lenI N E rfl hn rfl rfl) ev_int rfl c_gt) (fun e => ?_) (fun e => ?_)) ev_int
    · have h3 : 3 < ns.length := by have := of_decide_eq_true e; (first | lia | omega)
      exact ev_abs N E (ev_iidx (k := 3) (xs := ns) (ev_name rfl rfl) ev_int AsList.list h3 (le5 hn)) rfl rfl
    · have h3 : ¬ 3 < ns.length := by have := of_decide_eq_false e; (first | lia | omega)
      rw [List.getD, List.getElem?_eq_none (by (first | exact Nat.le_of_not_lt (by assumption) | lia | omega))]
      exact ev_int
  -- posts
  have fs : f.natAbs < 2 ^ (B + 1) := by
    have ex : ((2 ^ B : Nat) : Int) = 2 ^ B := by rw [Int.natCast_pow]; rfl
    have : 2 ^ (B + 1) = 2 ^ B * 2 := by rw [Nat.pow_add]
    (first | (clear ex ef em hm b63 bb b4 b1 hb4 tr ao0 ao3 E N hmem rt st hB2 hB hn FX ao this; lia) | lia | omega)
  refine exs_next (v := ("posts", listI (postsT t f b)) :: ("factor", .int f) :: ("more", .int (m : Int)) :: ("base", listI b) :: vA t nm ns) (m := []) ?_ ?_
  · have h : listI (postsT t f b) = .list (b.map fun x => .int ((2 * x + t) * f)) := by unfold postsT listI; rw [List.map_map]; rfl
    rw [h]
    exact ex_compA (α := Int) (mk := .int) (xs := b) (d := listI b) (vars' := [("step", .int t), ("factor", .int f)]) (tv := fun x => [("had", .int x), ("step", .int t), ("factor", .int f)])
      ⟨inj_int, ao.handled, rfl, ev_name rfl rfl, .list AsList.list, ⟨rfl, rfl, by decide⟩, by walk_at "over", fun z_ => rfl, .any fun z_ z_ => rfl, le5 b63, fun hid' C x z_ o => tgt_name (store_own hid' rfl) rfl rfl, fun hid' C x hx => ev_mul (ev_add (ev_mul ev_int (ev_name rfl rfl) (mulOk20 (by decide) (natAbs20 (by have := bb x hx; (first | lia | omega)) (by have := bb x hx; (first | lia | omega))))) (ev_name rfl rfl)) (ev_name rfl rfl) (mulOk (j := 20) (natAbs20 (by have := bb x hx; (first | lia | omega)) (by have := bb x hx; (first | lia | omega))) fs (by (first | lia | omega))), fun x z_ => by walk_at "sub"⟩ rfl rfl rfl
  -- house
  have bs0 := sumP_nonneg fun x hx => (bb x hx).1
  have bs4 := sumP_le fun x hx => (bb x hx).2
  obtain ⟨S, hS⟩ : ∃ S : Nat, (S : Int) = b.sum + (m : Int) := ⟨(b.sum + (m : Int)).toNat, by (first | lia | omega)⟩
  refine exs_set (d := .int (S : Int)) (by rw [hS]; exact ev_add (ev_sum N E ao.handled (ev_name rfl rfl) AsList.list rfl rfl) (ev_name rfl rfl)) (st _ rfl) rfl rfl rfl ?_
  have S20 : S ≤ 20 := by (first | lia | omega)
  obtain ⟨p1', p2, p3⟩ := posts_answer (f := f) (m := m) rt f1 (fun x hx => (bb x hx).1) b1 (by (first | lia | omega)) hS S20
  have hpl : (postsT t f b).length = b.length := List.length_map _
  have psm : ∀ p ∈ postsT t f b, 0 ≤ p ∧ p ≤ 2 ^ (B + 4) := fun p hp => by
    obtain ⟨x, hx, rfl⟩ := List.mem_map.mp hp
    exact post_small (bb x hx) tr f1 f2
  have H : Set3 r t (postsT t f b) S (B + 4 + 3) nm := by
    refine ⟨rt, hmem, fun p hp => Int.le_of_lt (p3 p hp), ?_, S20, by rw [hpl]; exact b4, fun p hp => small_of (psm p hp), small_sum psm (by rw [hpl]; exact b4), by (first | lia | omega)⟩
    have h0 : 0 < (postsT t f b).length := by rw [hpl]; exact b1
    exact ⟨_, List.getElem_mem h0, p3 _ (List.getElem_mem h0)⟩
  refine exs_set (d := listI (divF r (postsT t f b) S)) (ev_told3 (ta := true) c E ao3 FX H rfl (by walk_at "args") rfl) (st _ rfl) rfl rfl rfl ?_
  refine exs_set (d := nonV (divTie r (postsT t f b) S) (divF r (postsT t f b) S)) (ev_told3 (ta := false) c E ao3 FX H rfl (by walk_at "args") rfl) (st _ rfl) rfl rfl rfl ?_
  have EK := fun {hid mu} {vars : Vars} {np pos : Pos} {e : Expr} {es : List Expr} (FX : FrX A hid (lEnv p1 a L dV kV doc pm an cdv ct) outer) => ev_keeps3 (W := W) (A := A) (hid := hid) (mu := mu) (vars := vars) (np := np) (pos := pos) (e := e) (es := es) c E ao FX H
  generalize hdt : divTie r (postsT t f b) S = tie at *
  have htie : tie = (decide (0 < m) && decide (m < b.length)) := by
    rw [Bool.eq_iff_iff, p2, Bool.and_eq_true, decide_eq_true_eq, decide_eq_true_eq]
  rw [p1'] at EK ⊢
  have fl : (firstR b m).length = b.length := by unfold firstR; rw [List.length_map, List.length_range]
  have f63 : (firstR b m).length ≤ 63 := by rw [fl]; exact b63
  refine exs_skip (tr_eq ?_ (tr_cmp (a := listI (firstR b m)) (b := listI (firstR b m)) (ev_name rfl rfl) ?_ rfl (c_nel ao (ns := firstR b m) (ms := firstR b m) AsList.list AsList.list))) ?_
  · rw [decide_eq_true rfl]; rfl
  · have h : listI (firstR b m) = .list ((List.range b.length).map fun i => .int (b.getD i 0 + (if i < m then 1 else 0))) := by unfold firstR listI; rw [List.map_map]; rfl
    rw [h]
    refine EvNew.ev (evnew_compA (α := Nat) (mk := fun i => .int (i : Int)) (xs := List.range b.length) (d := .rng 0 ((b.length : Nat) : Int)) (vars' := [("base", listI b), ("more", .int (m : Int))]) (tv := fun i => [("i", .int (i : Int)), ("base", listI b), ("more", .int (m : Int))])
      ⟨inj_nat, ao.handled, rfl, ev_range1 N E (ev_lenI N E rfl b63 rfl rfl) rfl rfl, src_rng (lt61 b63), ⟨rfl, rfl, by decide⟩, by walk_at "over", fun z_ => rfl, .any fun z_ z_ => rfl, by rw [List.length_range]; exact le5 b63, fun hid' C i hi o => tgt_name (store_own hid' rfl) rfl rfl, fun hid' C i hi => ?_, fun i z_ => by walk_at "sub"⟩)
    have hi := List.mem_range.mp hi
    refine ev_add (ev_iidx (xs := b) (ev_name rfl rfl) (ev_name rfl rfl) AsList.list hi (le5 b63)) (ev_if (x := decide ((i : Int) < (m : Int))) (tr_cmp (ev_name rfl rfl) (ev_name rfl rfl) rfl c_lt) (fun e => ?_) (fun e => ?_))
    · rw [if_pos (by have := of_decide_eq_true e; (first | lia | omega))]; exact ev_int
    · rw [if_neg (by have := of_decide_eq_false e; (first | lia | omega))]; exact ev_int
  refine exs_skip (tr_eq ?_ (tr_cmp (a := .bool tie) (b := .bool (decide ((0 : Int) < (m : Int)) && decide ((m : Int) < (b.length : Int)))) (ev_eq ?_ (ev_cmp (ev_name rfl rfl) ev_none rfl (c_isn (a := nonV tie (firstR b m)) (by intro w e; cases tie <;> cases e)))) (ev_cmp2 ev_int (ev_name rfl rfl) rfl c_lt (fun z_ => ev_lenI N E rfl b63 rfl rfl) (fun z_ => c_lt)) rfl c_neb)) ?_
  · rw [htie]
    have e1 : decide ((0 : Int) < (m : Int)) = decide (0 < m) := decide_eq_decide.mpr (by (first | (simp; done) | lia | omega))
    have e2 : decide ((m : Int) < (b.length : Int)) = decide (m < b.length) := decide_eq_decide.mpr (by (first | (simp; done) | lia | omega))
    rw [e1, e2]; simp
  · cases tie <;> rfl
  exact exs_ret (EK FX rfl (by walk_at "args") rfl) rfl

theorem law_spec {fa : Addr} {ns : List Int} (x : Ctx3 W) (DL : DefAt W p1 "law" fa .none) (hn : ns.length ≤ 63) (hB : ∀ x ∈ ns, x.natAbs < 2 ^ (2 ^ 20)) :
    FnG W (.ref fa) 5 [listI ns] (· = .bool true) (fun z_ => False) := by
  have N := x.D.nm
  obtain ⟨hm, kV, doc, pm, an, cdv, ct, F⟩ := DL
  refine fn_introX N.ok F [("script", listI ns)] ["script"] rfl (by show paramsOk (scopeOf p1 "law") _ = true; decide +kernel) (by decide +kernel) ?_ ?_
  · intro g h t us kb kg is
    cases is with
    | cons i1 is =>
      cases is
      exact ⟨_, BindsTo.of_eq rfl, .cons i1 .nil⟩
  · intro A hid L outer ao FX hs
    have st := stoAll hs
    show Exs _ _ _ _ _ _ ((bodyOf p1 "law").take 9 ++ (bodyOf p1 "law").drop 9) _
    refine law_A x ao FX hn hB (Nat.le_refl _) st fun r t nm rt hmem => ?_
    exact (law_B x ao FX hn hB (Nat.le_refl _) st rt hmem).imp fun o e => .inl ⟨_, rfl, e⟩
end
end Mine
end

open PySem PySem.W PyProof.Rows
set_option maxRecDepth 100000 in
set_option maxHeartbeats 8000000 in
theorem PySem.Challenge.cw_af0002_03_holds : PySem.Challenge.rw_af0002_03.Holds := by
  w_on
  o_law
  k_head
  case hw => w_witness2
  k_fill
  intro w s₀ s₁ mg mb G Y fa o pm cd doc dV kV ho hd hcd hD hmg hg args vals as hpre hlay hrd hwl hlo
  have KX := kIn_of Y
  refine Ground.open G ?_
  intro T B D TE TW
  wrow_args hpre hlay hrd hwl hlo
  rename_i ns _ _ hlay1 _ _ _ _ l vs _ hL _ w1 _ hI _ _ hlen
  clear hd hcd hD ho G Y B D TE TW
  have m2 := mg_of KX T.g (n := "law") (by k_is)
  obtain rfl := Value.ref.inj (Option.some.inj (hmg.symm.trans m2))
  let W : Mine.Wk := ⟨PySem.Challenge.pw_af0002_03, w, s₁.gens, s₁.drawn, s₁.os, s₁.heap, mg, mb⟩
  have O : W.Ok := ⟨T.g, T.b, T.builtins, T.nolimit, T.seer rfl, rfl⟩
  have N : Mine.Names W := ⟨O, mg_none_of KX T.g (by k_is), mg_none_of KX T.g (by k_is), mg_none_of KX T.g (by k_is), mg_none_of KX T.g (by k_is), mg_none_of KX T.g (by k_is), mg_none_of KX T.g (by k_is), mg_none_of KX T.g (by k_is), mg_none_of KX T.g (by k_is), mg_none_of KX T.g (by k_is), mg_none_of KX T.g (by k_is)⟩
  obtain ⟨C, OC, _⟩ := T.ownAt (x := "TiesException") (newId := "Exception.__new__") (bm := Mine.excBm) (by decide +kernel)
  have X : Mine.OwnX W "TiesException" C := ⟨OC⟩
  have DL : Mine.DefAt W Mine.p1 "law" _ .none := Mine.defAt_mk (W := W) KX m2 (by k_is) rfl (by k_is) ⟨rfl, rfl, rfl⟩
  have DT : Mine.DefAt W Mine.p1 "_law_told" _ .none := Mine.defAt_mk (W := W) KX (mg_of KX T.g (n := "_law_told") (by k_is)) (by k_is) rfl (by k_is) ⟨rfl, rfl, rfl⟩
  have DK : Mine.DefAt W Mine.p1 "_law_keeps" _ .none := Mine.defAt_mk (W := W) KX (mg_of KX T.g (n := "_law_keeps") (by k_is)) (by k_is) rfl (by k_is) ⟨rfl, rfl, rfl⟩
  have mT := mg_of KX T.g (n := "apply_threshold") (by k_is)
  have mD := mg_of KX T.g (n := "divisor") (by k_is)
  have mC := mg_of KX T.g (n := "compute") (by k_is)
  let DD : Mine.Defs W := {
    nm := N
    at_ := _
    hat := Mine.defAt_mk (W := W) KX mT (by k_is) rfl (by k_is) ⟨rfl, rfl, rfl⟩
    dv := _
    dvT := _
    dvo := _
    dvv := _
    dvn := _
    hdv := Mine.defAt_mk (W := W) KX mD (by k_is) rfl (by k_is) ⟨rfl, rfl, rfl⟩
    hdvT := KX _ _ (by k_is)
    hdvd := rfl
    cp := _
    cpT := _
    cpo := _
    cpn := _
    hcp := Mine.defAt_mk (W := W) KX mC (by k_is) rfl (by k_is) ⟨rfl, rfl, rfl⟩
    hcpT := KX _ _ (by k_is)
    hcpd := rfl }
  have GD : Mine.GData W "_law_names" Mine.names3V := by
    refine ⟨_, mg_of KX T.g (n := "_law_names") (by k_is), ?_⟩
    refine .list (KX _ _ (by k_is)) ?_
    repeat (refine .cons (.list (KX _ _ (by k_is)) (by repeat (first | exact .nil | refine .cons .str ?_))) ?_)
    exact .nil
  obtain ⟨nl, hl⟩ := Mine.well_list w1 hL
  let CX : Mine.Ctx3 W := { D := DD, C := C, X := X, ta := _, DT := DT, ka := _, DK := DK, G := GD }
  have hB : ∀ x ∈ ns, x.natAbs < 2 ^ (2 ^ 20) := fun x hx => Mine.bits_lt (PyData.bits_item_of_ints hlay1 hx)
  have hF := Mine.law_spec (ns := ns) CX DL (by omega) hB
  refine hF callerA (fun _ => none) (fun a => s₁.heap.get? a) s₁.heap s₁.toks _ _ _ [] ⟨rfl, by decide, by decide, ⟨[], rfl⟩⟩ (fun _ => ⟨rfl, fun _ h => nomatch h⟩) ⟨fun _ _ e => e, fun _ _ e => e, fun _ _ e => (nomatch e), fun _ _ _ => rfl⟩ (.cons (.list hl (Mine.Iss.of_ints hI)) .nil) (fun d u g' h' t' hd lg RE iu => ?_) (fun _ _ _ _ _ _ hf => hf.elim)
  cases hd
  cases iu
  have hpost : PySem.Challenge.rw_af0002_03.row.claim.post [ofPy (PyData.list (List.map PyData.int ns))] (WData.bool true) [ofPy (PyData.list (List.map PyData.int ns))] = true := by
    exact postW_of (X := (true == true)) rfl (w_eq_bool rfl rfl) rfl
  refine GoodW.toG ⟨.inl ⟨_, .bool true, [], rfl, fun _ => rfl, .bool _, hpost, fun _ => ⟨.nil, fun a h => (nomatch h)⟩⟩, fun b o e => RE.gs b o (lg b o e), rfl, hg⟩
