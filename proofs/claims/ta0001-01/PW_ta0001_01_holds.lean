import PyProof.Rows.All
import Wide.All
import OpenK.AllK
import Wide.FinOn
import KE.KNestM
import Lean
import PySem.Challenge.RW_ta0001_01
set_option maxHeartbeats 4000000
set_option Elab.async false
set_option linter.all false
set_option tactic.hygienic false
namespace Mine
open PySem PySem.W PyProof.Rows
set_option maxRecDepth 100000 in
set_option maxHeartbeats 8000000 in
open_top hd for PySem.Challenge.rw_ta0001_01

open PySem PySem.W PyProof.Rows
set_option maxRecDepth 20000

/-- data as the proofs see it -/
inductive D where
  | none
  | bool (b : Bool)
  | int (i : Int)
  | str (x : Str)
  | tup (ds : List D)
  | lst (ds : List D)
  | rng (a b s : Int)
  | slc (lo hi st : Option Int)
  | clo (qual : Str) (params : Arguments) (body : Expr) (scope : Scope) (cdv : Value) (caps : List (Str × D))
  | val (v : Value)

abbrev FM := Addr → Option Obj

inductive FCode (F : FM) (cv : Value) (q : Str) : Prop
  | mk (c : Addr) (o : Obj) (vs : Array Value) (t : Tok) (e : cv = .ref c) (f : F c = some o) (d : o.data = .fields vs) (k : vs[1]? = some (.str q t))
theorem FCode.mono {F F' : FM} (h : ∀ a o, F a = some o → F' a = some o) {cv q} (x : FCode F cv q) : FCode F' cv q :=
  x.casesOn fun c o vs t a b d r => ⟨c, o, vs, t, a, h _ _ b, d, r⟩
theorem FCode.codeRec {F : FM} {h : Heap} (k : ∀ a o, F a = some o → h.get? a = some o) {cv q} (x : FCode F cv q) : h.CodeRec cv q :=
  x.casesOn fun c o vs t a b d r => ⟨c, o, vs, t, a, k _ _ b, d, r⟩

mutual
inductive Sees (F : FM) : Value → D → Prop
  | none : Sees F .none .none
  | bool (b) : Sees F (.bool b) (.bool b)
  | int (i t) : Sees F (.int i t) (.int i)
  | str (x t) : Sees F (.str x t) (.str x)
  | tup {a vs n ds} : F a = some { cls := .type "tuple", dict := Option.none, data := .seq vs n, slots := #[] } → SeesAll F vs.toList ds → Sees F (.ref a) (.tup ds)
  | lst {a vs n ds} : F a = some { cls := .type "list", dict := Option.none, data := .seq vs n, slots := #[] } → SeesAll F vs.toList ds → Sees F (.ref a) (.lst ds)
  | slc {a l u t lo hi st} : F a = some { cls := .type "slice", dict := Option.none, data := .fields #[l, u, t], slots := #[] } → IsPart l lo → IsPart u hi → IsPart t st → Sees F (.ref a) (.slc lo hi st)
  | rng {a i j k t u v} : F a = some { cls := .type "range", dict := Option.none, data := .fields #[.int i t, .int j u, .int k v], slots := #[] } → Sees F (.ref a) (.rng i j k)
  | clo {a o name qual params body scope cl pm cdv ct caps} : F a = some o → o.data = .func (kla_fn name qual params body scope cl pm cdv ct) → FCode F cdv qual → SeesCaps F cl caps → (cl.map (·.2)).Nodup →
      Sees F (.ref a) (.clo qual params body scope cdv caps)
  | val (v) : Sees F v (.val v)
inductive SeesCaps (F : FM) : List (Str × Addr) → List (Str × D) → Prop
  | nil : SeesCaps F [] []
  | cons {x c o v d cl caps} : F c = some o → o.data = .cell (some v) → Sees F v d → SeesCaps F cl caps → SeesCaps F ((x, c) :: cl) ((x, d) :: caps)
inductive SeesAll (F : FM) : List Value → List D → Prop
  | nil : SeesAll F [] []
  | cons {v vs d ds} : Sees F v d → SeesAll F vs ds → SeesAll F (v :: vs) (d :: ds)
end

section
variable {F F' : FM} (h : ∀ a o, F a = some o → F' a = some o)
include h
theorem Sees.mono {v d} (x : Sees F v d) : Sees F' v d :=
  Sees.rec (motive_1 := fun v d _ => Sees F' v d) (motive_2 := fun cl caps _ => SeesCaps F' cl caps) (motive_3 := fun vs ds _ => SeesAll F' vs ds) .none .bool .int .str (fun e _ r => .tup (h _ _ e) r) (fun e _ r => .lst (h _ _ e) r)
    (fun e a b c => .slc (h _ _ e) a b c) (fun e => .rng (h _ _ e)) (fun e d c _ k r => .clo (h _ _ e) d (c.mono h) r k) .val .nil (fun e d _ _ x r => .cons (h _ _ e) d x r) .nil (fun _ _ x r => .cons x r) x
end
theorem SeesAll.ind {F : FM} {P : List Value → List D → Prop} (h0 : P [] []) (h1 : ∀ {v vs d ds}, Sees F v d → SeesAll F vs ds → P vs ds → P (v :: vs) (d :: ds)) {vs ds} (x : SeesAll F vs ds) : P vs ds :=
  SeesAll.rec (motive_1 := fun _ _ _ => True) (motive_2 := fun _ _ _ => True) (motive_3 := fun vs ds _ => P vs ds) trivial (fun _ => trivial) (fun _ _ => trivial) (fun _ _ => trivial) (fun _ _ _ => trivial) (fun _ _ _ => trivial)
    (fun _ _ _ _ => trivial) (fun _ => trivial) (fun _ _ _ _ _ _ => trivial) (fun _ => trivial) trivial (fun _ _ _ _ _ _ => trivial) h0 (fun x r _ i => h1 x r i) x
theorem SeesCaps.ind {F : FM} {P : List (Str × Addr) → List (Str × D) → Prop} (h0 : P [] []) (h1 : ∀ {x c o v d cl caps}, F c = some o → o.data = .cell (some v) → Sees F v d → SeesCaps F cl caps → P cl caps → P ((x, c) :: cl) ((x, d) :: caps)) {cl caps} (x : SeesCaps F cl caps) : P cl caps :=
  SeesCaps.rec (motive_1 := fun _ _ _ => True) (motive_2 := fun cl caps _ => P cl caps) (motive_3 := fun _ _ _ => True) trivial (fun _ => trivial) (fun _ _ => trivial) (fun _ _ => trivial) (fun _ _ _ => trivial) (fun _ _ _ => trivial)
    (fun _ _ _ _ => trivial) (fun _ => trivial) (fun _ _ _ _ _ _ => trivial) (fun _ => trivial) h0 (fun e d x r _ i => h1 e d x r i) trivial (fun _ _ _ _ => trivial) x
theorem SeesCaps.mono {F F' : FM} (h : ∀ a o, F a = some o → F' a = some o) {cl caps} (x : SeesCaps F cl caps) : SeesCaps F' cl caps := x.ind .nil fun e d x _ i => .cons (h _ _ e) d (x.mono h) i
theorem SeesAll.mono {F F' : FM} (h : ∀ a o, F a = some o → F' a = some o) {vs ds} (x : SeesAll F vs ds) : SeesAll F' vs ds := x.ind .nil fun x _ i => .cons (x.mono h) i

theorem SeesAll.length {F : FM} {vs ds} (x : SeesAll F vs ds) : vs.length = ds.length := x.ind (P := fun vs ds => vs.length = ds.length) rfl fun _ _ i => congrArg (· + 1) i
theorem SeesAll.append {F : FM} {vs ds ws es} (x : SeesAll F vs ds) (k : SeesAll F ws es) : SeesAll F (vs ++ ws) (ds ++ es) := x.ind (P := fun vs ds => SeesAll F (vs ++ ws) (ds ++ es)) k fun x _ i => .cons x i
theorem SeesAll.get {F : FM} {vs ds} (x : SeesAll F vs ds) {k : Nat} {d} : ds[k]? = some d → ∃ v, vs[k]? = some v ∧ Sees F v d := by
  refine x.ind (P := fun vs ds => ∀ k : Nat, ds[k]? = some d → ∃ v, vs[k]? = some v ∧ Sees F v d) (fun _ e => nomatch e) (fun x _ i k e => ?_) k
  cases k with
  | zero => cases e; exact ⟨_, rfl, x⟩
  | succ k => exact i k e
theorem SeesAll.take {F : FM} {vs ds} (x : SeesAll F vs ds) : ∀ n, SeesAll F (vs.take n) (ds.take n) := by
  refine x.ind (P := fun vs ds => ∀ n, SeesAll F (vs.take n) (ds.take n)) (fun n => by cases n <;> exact .nil) fun x _ i n => ?_
  cases n with
  | zero => exact .nil
  | succ n => exact .cons x (i n)
theorem SeesAll.drop {F : FM} {vs ds} (x : SeesAll F vs ds) : ∀ n, SeesAll F (vs.drop n) (ds.drop n) := by
  refine x.ind (P := fun vs ds => ∀ n, SeesAll F (vs.drop n) (ds.drop n)) (fun n => by cases n <;> exact .nil) fun x r i n => ?_
  cases n with
  | zero => exact .cons x r
  | succ n => exact i n
theorem SeesAll.reverse {F : FM} {vs ds} (x : SeesAll F vs ds) : SeesAll F vs.reverse ds.reverse := by
  refine x.ind (P := fun vs ds => SeesAll F vs.reverse ds.reverse) .nil fun x _ i => ?_
  rw [List.reverse_cons, List.reverse_cons]
  exact i.append (.cons x .nil)

inductive SeqI (F : FM) (T : String) (ds : List D) : Value → Prop
  | mk {a vs n} (e : F a = some { cls := .type T, dict := Option.none, data := .seq vs n, slots := #[] }) (r : SeesAll F vs.toList ds) : SeqI F T ds (.ref a)
inductive CloI (F : FM) (qual : Str) (params : Arguments) (body : Expr) (scope : Scope) (cdv : Value) (caps : List (Str × D)) : Value → Prop
  | mk {a o name cl pm ct} : F a = some o → o.data = .func (kla_fn name qual params body scope cl pm cdv ct) → FCode F cdv qual → SeesCaps F cl caps → (cl.map (·.2)).Nodup → CloI F qual params body scope cdv caps (.ref a)
inductive RngI (F : FM) (i j k : Int) : Value → Prop
  | mk {a t u v} : F a = some { cls := .type "range", dict := Option.none, data := .fields #[.int i t, .int j u, .int k v], slots := #[] } → RngI F i j k (.ref a)
inductive SlcI (F : FM) (lo hi st : Option Int) : Value → Prop
  | mk {a l u t} : F a = some { cls := .type "slice", dict := Option.none, data := .fields #[l, u, t], slots := #[] } → IsPart l lo → IsPart u hi → IsPart t st → SlcI F lo hi st (.ref a)
def SeesI (F : FM) (v : Value) : D → Prop
  | .none => v = .none
  | .bool b => v = .bool b
  | .int i => ∃ t, v = .int i t
  | .str x => ∃ t, v = .str x t
  | .val w => v = w
  | .tup ds => SeqI F "tuple" ds v
  | .lst ds => SeqI F "list" ds v
  | .rng i j k => RngI F i j k v
  | .slc a b c => SlcI F a b c v
  | .clo q ps b sc cd cp => CloI F q ps b sc cd cp v
theorem Sees.inv {F : FM} {v d} (h : Sees F v d) : SeesI F v d :=
  Sees.rec (motive_1 := fun v d _ => SeesI F v d) (motive_2 := fun _ _ _ => True) (motive_3 := fun _ _ _ => True) rfl (fun _ => rfl) (fun _ t => ⟨t, rfl⟩) (fun _ t => ⟨t, rfl⟩) (fun e r _ => ⟨e, r⟩) (fun e r _ => ⟨e, r⟩) (fun e a b c => ⟨e, a, b, c⟩)
    (fun e => ⟨e⟩) (fun a b c d e _ => ⟨a, b, c, d, e⟩) (fun _ => rfl) trivial (fun _ _ _ _ _ _ => trivial) trivial (fun _ _ _ _ => trivial) h
theorem Sees.noneI {F : FM} {v} (h : Sees F v .none) : v = .none := h.inv
theorem Sees.boolI {F : FM} {v b} (h : Sees F v (.bool b)) : v = .bool b := h.inv
theorem Sees.intI {F : FM} {v i} (h : Sees F v (.int i)) : ∃ t, v = .int i t := h.inv
theorem Sees.valI {F : FM} {v w} (h : Sees F v (.val w)) : v = w := h.inv
theorem Sees.cloI {F : FM} {v q ps b sc cd cp} (h : Sees F v (.clo q ps b sc cd cp)) : CloI F q ps b sc cd cp v := h.inv
theorem Sees.rngI {F : FM} {v i j k} (h : Sees F v (.rng i j k)) : RngI F i j k v := h.inv
theorem Sees.slcI {F : FM} {v a b c} (h : Sees F v (.slc a b c)) : SlcI F a b c v := h.inv
theorem Sees.tupI {F : FM} {v ds} (h : Sees F v (.tup ds)) : SeqI F "tuple" ds v := h.inv
theorem Sees.lstI {F : FM} {v ds} (h : Sees F v (.lst ds)) : SeqI F "list" ds v := h.inv
def SeesAllI (F : FM) (vs : List Value) : List D → Prop
  | [] => vs = []
  | d :: ds => ∃ v vs', vs = v :: vs' ∧ Sees F v d ∧ SeesAll F vs' ds
theorem SeesAll.invI {F : FM} {vs ds} (h : SeesAll F vs ds) : SeesAllI F vs ds := h.ind rfl fun x r _ => ⟨_, _, rfl, x, r⟩
theorem SeesAll.nilI {F : FM} {vs} (h : SeesAll F vs []) : vs = [] := h.invI
theorem SeesAll.consI {F : FM} {vs d ds} (h : SeesAll F vs (d :: ds)) : ∃ v vs', vs = v :: vs' ∧ Sees F v d ∧ SeesAll F vs' ds := h.invI

/-- mutable objects -/
inductive MO where
  | ml (ds : List D)
  | tb (c : Addr) (ps : List Value)
abbrev Mu := List (Addr × MO)
abbrev Mu.dom (μ : Mu) : List Addr := μ.map (·.1)

/-- c is code whose table is P -/
def CodeF (F : FM) (c P : Addr) : Prop := ∃ o, F c = some o ∧ ∀ h : Heap, h.get? c = some o → CodeHd h c P
def MOk (F : FM) (a : Addr) : MO → Obj → Prop
  | .ml ds, o => ∃ vs n, o = { cls := .type "list", dict := Option.none, data := .seq vs n, slots := #[] } ∧ SeesAll F vs.toList ds
  | .tb c ps, o => o = tabObj ps.toArray ∧ TriplesOk ps ∧ CodeF F c a
inductive MIs (F : FM) (h : Heap) (a : Addr) (m : MO) : Prop
  | mk (o : Obj) (e : h.get? a = some o) (k : MOk F a m o)
theorem MOk.mono {F F' : FM} (h : ∀ a o, F a = some o → F' a = some o) {a m o} (x : MOk F a m o) : MOk F' a m o := by
  cases m with
  | ml ds => obtain ⟨vs, n, e, s⟩ := x; exact ⟨vs, n, e, s.mono h⟩
  | tb c ps => obtain ⟨e, t, oc, ec, k⟩ := x; exact ⟨e, t, oc, h _ _ ec, k⟩
theorem MOk.notCell {F : FM} {a m o v} (x : MOk F a m o) : o.data ≠ .cell v := by
  cases m with
  | ml ds => obtain ⟨vs, n, e, s⟩ := x; subst e; exact fun z => nomatch z
  | tb c ps => obtain ⟨e, t, k⟩ := x; subst e; exact fun z => nomatch z
theorem MOk.notDict {F : FM} {a m o} (x : MOk F a m o) : ∀ es ep, o.data ≠ .dict es ep := by
  cases m with
  | ml ds => obtain ⟨vs, n, e, s⟩ := x; subst e; exact fun _ _ z => nomatch z
  | tb c ps => obtain ⟨e, t, k⟩ := x; subst e; exact fun _ _ z => nomatch z
theorem MIs.move {F F' : FM} {h h' : Heap} {a m} (x : MIs F h a m) (hF : ∀ a o, F a = some o → F' a = some o) (e : ∀ o, h.get? a = some o → h'.get? a = some o) : MIs F' h' a m :=
  let ⟨o, q, k⟩ := x; ⟨o, e o q, k.mono hF⟩
theorem MIs.live {F : FM} {h : Heap} {a m} (x : MIs F h a m) : ∃ o, h.get? a = some o := let ⟨o, q, _⟩ := x; ⟨o, q⟩

def TabGood (F : FM) (q : Str) (ps : Array Value) : Prop :=
  TriplesOk ps.toList ∧ ∀ pos cv, codeAmong pos ps.toList = some cv → FCode F cv q

theorem lookup_memB {α β : Type} [BEq α] [LawfulBEq α] {x : α} {b : β} {l : List (α × β)} (h : l.lookup x = some b) : (x, b) ∈ l := by
  induction l with
  | nil => cases h
  | cons p l ih =>
    obtain ⟨y, c⟩ := p
    rw [List.lookup_cons] at h
    cases hy : x == y with
    | true => rw [hy] at h; cases h; rw [eq_of_beq hy]; exact .head _
    | false => rw [hy] at h; exact .tail _ (ih h)

set_option genInjectivity false in
/-- what holds of the whole law: the text's own objects; the tables of the functions that make lambdas (code, table, the lambdas' qualname) -/
structure G where
  prog : Program
  w : World
  base : Heap
  K : Frag
  p : Program
  loose : List Str
  mg : Str → Option Value
  mb : Str → Option Value
  tabs : List (Addr × Addr × Str)
  X : K.In base
  T : TopRead p loose mg mb base
  hd : ∀ q ∈ tabs, CodeHd base q.1 q.2.1
  bm : ∃ bm ob, mg "__builtins__" = some (.ref bm) ∧ bm ≠ builtinsNs ∧ base.get? bm = some ob ∧ ob.cls = .type "module" ∧ ob.dict = some builtinsNs ∧ ob.data = .plain
  fcs : List Addr
  stk : List Env

/-- one frame deeper -/
abbrev G.push (g : G) (env : Env) : G := { g with stk := env :: g.stk }
/-- a frame's own object stands -/
inductive FrL (e : Env) (μ : Mu) (F : FM) (h : Heap) : Prop
  | mk (k : e.scope.kind ≠ .module) (L : Addr) (m : Str → Option Value) (f : e.frame = some L) (n : h.Ns L m) (o : F L = none) (d : L ∉ μ.dom)

abbrev G.tabDom (g : G) : List Addr := g.tabs.map (·.2.1)

structure GSt (g : G) (μ : Mu) (F : FM) (h : Heap) : Prop where
  base : ∀ a o, g.base.get? a = some o → F a = some o
  fz : ∀ a o, F a = some o → h.get? a = some o
  tb : ∀ q ∈ g.tabs, F q.2.1 = none ∧ ∃ ps, h.get? q.2.1 = some (tabObj ps) ∧ TabGood F q.2.2 ps
  mu : ∀ p ∈ μ, F p.1 = none ∧ MIs F h p.1 p.2
  nd : μ.dom.Nodup
  fzc : ∀ c ∈ g.fcs, ∃ o, F c = some o
  dj : ∀ a ∈ μ.dom, a ∉ g.tabDom
  stk : ∀ e ∈ g.stk, FrL e μ F h

theorem FrL.ext {e μ F h h'} (x : FrL e μ F h) (k : ∀ b o, h.get? b = some o → h'.get? b = some o) : FrL e μ F h' :=
  (by obtain ⟨hk, L, m, hf, ⟨o, es, ep, ho, r⟩, hF, hm⟩ := x; exact ⟨hk, L, m, hf, ⟨o, es, ep, k _ _ ho, r⟩, hF, hm⟩)
theorem GSt.push_frame {g : G} {env μ F h} (G : GSt g μ F h) (k : FrL env μ F h) : GSt (g.push env) μ F h :=
  ⟨G.base, G.fz, G.tb, G.mu, G.nd, G.fzc, G.dj, fun e he => by cases he with | head => exact k | tail _ he => exact G.stk e he⟩
theorem GSt.pop_frame {g : G} {env μ F h} (G : GSt (g.push env) μ F h) : GSt g μ F h :=
  ⟨G.base, G.fz, G.tb, G.mu, G.nd, G.fzc, G.dj, fun e he => G.stk e (.tail _ he)⟩

def VarAt (env : Env) (h : Heap) (x : Str) (v : Value) : Prop :=
  (env.kindOf x = some .local ∧ ∃ m, h.Ns env.locals m ∧ m x = some v) ∨
  ((env.kindOf x = some .cell ∨ env.kindOf x = some .free) ∧ ∃ c, env.cells.lookup x = some c ∧ h.IsCell c (some v))

structure FOk (env : Env) (own : List Addr) : Prop where
  kind : env.scope.kind = .function
  glob : env.globals = mainGlobals
  blt : env.builtins = builtinsNs
  lown : env.locals ∈ own
  cnd : (env.cells.map (·.2)).Nodup

structure FSt (env : Env) (own : List Addr) (ρ : Str → Option D) (μ : Mu) (F : FM) (h : Heap) : Prop where
  ok : FOk env own
  ns : ∃ m, h.Ns env.locals m
  vars : ∀ x d, ρ x = some d → ∃ v, VarAt env h x v ∧ Sees F v d
  cells : ∀ p ∈ env.cells, ∃ v, h.IsCell p.2 v
  ownF : ∀ a ∈ own, F a = none
  live : ∀ a ∈ own, ∃ o, h.get? a = some o
  muo : ∀ a ∈ own, a ∉ μ.dom

/-- an object of names may get other slots: a frame's object, while an exception passes -/
def IsNs (o : Obj) : Prop := ∃ es ep, o.data = .dict es ep
def NsO (o : Obj) (m : Str → Option Value) : Prop := ∃ es ep, o.data = .dict es ep ∧ StrKeys es ∧ ∀ name, nsFind es name = m name
def Up (o o' : Obj) : Prop := o' = o ∨ (IsNs o ∧ IsNs o' ∧ ∀ m, NsO o m → NsO o' m)
theorem nns {o : Obj} {vs : Array Value} (h : o.data = .fields vs) : ¬ IsNs o := fun ⟨_, _, z⟩ => by rw [h] at z; cases z
theorem nnsq {o : Obj} {vs : Array Value} {n : Nat} (h : o.data = .seq vs n) : ¬ IsNs o := fun ⟨_, _, z⟩ => by rw [h] at z; cases z
theorem Up.refl (o : Obj) : Up o o := .inl rfl
theorem Up.slots {o : Obj} (h : IsNs o) (sl) : Up o { o with slots := sl } := .inr ⟨h, h, fun m x => x⟩
theorem Up.trans {a b c : Obj} (x : Up a b) (y : Up b c) : Up a c := by
  rcases x with rfl | ⟨h, h', k⟩
  · exact y
  · rcases y with rfl | ⟨_, h'', k'⟩
    · exact .inr ⟨h, h', k⟩
    · exact .inr ⟨h, h'', fun m z => k' m (k m z)⟩
theorem Up.nso {a b : Obj} (x : Up a b) {m} (h : NsO a m) : NsO b m := by
  rcases x with rfl | ⟨_, _, k⟩
  · exact h
  · exact k m h
theorem Up.eq {a b : Obj} (x : Up a b) (h : ¬ IsNs a) : b = a := x.elim id fun y => absurd y.1 h

structure Tr (g : G) (mt : List Addr) (μ μ' : Mu) (F F' : FM) (s s' : Shared) : Prop where
  ext : ∀ b o, s.heap.get? b = some o → b ∉ mt → b ∉ μ.dom → b ∉ g.tabDom → ∃ o', s'.heap.get? b = some o' ∧ Up o o'
  live : ∀ b o, s.heap.get? b = some o → ∃ o', s'.heap.get? b = some o'
  le : ∀ a o, F a = some o → F' a = some o
  fr : ∀ a, F' a = none ∨ F a ≠ none ∨ a ∈ μ.dom ∨ s.heap.get? a = none
  mu : ∀ a ∈ μ'.dom, a ∈ μ.dom ∨ s.heap.get? a = none
  os : s'.os = s.os
  gens : s'.gens = s.gens

theorem Tr.pop_frame {g : G} {env mt μ μ' F F' s s'} (t : Tr (g.push env) mt μ μ' F F' s s') : Tr g mt μ μ' F F' s s' := ⟨t.ext, t.live, t.le, t.fr, t.mu, t.os, t.gens⟩
theorem Tr.push_frame {g : G} {env mt μ μ' F F' s s'} (t : Tr g mt μ μ' F F' s s') : Tr (g.push env) mt μ μ' F F' s s' := ⟨t.ext, t.live, t.le, t.fr, t.mu, t.os, t.gens⟩
theorem Tr.refl {g : G} {mt μ F s} : Tr g mt μ μ F F s s where
  ext := fun _ o e _ _ _ => ⟨o, e, .refl o⟩
  live := fun _ o e => ⟨o, e⟩
  le := fun _ _ e => e
  fr := fun a => by cases h : F a with | none => exact .inl rfl | some o => exact .inr (.inl (by simp))
  mu := fun _ h => .inl h
  os := rfl
  gens := rfl

theorem Tr.trans {g : G} {mt μ μ₁ μ₂ F F₁ F₂ s s₁ s₂} (x : Tr g mt μ μ₁ F F₁ s s₁) (y : Tr g mt μ₁ μ₂ F₁ F₂ s₁ s₂) : Tr g mt μ μ₂ F F₂ s s₂ where
  ext := fun b o e h1 h2 h3 => let ⟨o₁, e₁, u₁⟩ := x.ext b o e h1 h2 h3; let ⟨o₂, e₂, u₂⟩ := y.ext b o₁ e₁ h1 (fun q => (x.mu b q).elim h2 (fun z => by rw [z] at e; cases e)) h3; ⟨o₂, e₂, u₁.trans u₂⟩
  live := fun b o e => (by obtain ⟨o', e'⟩ := x.live b o e; exact y.live b o' e')
  le := fun a o e => y.le a o (x.le a o e)
  fr := fun a => by
    cases he : s.heap.get? a with
    | none => exact .inr (.inr (.inr rfl))
    | some o =>
      obtain ⟨o', e'⟩ := x.live a o he
      rcases y.fr a with h | h | h | h
      · exact .inl h
      · rcases x.fr a with k | k | k | k
        · exact absurd k h
        · exact .inr (.inl k)
        · exact .inr (.inr (.inl k))
        · rw [he] at k; cases k
      · rcases x.mu a h with k | k
        · exact .inr (.inr (.inl k))
        · rw [he] at k; cases k
      · rw [e'] at h; cases h
  mu := fun a h => (y.mu a h).elim (fun k => x.mu a k) fun k => by
    cases he : s.heap.get? a with
    | none => exact .inr rfl
    | some o => obtain ⟨o', e'⟩ := x.live a o he; rw [e'] at k; cases k
  os := y.os.trans x.os
  gens := y.gens.trans x.gens

theorem Tr.mtLe {g : G} {mt mt' μ μ' F F' s s'} (x : Tr g mt μ μ' F F' s s') (h : ∀ a ∈ mt, a ∈ mt' ∨ s.heap.get? a = none) : Tr g mt' μ μ' F F' s s' :=
  { x with ext := fun b o e h1 h2 h3 => x.ext b o e (fun q => (h b q).elim h1 fun z => by rw [z] at e; cases e) h2 h3 }
theorem Tr.toOwn {g : G} {mt μ μ' F F' s s'} (x : Tr g [] μ μ' F F' s s') : Tr g mt μ μ' F F' s s' := x.mtLe (fun _ h => nomatch h)

/-- a step that only makes new objects and leaves everything else alone -/
theorem Tr.of_ext {g : G} {mt μ F s s'} (e : ∀ b o, s.heap.get? b = some o → s'.heap.get? b = some o) (os : s'.os = s.os) (gens : s'.gens = s.gens) : Tr g mt μ μ F F s s' where
  ext := fun b o q _ _ _ => ⟨o, e b o q, .refl o⟩
  live := fun b o q => ⟨o, e b o q⟩
  le := fun _ _ q => q
  fr := (Tr.refl (g := g) (mt := mt) (μ := μ) (s := s)).fr
  mu := fun _ h => .inl h
  os := os
  gens := gens

theorem tab_not_cell {h : Heap} {a : Addr} {ps v} (x : h.get? a = some (tabObj ps)) : ¬ h.IsCell a v := fun ⟨o, e, d⟩ => by rw [x] at e; cases e; cases d
theorem tab_not_ns {h : Heap} {a : Addr} {ps m} (x : h.get? a = some (tabObj ps)) : ¬ h.Ns a m := fun ⟨o, _, _, e, d, _⟩ => by rw [x] at e; cases e; cases d

theorem GSt.cellFree {g μ F h} (G : GSt g μ F h) {c v} (hc : h.IsCell c v) : c ∉ μ.dom ∧ c ∉ g.tabDom := by
  refine ⟨fun q => ?_, fun q => ?_⟩
  · obtain ⟨p, hp, rfl⟩ := List.mem_map.mp q
    obtain ⟨_, hm⟩ := G.mu p hp
    obtain ⟨o, e, d⟩ := hc
    obtain ⟨o', e', k⟩ := hm
    rw [e] at e'; cases e'
    exact k.notCell d
  · obtain ⟨p, hp, rfl⟩ := List.mem_map.mp q
    obtain ⟨_, ps, e, _⟩ := G.tb p hp
    exact tab_not_cell e hc

theorem GSt.nsTab {g μ F h} (G : GSt g μ F h) {a m} (hn : h.Ns a m) : a ∉ g.tabDom := fun q => by
  obtain ⟨p, hp, rfl⟩ := List.mem_map.mp q
  obtain ⟨_, ps, e, _⟩ := G.tb p hp
  exact tab_not_ns e hn

theorem Tr.at {g : G} {mt μ μ' F F' s s'} (t : Tr g mt μ μ' F F' s s') {b o} (hn : ¬ IsNs o) (e : s.heap.get? b = some o) (h1 : b ∉ mt) (h2 : b ∉ μ.dom) (h3 : b ∉ g.tabDom) : s'.heap.get? b = some o := by
  obtain ⟨o', e', u⟩ := t.ext b o e h1 h2 h3
  rw [e', u.eq hn]
theorem Tr.ns {g : G} {mt μ μ' F F' s s'} (t : Tr g mt μ μ' F F' s s') {b m} (hn : s.heap.Ns b m) (h1 : b ∉ mt) (h2 : b ∉ μ.dom) (h3 : b ∉ g.tabDom) : s'.heap.Ns b m := by
  obtain ⟨o, es, ep, e, d, r⟩ := hn
  obtain ⟨o', e', u⟩ := t.ext b o e h1 h2 h3
  obtain ⟨es', ep', d', r'⟩ := u.nso ⟨es, ep, d, r⟩
  exact ⟨o', es', ep', e', d', r'⟩
theorem VarAt.keepsN {env : Env} {h h' : Heap} {x v} (k : VarAt env h x v) (hl : ∀ m, h.Ns env.locals m → h'.Ns env.locals m)
    (hc : ∀ p ∈ env.cells, ∀ v, h.IsCell p.2 v → h'.IsCell p.2 v) : VarAt env h' x v := by
  rcases k with ⟨k, m, n, hm⟩ | ⟨k, c, hcx, n⟩
  · exact .inl ⟨k, m, hl m n, hm⟩
  · exact .inr ⟨k, c, hcx, hc _ (lookup_memB hcx) _ n⟩
theorem VarAt.keeps {env : Env} {h h' : Heap} {x v} (k : VarAt env h x v) (hl : ∀ o, h.get? env.locals = some o → h'.get? env.locals = some o)
    (hc : ∀ p ∈ env.cells, ∀ o, h.get? p.2 = some o → h'.get? p.2 = some o) : VarAt env h' x v :=
  k.keepsN (fun m ⟨o, es, ep, e, r⟩ => ⟨o, es, ep, hl o e, r⟩) fun p hp v ⟨o, e, d⟩ => ⟨o, hc p hp o e, d⟩

/-- the frame stands over whatever leaves its own objects alone -/
theorem FSt.tr {g env own ρ μ μ' F F' s s'} (Fs : FSt env own ρ μ F s.heap) (Gs : GSt g μ F s.heap) (t : Tr g [] μ μ' F F' s s') (Gs' : GSt g μ' F' s'.heap) : FSt env own ρ μ' F' s'.heap := by
  have hl : ∀ m, s.heap.Ns env.locals m → s'.heap.Ns env.locals m := fun m hm => t.ns hm (fun q => nomatch q) (Fs.muo _ Fs.ok.lown) (Gs.nsTab hm)
  have hc : ∀ p ∈ env.cells, ∀ v, s.heap.IsCell p.2 v → s'.heap.IsCell p.2 v := fun p hp v hv => by
    obtain ⟨o, e, d⟩ := id hv
    exact ⟨o, t.at (fun ⟨es, ep, z⟩ => by rw [d] at z; cases z) e (fun q => nomatch q) (Gs.cellFree hv).1 (Gs.cellFree hv).2, d⟩
  refine ⟨Fs.ok, ?_, fun x d e => ?_, fun p hp => ?_, fun a ha => ?_, fun a ha => ?_, fun a ha q => ?_⟩
  · obtain ⟨m, hm⟩ := Fs.ns
    exact ⟨m, hl m hm⟩
  · obtain ⟨v, hv, hs⟩ := Fs.vars x d e
    exact ⟨v, hv.keepsN hl hc, hs.mono t.le⟩
  · obtain ⟨v, hv⟩ := Fs.cells p hp
    exact ⟨v, hc p hp v hv⟩
  · rcases t.fr a with k | k | k | k
    · exact k
    · exact absurd (Fs.ownF a ha) k
    · exact absurd k (Fs.muo a ha)
    · obtain ⟨o, e⟩ := Fs.live a ha; rw [k] at e; cases e
  · obtain ⟨o, e⟩ := Fs.live a ha; exact t.live a o e
  · rcases t.mu a q with k | k
    · exact Fs.muo a ha k
    · obtain ⟨o, e⟩ := Fs.live a ha; rw [k] at e; cases e

/-- room: depth and C units -/
def Ok (g : G) (n : Nat) (A : Around) : Prop := A.depth + n ≤ 990 ∧ A.units + 8 * n ≤ 9800 ∧ A.handled = none ∧ A.frames = some g.stk
theorem Ok.in1 {g n A} (h : Ok g (n + 1) A) : Ok g n A.in1 := ⟨by have := h.1; simp; lia, by have := h.2.1; simp; lia, h.2.2.1, h.2.2.2⟩
theorem Ok.deeper {g n A env} (h : Ok g (n + 1) A) : Ok (g.push env) n (A.deeper env) :=
  ⟨by have := h.1; show A.depth + 1 + n ≤ 990; lia, by have := h.2.1; simp; lia, h.2.2.1, by show A.frames.map (env :: ·) = _; rw [h.2.2.2]; rfl⟩
theorem Ok.le {g n m A} (h : Ok g n A) (k : m ≤ n) : Ok g m A := ⟨by have := h.1; lia, by have := h.2.1; lia, h.2.2⟩
theorem Ok.room {g n A} (h : Ok g n A) : A.depth < recursionLimit := by have := h.1; unfold recursionLimit; lia
theorem Ok.hand {g n A} (h : Ok g n A) : A.handled = none := h.2.2.1
theorem Ok.frames {g n A} (h : Ok g n A) : A.frames = some g.stk := h.2.2.2
theorem Ok.units {g n A} (h : Ok g n A) : A.units < cLine := by have := h.2.1; unfold cLine; lia

inductive EvPost (g : G) (μ : Mu) (s : Shared) (F : FM) (Q : D → Mu → Prop) (v : Value) (s' : Shared) : Prop
  | mk (d : D) (μ' : Mu) (F' : FM) (t : Tr g [] μ μ' F F' s s') (G' : GSt g μ' F' s'.heap) (sv : Sees F' v d) (q : Q d μ')
inductive EtPost (g : G) (μ : Mu) (s : Shared) (F : FM) (Q : Bool → Mu → Prop) (b : Bool) (s' : Shared) : Prop
  | mk (μ' : Mu) (F' : FM) (t : Tr g [] μ μ' F F' s s') (G' : GSt g μ' F' s'.heap) (q : Q b μ')

section
variable (g : G) (env : Env) (own : List Addr) (n : Nat) (ρ : Str → Option D) (μ : Mu)

def Ev (e : Expr) (Q : D → Mu → Prop) : Prop :=
  ∀ A F s, Ok g n A → GSt g μ F s.heap → FSt env own ρ μ F s.heap →
    wpAny (model g.prog g.w) A (eval e env) (EvPost g μ s F Q) (fun _ _ => False) s
def Et (e : Expr) (Q : Bool → Mu → Prop) : Prop :=
  ∀ A F s, Ok g n A → GSt g μ F s.heap → FSt env own ρ μ F s.heap →
    wpAny (model g.prog g.w) A (isTrue e env (eval e env)) (EtPost g μ s F Q) (fun _ _ => False) s

inductive Fl where
  | next | brk | cont | ret (d : D)
def FlSees (F : FM) : Flow → Fl → Prop
  | .next, .next => True
  | .brk, .brk => True
  | .cont, .cont => True
  | .ret v, .ret d => Sees F v d
  | _, _ => False

inductive ExPost (s : Shared) (F : FM) (Q : Fl → (Str → Option D) → Mu → Prop) (fl : Flow) (s' : Shared) : Prop
  | mk (f : Fl) (ρ' : Str → Option D) (μ' : Mu) (F' : FM) (t : Tr g own μ μ' F F' s s') (G' : GSt g μ' F' s'.heap) (Fs' : FSt env own ρ' μ' F' s'.heap) (sf : FlSees F' fl f) (q : Q f ρ' μ')
def Ex (ss : List Stmt) (Q : Fl → (Str → Option D) → Mu → Prop) : Prop :=
  ∀ A F s, Ok g n A → GSt g μ F s.heap → FSt env own ρ μ F s.heap →
    wpAny (model g.prog g.w) A (execs ss env) (ExPost g env own μ s F Q) (fun _ _ => False) s
def Ex1 (st : Stmt) (Q : Fl → (Str → Option D) → Mu → Prop) : Prop :=
  ∀ A F s, Ok g n A → GSt g μ F s.heap → FSt env own ρ μ F s.heap →
    wpAny (model g.prog g.w) A (exec st env) (ExPost g env own μ s F Q) (fun _ _ => False) s
end


open PySem PySem.W PySem.Calls PyProof.Rows
set_option maxRecDepth 20000

/-- a call of a value on seen data -/
def Calls (g : G) (n : Nat) (f : D) (args : List D) (kws : List (Str × D)) (μ : Mu) (Q : D → Mu → Prop) : Prop :=
  ∀ A F s fv vs kvs, Ok g n A → GSt g μ F s.heap → Sees F fv f → SeesAll F vs args → SeesAll F (kvs.map (·.2)) (kws.map (·.2)) → kvs.map (·.1) = kws.map (·.1) →
    wpAny (model g.prog g.w) A (call fv vs kvs) (EvPost g μ s F Q) (fun _ _ => False) s

section
variable {g : G} {env : Env} {own : List Addr} {n : Nat} {ρ : Str → Option D} {μ : Mu}

theorem EvPost.trans {μ₁ s s₁ F F₁ Q v s'} (t : Tr g [] μ μ₁ F F₁ s s₁) (h : EvPost g μ₁ s₁ F₁ Q v s') : EvPost g μ s F Q v s' :=
  (by obtain ⟨d, μ', F', t', a, b, c⟩ := h; exact ⟨d, μ', F', t.trans t', a, b, c⟩)
theorem EtPost.trans {μ₁ s s₁ F F₁ Q v s'} (t : Tr g [] μ μ₁ F F₁ s s₁) (h : EtPost g μ₁ s₁ F₁ Q v s') : EtPost g μ s F Q v s' :=
  (by obtain ⟨μ', F', t', a, b⟩ := h; exact ⟨μ', F', t.trans t', a, b⟩)

theorem EvPost.mono {μ s F Q Q' v s'} (h : EvPost g μ s F Q v s') (k : ∀ d μ', Q d μ' → Q' d μ') : EvPost g μ s F Q' v s' :=
  (by obtain ⟨d, μ', F', t', a, b, c⟩ := h; exact ⟨d, μ', F', t', a, b, k _ _ c⟩)

/-- an end that makes nothing but tokens -/
theorem EvPost.here {s s' F Q v d} (hG : GSt g μ F s.heap) (hh : s'.heap = s.heap) (ho : s'.os = s.os) (hg : s'.gens = s.gens) (hv : Sees F v d) (hQ : Q d μ) : EvPost g μ s F Q v s' :=
  ⟨d, μ, F, Tr.of_ext (fun b o e => by rw [hh]; exact e) ho hg, by rw [hh]; exact hG, hv, hQ⟩

theorem Ev.mono {e : Expr} {Q Q' : D → Mu → Prop} (h : Ev g env own n ρ μ e Q) (k : ∀ d μ', Q d μ' → Q' d μ') : Ev g env own n ρ μ e Q' :=
  fun A F s ok G Fs => wpAny_mono (h A F s ok G Fs) (fun v s' p => EvPost.mono p k) fun _ _ x => x

/-- evaluate, go on from there -/
theorem wp_seq {A : Around} {F s} {e : Expr} {Q : D → Mu → Prop} {P : Value → Shared → Prop} {E : Value → Shared → Prop}
    (h : Ev g env own n ρ μ e Q) (ok : Ok g n A) (G : GSt g μ F s.heap) (Fs : FSt env own ρ μ F s.heap)
    (k : ∀ v d μ₁ F₁ s₁, Tr g [] μ μ₁ F F₁ s s₁ → GSt g μ₁ F₁ s₁.heap → FSt env own ρ μ₁ F₁ s₁.heap → Sees F₁ v d → Q d μ₁ → P v s₁) :
    wpAny (model g.prog g.w) A (eval e env) P E s :=
  wpAny_mono (h A F s ok G Fs) ((by rintro v s₁ ⟨d, μ₁, F₁, t, G₁, hv, hq⟩; exact k v d μ₁ F₁ s₁ t G₁ (Fs.tr G t G₁) hv hq)) fun _ _ x => x.elim
theorem wt_seq {A : Around} {F s} {e : Expr} {Q : Bool → Mu → Prop} {P : Bool → Shared → Prop} {E : Value → Shared → Prop}
    (h : Et g env own n ρ μ e Q) (ok : Ok g n A) (G : GSt g μ F s.heap) (Fs : FSt env own ρ μ F s.heap)
    (k : ∀ b μ₁ F₁ s₁, Tr g [] μ μ₁ F F₁ s s₁ → GSt g μ₁ F₁ s₁.heap → FSt env own ρ μ₁ F₁ s₁.heap → Q b μ₁ → P b s₁) :
    wpAny (model g.prog g.w) A (isTrue e env (eval e env)) P E s :=
  wpAny_mono (h A F s ok G Fs) ((by rintro b s₁ ⟨μ₁, F₁, t, G₁, hq⟩; exact k b μ₁ F₁ s₁ t G₁ (Fs.tr G t G₁) hq)) fun _ _ x => x.elim

/-- an act on one | two values -/
def Act1 (g : G) (n : Nat) (μ : Mu) (f : Value → Sem Value) (a : D) (Q : D → Mu → Prop) : Prop :=
  ∀ A F s va, Ok g n A → GSt g μ F s.heap → Sees F va a → wpAny (model g.prog g.w) A (f va) (EvPost g μ s F Q) (fun _ _ => False) s
def Act2 (g : G) (n : Nat) (μ : Mu) (f : Value → Value → Sem Value) (a b : D) (Q : D → Mu → Prop) : Prop :=
  ∀ A F s va vb, Ok g n A → GSt g μ F s.heap → Sees F va a → Sees F vb b → wpAny (model g.prog g.w) A (f va vb) (EvPost g μ s F Q) (fun _ _ => False) s
/-! what is left to do behind a value, said without a binder around what follows -/
abbrev K1 (g : G) (n : Nat) (f : Value → Sem Value) (Q : D → Mu → Prop) : D → Mu → Prop := fun a μ₁ => Act1 g n μ₁ f a Q
abbrev K2b (g : G) (n : Nat) (f : Value → Value → Sem Value) (a : D) (Q : D → Mu → Prop) : D → Mu → Prop := fun b μ₂ => Act2 g n μ₂ f a b Q
abbrev K2 (g : G) (env : Env) (own : List Addr) (n : Nat) (ρ : Str → Option D) (r : Expr) (f : Value → Value → Sem Value) (Q : D → Mu → Prop) : D → Mu → Prop := fun a μ₁ => Ev g env own n ρ μ₁ r (K2b g n f a Q)
theorem post_weak {A : Around} {μ₁ s s₁ F F₁ Q} {t : Sem Value} (tr : Tr g [] μ μ₁ F F₁ s s₁)
    (h : wpAny (model g.prog g.w) A t (EvPost g μ₁ s₁ F₁ Q) (fun _ _ => False) s₁) : wpAny (model g.prog g.w) A t (EvPost g μ s F Q) (fun _ _ => False) s₁ :=
  wpAny_mono h (fun _ _ p => p.trans tr) fun _ _ x => x

theorem Ev.cint {i k pos Q} (h : Q (.int i) μ) : Ev g env own n ρ μ (.Constant (.int i) k pos) Q :=
  fun A F s ok G Fs => wpAny_Constant_int (EvPost.here G rfl rfl rfl (.int _ _) h)
theorem Ev.cstr {x k pos Q} (h : Q (.str x) μ) : Ev g env own n ρ μ (.Constant (.str x) k pos) Q :=
  fun A F s ok G Fs => wpAny_Constant_str (EvPost.here G rfl rfl rfl (.str _ _) h)
theorem Ev.cnone {k pos Q} (h : Q .none μ) : Ev g env own n ρ μ (.Constant .none k pos) Q :=
  fun A F s ok G Fs => wpAny_Constant_none (EvPost.here G rfl rfl rfl .none h)
theorem Ev.cbool {b k pos Q} (h : Q (.bool b) μ) : Ev g env own n ρ μ (.Constant (.bool b) k pos) Q :=
  fun A F s ok G Fs => wpAny_Constant_bool (EvPost.here G rfl rfl rfl (.bool _) h)

theorem Ev.name {x pos d Q} (hx : ρ x = some d) (h : Q d μ) (hd : (x == ("__debug__" : Str)) = false := by decide) (hc : (x == ("__classdict__" : Str)) = false := by decide) :
    Ev g env own n ρ μ (.Name x pos) Q := fun A F s ok G Fs => by
  obtain ⟨v, hv, hs⟩ := Fs.vars x d hx
  rcases hv with ⟨hk, m, hm, e⟩ | ⟨hk, c, hl, hcell⟩
  · exact wpAny_Name (wpAny_loadName_local Fs.ok.kind hk hm e (EvPost.here G rfl rfl rfl hs h)) hd
  · rcases hk with hk | hk
    · exact wpAny_Name (wpAny_loadName_cell Fs.ok.kind hk hl hcell (EvPost.here G rfl rfl rfl hs h)) hd
    · exact wpAny_Name (wpAny_loadName_free Fs.ok.kind hk hl hcell (EvPost.here G rfl rfl rfl hs h) hc) hd

theorem GSt.keep {F h} (G : GSt g μ F h) : ∀ a o, g.base.get? a = some o → h.get? a = some o := fun a o e => G.fz a o (G.base a o e)

theorem Ev.glob {x pos v Q} (hx : env.kindOf x = some .globalImplicit) (e : nsIn g.K mainGlobals x = some (some v)) (h : Q (.val v) μ)
    (hd : (x == ("__debug__" : Str)) = false := by decide) : Ev g env own n ρ μ (.Name x pos) Q := fun A F s ok G Fs =>
  Name_function_global Fs.ok.kind hx (loadGlobal_global (by rw [Fs.ok.glob]; exact g.T.g.keeps G.keep) (mg_of g.X g.T.g e) (EvPost.here G rfl rfl rfl (.val _) h)) hd
theorem Ev.blt {x pos v Q} (hx : env.kindOf x = some .globalImplicit) (e : nsIn g.K mainGlobals x = some none) (hv : bootBuiltins x = some v) (h : Q (.val v) μ) (hn : x ≠ "__name__" := by decide)
    (hd : (x == ("__debug__" : Str)) = false := by decide) : Ev g env own n ρ μ (.Name x pos) Q := fun A F s ok G Fs =>
  Name_function_global Fs.ok.kind hx (loadGlobal_builtin (by rw [Fs.ok.glob]; exact g.T.g.keeps G.keep) (mg_none_of g.X g.T.g e) (by rw [Fs.ok.blt]; exact g.T.b.keeps G.keep) ((g.T.builtins x hn).trans hv) (EvPost.here G rfl rfl rfl (.val _) h)) hd

theorem Ev.binop {l op r pos Q} (h : Ev g env own n ρ μ l (K2 g env own n ρ r (binaryOp op) Q)) : Ev g env own n ρ μ (.BinOp l op r pos) Q := fun A F s ok G Fs =>
  wpAny_BinOp (wp_seq h ok G Fs fun va a μ₁ F₁ s₁ t₁ G₁ Fs₁ sa h₁ => wp_seq h₁ ok G₁ Fs₁ fun vb b μ₂ F₂ s₂ t₂ G₂ Fs₂ sb h₂ =>
    post_weak (t₁.trans t₂) (h₂ A F₂ s₂ va vb ok G₂ (sa.mono t₂.le) sb))
theorem Ev.cmp {l op r pos Q} (h : Ev g env own n ρ μ l (K2 g env own n ρ r (compareOp op) Q)) (hm : behindInMarks op r = false := by with_unfolding_all rfl) :
    Ev g env own n ρ μ (.Compare l [op] [r] pos) Q := fun A F s ok G Fs =>
  wpAny_Compare1 (hm := hm) (wp_seq h ok G Fs fun va a μ₁ F₁ s₁ t₁ G₁ Fs₁ sa h₁ => wp_seq h₁ ok G₁ Fs₁ fun vb b μ₂ F₂ s₂ t₂ G₂ Fs₂ sb h₂ =>
    post_weak (t₁.trans t₂) (h₂ A F₂ s₂ va vb ok G₂ (sa.mono t₂.le) sb))
theorem Ev.unop {op x pos Q} (h : Ev g env own n ρ μ x (K1 g n (unaryOp op) Q)) : Ev g env own n ρ μ (.UnaryOp op x pos) Q := fun A F s ok G Fs =>
  wpAny_UnaryOp (wp_seq h ok G Fs fun va a μ₁ F₁ s₁ t₁ G₁ Fs₁ sa h₁ => post_weak t₁ (h₁ A F₁ s₁ va ok G₁ sa))
/-- tests -/
def TBool (Q : Bool → Mu → Prop) (d : D) (μ : Mu) : Prop := ∃ b, d = .bool b ∧ Q b μ
theorem Et.cmp {l op r pos Q} (h : Ev g env own n ρ μ l (K2 g env own n ρ r (compareOp op) (TBool Q))) (hm : behindInMarks op r = false := by with_unfolding_all rfl) :
    Et g env own n ρ μ (.Compare l [op] [r] pos) Q := fun A F s ok G Fs =>
  wpAny_isTrue_Compare1 (hm := hm) (wp_seq h ok G Fs fun va a μ₁ F₁ s₁ t₁ G₁ Fs₁ sa h₁ => wp_seq h₁ ok G₁ Fs₁ fun vb b μ₂ F₂ s₂ t₂ G₂ Fs₂ sb h₂ =>
    wpAny_mono (h₂ A F₂ s₂ va vb ok G₂ (sa.mono t₂.le) sb) (by
      rintro v s₃ ⟨d, μ₃, F₃, t₃, G₃, sv, hq⟩
      obtain ⟨c, rfl, hq⟩ := hq
      obtain rfl := Sees.boolI sv
      exact wpAny_truthy_bool ⟨μ₃, F₃, (t₁.trans t₂).trans t₃, G₃, hq⟩) fun _ _ x => x)
theorem Et.not {x pos Q} (h : Et g env own n ρ μ x fun c => Q (!c)) : Et g env own n ρ μ (.UnaryOp .Not x pos) Q := fun A F s ok G Fs =>
  wpAny_isTrue_Not (wt_seq h ok G Fs fun c μ₁ F₁ s₁ t₁ G₁ Fs₁ h₁ => ⟨μ₁, F₁, t₁, G₁, h₁⟩)
def EtAll (g : G) (env : Env) (own : List Addr) (n : Nat) (ρ : Str → Option D) : BoolOp → List Expr → Mu → (Bool → Mu → Prop) → Prop
  | .And, [], μ, Q => Q true μ
  | .Or, [], μ, Q => Q false μ
  | .And, x :: r, μ, Q => Et g env own n ρ μ x fun c μ₁ => (c = false → Q false μ₁) ∧ (c = true → EtAll g env own n ρ .And r μ₁ Q)
  | .Or, x :: r, μ, Q => Et g env own n ρ μ x fun c μ₁ => (c = true → Q true μ₁) ∧ (c = false → EtAll g env own n ρ .Or r μ₁ Q)
theorem et_post {A : Around} {μ₁ s s₁ F F₁ Q} {t : Sem Bool} (tr : Tr g [] μ μ₁ F F₁ s s₁)
    (h : wpAny (model g.prog g.w) A t (EtPost g μ₁ s₁ F₁ Q) (fun _ _ => False) s₁) : wpAny (model g.prog g.w) A t (EtPost g μ s F Q) (fun _ _ => False) s₁ :=
  wpAny_mono h (fun _ _ p => p.trans tr) fun _ _ x => x
theorem et_and : ∀ (es : List Expr) {μ Q A F s}, EtAll g env own n ρ .And es μ Q → Ok g n A → GSt g μ F s.heap → FSt env own ρ μ F s.heap →
    wpAny (model g.prog g.w) A (allTrue .And es env) (EtPost g μ s F Q) (fun _ _ => False) s
  | [], μ, Q, A, F, s, h, ok, G, Fs => wpAny_allTrue_And_nil ⟨μ, F, .refl, G, h⟩
  | x :: r, μ, Q, A, F, s, h, ok, G, Fs => wpAny_allTrue_And_cons (wt_seq (by unfold EtAll at h; exact h) ok G Fs fun c μ₁ F₁ s₁ t₁ G₁ Fs₁ h₁ => by
    cases c with
    | false => exact ⟨μ₁, F₁, t₁, G₁, h₁.1 rfl⟩
    | true => exact et_post t₁ (et_and r (h₁.2 rfl) ok G₁ Fs₁))
theorem et_or : ∀ (es : List Expr) {μ Q A F s}, EtAll g env own n ρ .Or es μ Q → Ok g n A → GSt g μ F s.heap → FSt env own ρ μ F s.heap →
    wpAny (model g.prog g.w) A (allTrue .Or es env) (EtPost g μ s F Q) (fun _ _ => False) s
  | [], μ, Q, A, F, s, h, ok, G, Fs => wpAny_allTrue_Or_nil ⟨μ, F, .refl, G, h⟩
  | x :: r, μ, Q, A, F, s, h, ok, G, Fs => wpAny_allTrue_Or_cons (wt_seq (by unfold EtAll at h; exact h) ok G Fs fun c μ₁ F₁ s₁ t₁ G₁ Fs₁ h₁ => by
    cases c with
    | true => exact ⟨μ₁, F₁, t₁, G₁, h₁.1 rfl⟩
    | false => exact et_post t₁ (et_or r (h₁.2 rfl) ok G₁ Fs₁))
theorem Et.and {es pos Q} (h : EtAll g env own n ρ .And es μ Q) : Et g env own n ρ μ (.BoolOp .And es pos) Q := fun A F s ok G Fs => wpAny_isTrue_BoolOp (et_and es h ok G Fs)
theorem Et.or {es pos Q} (h : EtAll g env own n ρ .Or es μ Q) : Et g env own n ρ μ (.BoolOp .Or es pos) Q := fun A F s ok G Fs => wpAny_isTrue_BoolOp (et_or es h ok G Fs)

end

open PySem PySem.W PySem.Calls PyProof.Rows
set_option maxRecDepth 20000
section
variable {g : G} {env : Env} {own : List Addr} {n : Nat} {ρ : Str → Option D} {μ : Mu}

theorem GSt.ext {F : FM} {h h' : Heap} (G : GSt g μ F h) (e : ∀ b o, h.get? b = some o → h'.get? b = some o) : GSt g μ F h' where
  base := G.base
  fz := fun a o q => e _ _ (G.fz a o q)
  tb := fun q hq => (by obtain ⟨a, ps, b, c, d⟩ := G.tb q hq; exact ⟨a, ps, e _ _ b, c, d⟩)
  mu := fun p hp => by
    obtain ⟨a, b⟩ := G.mu p hp
    exact ⟨a, b.move (fun _ _ x => x) (fun o => e _ o)⟩
  nd := G.nd
  fzc := G.fzc
  dj := G.dj
  stk := fun x hx => (G.stk x hx).ext e

theorem GSt.stkNs {F : FM} {h : Heap} (G : GSt g μ F h) {x : Env} {a : Addr} (hx : x ∈ g.stk) (hf : x.frame = some a) : ∃ m, h.Ns a m := by
  obtain ⟨_, L, m, hf', hn, _⟩ := G.stk x hx
  rw [hf] at hf'; cases hf'; exact ⟨m, hn⟩
/-- one object that is nobody's turns -/
theorem GSt.at {F : FM} {h h' : Heap} {a : Addr} (G : GSt g μ F h) (sb : Heap.SameBut a h h') (hF : F a = none) (hm : a ∉ μ.dom) (ht : a ∉ g.tabDom) (hs : ∀ x ∈ g.stk, x.frame = some a → ∃ m', h'.Ns a m') : GSt g μ F h' := by
  have k : ∀ b o, b ≠ a → h.get? b = some o → h'.get? b = some o := fun b o hb e => (sb.2 b hb).trans e
  refine ⟨G.base, fun b o q => k b o (fun z => by rw [z, hF] at q; cases q) (G.fz b o q), fun q hq => ?_, fun p hp => ?_, G.nd, G.fzc, G.dj, fun x hx => ?_⟩
  · obtain ⟨x, ps, b, c, d⟩ := G.tb q hq
    refine ⟨x, ps, k _ _ (fun z => ht (z ▸ List.mem_map_of_mem hq)) b, c, d⟩
  · obtain ⟨x, b⟩ := G.mu p hp
    have hne : p.1 ≠ a := fun z => hm (z ▸ List.mem_map_of_mem hp)
    exact ⟨x, b.move (fun _ _ x => x) (fun o => k _ o hne)⟩
  · obtain ⟨hk, L, m, hf, hns, hF', hm'⟩ := G.stk x hx
    by_cases hL : L = a
    · subst hL; obtain ⟨m', hm2⟩ := hs x hx hf; exact ⟨hk, L, m', hf, hm2, hF', hm'⟩
    · exact ⟨hk, L, m, hf, hns.sameBut sb hL, hF', hm'⟩

def upd (ρ : Str → Option D) (x : Str) (d : D) : Str → Option D := fun y => if y = x then some d else ρ y

theorem lookup_mem {α : Type} {l : List (Str × α)} {x : Str} {c : α} (h : l.lookup x = some c) : (x, c) ∈ l := by
  induction l with
  | nil => simp at h
  | cons p l ih =>
    obtain ⟨y, b⟩ := p
    rw [List.lookup_cons] at h
    cases hy : x == y with
    | true => rw [hy] at h; cases h; rw [eq_of_beq hy]; exact .head _
    | false => rw [hy] at h; exact .tail _ (ih h)

theorem nodup_snd {l : List (Str × Addr)} (hn : (l.map (·.2)).Nodup) {x y : Str} {c : Addr} (h1 : (x, c) ∈ l) (h2 : (y, c) ∈ l) : x = y := by
  induction l with
  | nil => cases h1
  | cons p l ih =>
    simp only [List.map_cons, List.nodup_cons] at hn
    cases h1 with
    | head => cases h2 with
      | head => rfl
      | tail _ h2 => exact absurd (List.mem_map.mpr ⟨_, h2, rfl⟩) hn.1
    | tail _ h1 => cases h2 with
      | head => exact absurd (List.mem_map.mpr ⟨_, h1, rfl⟩) hn.1
      | tail _ h2 => exact ih hn.2 h1 h2

/-- the name x can be stored to -/
def Bindable (env : Env) (own : List Addr) (x : Str) : Prop :=
  env.kindOf x = some .local ∨ (env.kindOf x = some .cell ∧ ∃ c, env.cells.lookup x = some c ∧ c ∈ own)

set_option tactic.hygienic true in
theorem st_store {A : Around} {F : FM} {s : Shared} {x : Str} {v : Value} {d : D} {Q : Unit → Shared → Prop} {E : Value → Shared → Prop} (G : GSt g μ F s.heap) (Fs : FSt env own ρ μ F s.heap) (hv : Sees F v d) (hb : Bindable env own x)
    (h : ∀ s', Tr g own μ μ F F s s' → GSt g μ F s'.heap → FSt env own (upd ρ x d) μ F s'.heap → s'.os = s.os → Q () s') : wpAny (model g.prog g.w) A (storeName env x v) Q E s := by
  rcases hb with hk | ⟨hk, c, hl, hc⟩
  · obtain ⟨m, hm⟩ := Fs.ns
    refine wpAny_storeName_local hk hm (fun h' hn sb => h _ ?_ ?_ ?_ rfl) (by rw [Fs.ok.kind]; rfl)
    · exact ⟨fun b o e h1 _ _ => ⟨o, (sb.2 b (fun z => h1 (z ▸ Fs.ok.lown))).trans e, .refl o⟩, fun b o e => by
        by_cases hb : b = env.locals
        · subst hb; obtain ⟨o', _, _, e', _⟩ := hn; exact ⟨o', e'⟩
        · exact ⟨o, (sb.2 b hb).trans e⟩, fun _ _ e => e, (Tr.refl (g := g) (mt := own) (μ := μ) (s := s)).fr, fun _ q => .inl q, rfl, rfl⟩
    · exact G.at sb (Fs.ownF _ Fs.ok.lown) (Fs.muo _ Fs.ok.lown) (G.nsTab hm) fun _ _ _ => ⟨_, hn⟩
    · refine ⟨Fs.ok, ⟨_, hn⟩, fun y d' e => ?_, fun p hp => ?_, Fs.ownF, fun a ha => ?_, Fs.muo⟩
      · unfold upd at e
        split at e
        · rename_i hy; cases e; subst hy; exact ⟨v, .inl ⟨hk, _, hn, by simp⟩, hv⟩
        · rename_i hy
          obtain ⟨v', hv', hs'⟩ := Fs.vars y d' e
          refine ⟨v', ?_, hs'⟩
          rcases hv' with ⟨k', m', hm', e'⟩ | ⟨k', c', hc', hcell⟩
          · refine .inl ⟨k', _, hn, ?_⟩
            simp only [hy, if_false]
            obtain ⟨o1, es1, ep1, f1, f2, f3, f4⟩ := hm
            obtain ⟨o2, es2, ep2, g1, g2, g3, g4⟩ := hm'
            rw [f1] at g1; cases g1; rw [f2] at g2; cases g2
            rw [← f4 y, g4 y]; exact e'
          · refine .inr ⟨k', c', hc', hcell.sameBut sb fun z => ?_⟩
            subst z
            obtain ⟨o1, e1, d1⟩ := hcell; obtain ⟨o2, _, _, e2, d2, _⟩ := hm; rw [e1] at e2; cases e2; rw [d1] at d2; cases d2
      · obtain ⟨v', hc'⟩ := Fs.cells p hp
        refine ⟨v', hc'.sameBut sb fun z => ?_⟩
        obtain ⟨o1, e1, d1⟩ := hc'; obtain ⟨o2, _, _, e2, d2, _⟩ := hm; rw [z] at e1; rw [e1] at e2; cases e2; rw [d1] at d2; cases d2
      · by_cases hb : a = env.locals
        · subst hb; obtain ⟨o', _, _, e', _⟩ := hn; exact ⟨o', e'⟩
        · obtain ⟨o, e⟩ := Fs.live a ha; exact ⟨o, (sb.2 a hb).trans e⟩
  · have hcm := lookup_mem hl
    obtain ⟨v₀, hc0⟩ := Fs.cells _ hcm
    refine wpAny_storeName_cell Fs.ok.kind hk hl hc0 fun h' hn sb => h _ ?_ ?_ ?_ rfl
    · exact ⟨fun b o e h1 _ _ => ⟨o, (sb.2 b (fun z => h1 (z ▸ hc))).trans e, .refl o⟩, fun b o e => by
        by_cases hb : b = c
        · subst hb; obtain ⟨o', e', _⟩ := hn; exact ⟨o', e'⟩
        · exact ⟨o, (sb.2 b hb).trans e⟩, fun _ _ e => e, (Tr.refl (g := g) (mt := own) (μ := μ) (s := s)).fr, fun _ q => .inl q, rfl, rfl⟩
    · exact G.at sb (Fs.ownF _ hc) (Fs.muo _ hc) (G.cellFree hc0).2 fun x hx hf => by
        obtain ⟨m, o2, _, _, e2, d2, _⟩ := G.stkNs hx hf; obtain ⟨o1, e1, d1⟩ := hc0; rw [e1] at e2; cases e2; rw [d1] at d2; cases d2
    · have hlc : env.locals ≠ c := fun z => by
        obtain ⟨m, o2, _, _, e2, d2, _⟩ := Fs.ns; obtain ⟨o1, e1, d1⟩ := hc0; rw [z] at e2; rw [e1] at e2; cases e2; rw [d1] at d2; cases d2
      refine ⟨Fs.ok, ?_, fun y d' e => ?_, fun p hp => ?_, Fs.ownF, fun a ha => ?_, Fs.muo⟩
      · obtain ⟨m, hm⟩ := Fs.ns; exact ⟨m, hm.sameBut sb hlc⟩
      · unfold upd at e
        split at e
        · rename_i hy; cases e; subst hy; exact ⟨v, .inr ⟨.inl hk, c, hl, hn⟩, hv⟩
        · rename_i hy
          obtain ⟨v', hv', hs'⟩ := Fs.vars y d' e
          refine ⟨v', ?_, hs'⟩
          rcases hv' with ⟨k', m', hm', e'⟩ | ⟨k', c', hc', hcell⟩
          · exact .inl ⟨k', m', hm'.sameBut sb hlc, e'⟩
          · exact .inr ⟨k', c', hc', hcell.sameBut sb fun z => hy (nodup_snd Fs.ok.cnd (lookup_mem hc') (z ▸ hcm))⟩
      · by_cases hb : p.2 = c
        · exact ⟨_, hb ▸ hn⟩
        · obtain ⟨v', hc'⟩ := Fs.cells p hp; exact ⟨v', hc'.sameBut sb hb⟩
      · by_cases hb : a = c
        · subst hb; obtain ⟨o', e', _⟩ := hn; exact ⟨o', e'⟩
        · obtain ⟨o, e⟩ := Fs.live a ha; exact ⟨o, (sb.2 a hb).trans e⟩

theorem ExPost.trans {μ₁ s s₁ F F₁ Q v s'} (t : Tr g own μ μ₁ F F₁ s s₁) (h : ExPost g env own μ₁ s₁ F₁ Q v s') : ExPost g env own μ s F Q v s' :=
  (by obtain ⟨f, ρ', μ', F', t', a, b, c, d⟩ := h; exact ⟨f, ρ', μ', F', t.trans t', a, b, c, d⟩)
theorem ex_weak {A : Around} {μ₁ s s₁ F F₁ Q} {t : Sem Flow} (tr : Tr g own μ μ₁ F F₁ s s₁)
    (h : wpAny (model g.prog g.w) A t (ExPost g env own μ₁ s₁ F₁ Q) (fun _ _ => False) s₁) : wpAny (model g.prog g.w) A t (ExPost g env own μ s F Q) (fun _ _ => False) s₁ :=
  wpAny_mono h (fun _ _ p => p.trans tr) fun _ _ x => x

theorem Ex.nil {Q} (h : Q .next ρ μ) : Ex g env own n ρ μ [] Q := fun A F s ok G Fs => wpAny_execs_nil ⟨.next, ρ, μ, F, .refl, G, Fs, trivial, h⟩
abbrev XQ := Fl → (Str → Option D) → Mu → Prop
abbrev Seq (g : G) (env : Env) (own : List Addr) (n : Nat) (rest : List Stmt) (Q : XQ) : XQ := fun f ρ₁ μ₁ => (f = .next → Ex g env own n ρ₁ μ₁ rest Q) ∧ (f ≠ .next → Q f ρ₁ μ₁)
abbrev RetK (ρ : Str → Option D) (Q : XQ) : D → Mu → Prop := fun d μ₁ => Q (.ret d) ρ μ₁
abbrev BrX (g : G) (env : Env) (own : List Addr) (n : Nat) (ρ : Str → Option D) (b o : List Stmt) (Q : XQ) : Bool → Mu → Prop := fun c μ₁ => (c = true → Ex g env own n ρ μ₁ b Q) ∧ (c = false → Ex g env own n ρ μ₁ o Q)
abbrev AsgK (ρ : Str → Option D) (x : Str) (Q : XQ) : D → Mu → Prop := fun d μ₁ => Q .next (upd ρ x d) μ₁
abbrev ExprK (ρ : Str → Option D) (Q : XQ) : D → Mu → Prop := fun d μ₁ => d = .none ∧ Q .next ρ μ₁
theorem Ex.cons {st rest Q} (h : Ex1 g env own n ρ μ st (Seq g env own n rest Q)) : Ex g env own n ρ μ (st :: rest) Q := fun A F s ok G Fs =>
  wpAny_execs_cons (wpAny_mono (h A F s ok G Fs) (by
    rintro fl s₁ ⟨f, ρ₁, μ₁, F₁, t, G₁, Fs₁, sf, h₁⟩
    cases fl <;> cases f <;> first | exact sf.elim | exact ex_weak t (h₁.1 rfl A F₁ s₁ ok G₁ Fs₁) | exact ⟨_, ρ₁, μ₁, F₁, t, G₁, Fs₁, sf, h₁.2 (by intro x; cases x)⟩) fun _ _ x => x)
theorem Ex1.ret {e pos Q} (h : Ev g env own n ρ μ e (RetK ρ Q)) : Ex1 g env own n ρ μ (.Return (some e) pos) Q := fun A F s ok G Fs =>
  wpAny_Return_some (wp_seq h ok G Fs fun v d μ₁ F₁ s₁ t G₁ Fs₁ sv h₁ => ⟨.ret d, ρ, μ₁, F₁, t.toOwn, G₁, Fs₁, sv, h₁⟩)
theorem Ex1.ite {t b o pos Q} (h : Et g env own n ρ μ t (BrX g env own n ρ b o Q)) : Ex1 g env own n ρ μ (.If t b o pos) Q := fun A F s ok G Fs =>
  wpAny_If (wt_seq h ok G Fs fun c μ₁ F₁ s₁ t₁ G₁ Fs₁ h₁ => by
    cases c with
    | true => exact ex_weak t₁.toOwn (h₁.1 rfl A F₁ s₁ ok G₁ Fs₁)
    | false => exact ex_weak t₁.toOwn (h₁.2 rfl A F₁ s₁ ok G₁ Fs₁))
theorem Ex1.assign {x p e pos Q} (h : Ev g env own n ρ μ e (AsgK ρ x Q)) (hb : Bindable env own x)
    (hs : swapsWith e (some (.Name x p)) pos.line env = pure false := by rfl) : Ex1 g env own n ρ μ (.Assign [.Name x p] e pos) Q := fun A F s ok G Fs =>
  wpAny_Assign_Name (hs := hs) (wp_seq h ok G Fs fun v d μ₁ F₁ s₁ t G₁ Fs₁ sv h₁ => st_store G₁ Fs₁ sv hb fun s₂ t₂ G₂ Fs₂ _ => ⟨.next, _, μ₁, F₁, t.toOwn.trans t₂, G₂, Fs₂, trivial, h₁⟩)
theorem Ex1.expr {e pos Q} (h : Ev g env own n ρ μ e (ExprK ρ Q))
    (hs : swapsWith e none pos.line env = pure false := by rfl) : Ex1 g env own n ρ μ (.Expr e pos) Q := fun A F s ok G Fs =>
  wpAny_Expr (hs := hs) (hi := by unfold interactive; rw [Fs.ok.kind]; rfl) (wp_seq h ok G Fs fun v d μ₁ F₁ s₁ t G₁ Fs₁ sv h₁ => by
    obtain ⟨rfl, h₁⟩ := h₁
    obtain rfl := Sees.noneI sv
    exact ⟨.next, ρ, μ₁, F₁, t.toOwn, G₁, Fs₁, trivial, h₁⟩)
theorem Ex1.brk {pos Q} (h : Q .brk ρ μ) : Ex1 g env own n ρ μ (.Break pos) Q := fun A F s ok G Fs => wpAny_Break ⟨.brk, ρ, μ, F, .refl, G, Fs, trivial, h⟩

/-- a while by an invariant and a measure -/
theorem Ex1.while {test body pos Q} (I : Nat → (Str → Option D) → Mu → Prop) (k : Nat) (h0 : I k ρ μ)
    (turn : ∀ k ρ μ, I k ρ μ → Et g env own n ρ μ test fun c μ₁ =>
      (c = true → Ex g env own n ρ μ₁ body fun f ρ₂ μ₂ => match f with
        | .next => ∃ k', k' < k ∧ I k' ρ₂ μ₂
        | .cont => ∃ k', k' < k ∧ I k' ρ₂ μ₂
        | .brk => Q .next ρ₂ μ₂
        | .ret d => Q (.ret d) ρ₂ μ₂) ∧
      (c = false → Q .next ρ μ₁)) : Ex1 g env own n ρ μ (.While test body [] pos) Q := fun A F s ok G Fs => by
  refine wpAny_While (codeAny_whileLoop (fun k s' => ∃ ρ' μ' F', Tr g own μ μ' F F' s s' ∧ GSt g μ' F' s'.heap ∧ FSt env own ρ' μ' F' s'.heap ∧ I k ρ' μ') ?_ k ⟨ρ, μ, F, .refl, G, Fs, h0⟩)
  rintro k s₁ ⟨ρ₁, μ₁, F₁, t₁, G₁, Fs₁, hI⟩
  refine wt_seq (turn k ρ₁ μ₁ hI) ok G₁ Fs₁ fun c μ₂ F₂ s₂ t₂ G₂ Fs₂ h₂ => ?_
  cases c with
  | false => exact wpAny_execs_nil ⟨.next, ρ₁, μ₂, F₂, t₁.trans t₂.toOwn, G₂, Fs₂, trivial, h₂.2 rfl⟩
  | true =>
    refine wpAny_mono (h₂.1 rfl A F₂ s₂ ok G₂ Fs₂) ?_ fun _ _ x => x.elim
    rintro fl s₃ ⟨f, ρ₃, μ₃, F₃, t₃, G₃, Fs₃, sf, h₃⟩
    have t := (t₁.trans t₂.toOwn).trans t₃
    cases fl <;> cases f <;> first
      | exact sf.elim
      | (obtain ⟨k', hk, hI'⟩ := h₃; exact ⟨k', hk, ρ₃, μ₃, F₃, t, G₃, Fs₃, hI'⟩)
      | exact ⟨_, ρ₃, μ₃, F₃, t, G₃, Fs₃, sf, h₃⟩
      | exact ⟨.next, ρ₃, μ₃, F₃, t, G₃, Fs₃, trivial, h₃⟩
end

open PySem PySem.W PySem.Calls PyProof.Rows
set_option maxRecDepth 20000
section
variable {g : G} {env : Env} {own : List Addr} {n : Nat} {ρ : Str → Option D} {μ : Mu}

def plainE : Expr → Bool
  | .Starred .. => false
  | _ => true
theorem plainE_star {e : Expr} (h : plainE e = true) (rest : List Expr) (env : Env) : starEach (e :: rest) env = (false, eval e env) :: starEach rest env := by
  cases e <;> first | rfl | cases h

def EvL (g : G) (env : Env) (own : List Addr) (n : Nat) (ρ : Str → Option D) : List Expr → Mu → (List D → Mu → Prop) → Prop
  | [], μ, Q => Q [] μ
  | e :: r, μ, Q => plainE e = true ∧ Ev g env own n ρ μ e fun d μ₁ => EvL g env own n ρ r μ₁ fun ds μ₂ => Q (d :: ds) μ₂
def EvK (g : G) (env : Env) (own : List Addr) (n : Nat) (ρ : Str → Option D) : List Keyword → Mu → (List (Str × D) → Mu → Prop) → Prop
  | [], μ, Q => Q [] μ
  | ⟨some x, e, _⟩ :: r, μ, Q => Ev g env own n ρ μ e fun d μ₁ => EvK g env own n ρ r μ₁ fun ks μ₂ => Q ((x, d) :: ks) μ₂
  | ⟨Option.none, _, _⟩ :: _, _, _ => False

inductive LPost (g : G) (μ : Mu) (s : Shared) (F : FM) (Q : List D → Mu → Prop) (vs : List Value) (s' : Shared) : Prop
  | mk (ds : List D) (μ' : Mu) (F' : FM) (t : Tr g [] μ μ' F F' s s') (G' : GSt g μ' F' s'.heap) (sa : SeesAll F' vs ds) (q : Q ds μ')

theorem evl {pos : Pos} {A : Around} (ok : Ok g n A) : ∀ (es : List Expr) {μ Q F s}, EvL g env own n ρ es μ Q → GSt g μ F s.heap → FSt env own ρ μ F s.heap →
    wpAny (model g.prog g.w) A (spliced (backTo pos (starEach es env))) (LPost g μ s F Q) (fun _ _ => False) s
  | [], μ, Q, F, s, h, G, Fs => wpAny_items_nil ⟨[], μ, F, .refl, G, .nil, h⟩
  | e :: r, μ, Q, F, s, h, G, Fs => by
    obtain ⟨hp, h⟩ := h
    refine wpAny_items_cons (wp_seq h ok G Fs fun v d μ₁ F₁ s₁ t₁ G₁ Fs₁ sv h₁ => ?_) (plainE_star hp r env)
    refine wpAny_mono (evl ok r h₁ G₁ Fs₁) ?_ fun _ _ x => x
    rintro vs s₂ ⟨ds, μ₂, F₂, t₂, G₂, sds, h₂⟩
    exact ⟨d :: ds, μ₂, F₂, t₁.trans t₂, G₂, .cons (sv.mono t₂.le) sds, h₂⟩

inductive KPost (g : G) (μ : Mu) (s : Shared) (F : FM) (kws : List Keyword) (Q : List (Str × D) → Mu → Prop) (vs : List Value) (s' : Shared) : Prop
  | mk (ks : List (Str × D)) (μ' : Mu) (F' : FM) (t : Tr g [] μ μ' F F' s s') (G' : GSt g μ' F' s'.heap) (sa : SeesAll F' vs (ks.map (·.2))) (e : kws.filterMap (·.arg) = ks.map (·.1)) (q : Q ks μ')
theorem evk {pos : Pos} {A : Around} (ok : Ok g n A) : ∀ (kws : List Keyword) {μ Q F s}, EvK g env own n ρ kws μ Q → GSt g μ F s.heap → FSt env own ρ μ F s.heap →
    wpAny (model g.prog g.w) A (evalAll ((backToKw pos (keywordEach kws env)).map (·.2))) (KPost g μ s F kws Q) (fun _ _ => False) s
  | [], μ, Q, F, s, h, G, Fs => kwAll_nil ⟨[], μ, F, .refl, G, .nil, rfl, h⟩
  | ⟨some x, e, p⟩ :: r, μ, Q, F, s, h, G, Fs => by
    refine kwAll_cons (wp_seq h ok G Fs fun v d μ₁ F₁ s₁ t₁ G₁ Fs₁ sv h₁ => ?_)
    refine wpAny_mono (evk ok r h₁ G₁ Fs₁) ?_ fun _ _ x => x
    rintro vs s₂ ⟨ks, μ₂, F₂, t₂, G₂, sds, hn, h₂⟩
    exact ⟨(x, d) :: ks, μ₂, F₂, t₁.trans t₂, G₂, .cons (sv.mono t₂.le) sds, by simp [hn], h₂⟩
  | ⟨Option.none, e, p⟩ :: r, μ, Q, F, s, h, G, Fs => h.elim
theorem kws_some {pos : Pos} (env : Env) : ∀ (r : List Keyword), r.all (·.arg.isSome) = true → (backToKw pos (keywordEach r env)).all (·.1.isSome) = true ∧ (backToKw pos (keywordEach r env)).any (·.1.isNone) = false
        ∧ (backToKw pos (keywordEach r env)).filterMap (·.1) = r.filterMap (·.arg)
  | [], _ => ⟨rfl, rfl, rfl⟩
  | ⟨some y, e, p⟩ :: r, h => by
    obtain ⟨a, b, c⟩ := kws_some (pos := pos) env r (by simpa using h)
    refine ⟨?_, ?_, ?_⟩
    · show (true && (backToKw pos (keywordEach r env)).all (·.1.isSome)) = true; rw [a]; rfl
    · show (false || (backToKw pos (keywordEach r env)).any (·.1.isNone)) = false; rw [b]; rfl
    · show y :: (backToKw pos (keywordEach r env)).filterMap (·.1) = y :: r.filterMap (·.arg); rw [c]
  | ⟨Option.none, e, p⟩ :: r, h => by simp at h
theorem args_plain {pos : Pos} (env : Env) : ∀ (r : List Expr), r.all plainE = true → (backTo pos (starEach r env)).any (·.1) = false
  | [], _ => rfl
  | e :: r, h => by
    simp only [List.all_cons, Bool.and_eq_true] at h
    rw [plainE_star h.1]
    show (false || (backTo pos (starEach r env)).any (·.1)) = false
    rw [args_plain env r h.2]; rfl

/-- who keeps the values while the callee runs -/
def KeepB (base : Heap) (f : D) : Prop := ∀ (M : Model) (F : FM) (fv : Value) (h : Heap), (∀ a o, base.get? a = some o → F a = some o) → (∀ a o, F a = some o → h.get? a = some o) → Sees F fv f →
  ∃ k, (k = Keeper.frame ∨ k = Keeper.machine ∨ k = Keeper.boundFrame) ∧ Looks M h (keeperOf fv) k
abbrev KeepD (g : G) (f : D) : Prop := KeepB g.base f
theorem KeepD.builtin {id : String} : KeepD g (.val (.builtin id)) := fun M F fv h _ _ sv => by obtain rfl := Sees.valI sv; exact ⟨.machine, .inr (.inl rfl), .now⟩
theorem KeepD.type {t : String} : KeepD g (.val (.type t)) := fun M F fv h _ _ sv => by obtain rfl := Sees.valI sv; exact ⟨.machine, .inr (.inl rfl), .now⟩
theorem KeepD.fn {a : Addr} (hk : keepIn g.K (.ref a) = true) : KeepD g (.val (.ref a)) := fun M F fv h hb hf sv => by
  obtain rfl := Sees.valI sv
  obtain ⟨k, a, b⟩ := looks_keep (M := M) hk (g.X.keeps fun b o e => hf _ _ (hb _ _ e))
  exact ⟨k, a.elim .inl (fun e => .inr (.inl e)), b⟩
theorem KeepD.clo {q ps b sc cd cp} : KeepD g (.clo q ps b sc cd cp) := fun M F fv h hb hf sv => by
  obtain @⟨_, _, _, _, _, _, e, d, _, _, _⟩ := Sees.cloI sv
  exact ⟨.frame, .inl rfl, (Looks.ld (part := none) (hf _ _ e)).andThen (by rw [d]; exact .now)⟩

/-- the arguments, then the call: any callWith of the frame's -/
theorem callWith_P {pos : Pos} {A : Around} {F s fv f args kws} {P E : Value → Shared → Prop} (hk : KeepD g f) (hp : args.all plainE = true) (hs : kws.all (·.arg.isSome) = true) (ok : Ok g n A) (G : GSt g μ F s.heap) (Fs : FSt env own ρ μ F s.heap)
    (sf : Sees F fv f) {Q : List D → List (Str × D) → Mu → Prop} (h : EvL g env own n ρ args μ fun ds μ₁ => EvK g env own n ρ kws μ₁ fun ks μ₂ => Q ds ks μ₂)
    (fin : ∀ vs kvs ds ks μ₂ F₂ s₂, Tr g [] μ μ₂ F F₂ s s₂ → GSt g μ₂ F₂ s₂.heap → FSt env own ρ μ₂ F₂ s₂.heap → Sees F₂ fv f → SeesAll F₂ vs ds → SeesAll F₂ (kvs.map (·.2)) (ks.map (·.2)) → kvs.map (·.1) = ks.map (·.1) → Q ds ks μ₂ →
      wpAny (model g.prog g.w) A (call fv vs kvs) P E s₂) :
    wpAny (model g.prog g.w) A (callWith pos fv [] (backTo pos (starEach args env)) (backToKw pos (keywordEach kws env))) P E s := by
  obtain ⟨k1, k2, k3⟩ := kws_some (pos := pos) env kws hs
  refine callWith_of (P := fun h => ∃ F', (∀ a o, g.base.get? a = some o → F' a = some o) ∧ (∀ a o, F' a = some o → h.get? a = some o) ∧ Sees F' fv f) (by rw [args_plain env args hp, k2]; rfl)
    ((by rintro h ⟨F', a, b, c⟩; exact hk _ F' fv h a b c)) ?_
  have fin : wpAny (model g.prog g.w) A (spliced (backTo pos (starEach args env))) (fun vs s₁ => wpAny (model g.prog g.w) A (evalAll ((backToKw pos (keywordEach kws env)).map (·.2)))
      (fun ks s₂ => (∃ F', (∀ a o, g.base.get? a = some o → F' a = some o) ∧ (∀ a o, F' a = some o → s₂.heap.get? a = some o) ∧ Sees F' fv f) ∧
        wpAny (model g.prog g.w) A (call fv ([] ++ vs) (((backToKw pos (keywordEach kws env)).filterMap (·.1)).zip ks)) P E s₂) E s₁) E s := by
    refine wpAny_mono (evl ok args h G Fs) ?_ fun _ _ x => x.elim
    rintro vs s₁ ⟨ds, μ₁, F₁, t₁, G₁, sds, h₁⟩
    refine wpAny_mono (evk ok kws h₁ G₁ (Fs.tr G t₁ G₁)) ?_ fun _ _ x => x.elim
    rintro ks s₂ ⟨kd, μ₂, F₂, t₂, G₂, sks, hn, h₂⟩
    have t := t₁.trans t₂
    refine ⟨⟨F₂, G₂.base, G₂.fz, sf.mono t.le⟩, ?_⟩
    rw [k3, hn]
    have hl : (kd.map (·.1)).length = ks.length := by have := sks.length; simp at this; simp [this]
    refine fin vs _ ds kd μ₂ F₂ s₂ t G₂ (Fs.tr G t G₂) (sf.mono t.le) (sds.mono t₂.le) ?_ ?_ h₂
    · rw [List.map_snd_zip (by lia)]; exact sks
    · rw [List.map_fst_zip (by lia)]
  cases args with
  | nil => exact evalArgs_kw2_nil k1 (by
      have : spliced (backTo pos (starEach [] env)) = (pure [] : Sem (List Value)) := rfl
      rw [this] at fin
      intro Γ p hΓ
      exact fin Γ p hΓ Γ p hΓ)
  | cons e r =>
    simp only [List.all_cons, Bool.and_eq_true] at hp
    exact evalArgs_kw2 k1 fin (plainE_star hp.1 r env)
theorem callWith_D {pos : Pos} {A : Around} {F s fv f args kws Q} (hk : KeepD g f) (hp : args.all plainE = true) (hs : kws.all (·.arg.isSome) = true) (ok : Ok g n A) (G : GSt g μ F s.heap) (Fs : FSt env own ρ μ F s.heap)
    (sf : Sees F fv f) (h : EvL g env own n ρ args μ fun ds μ₁ => EvK g env own n ρ kws μ₁ fun ks μ₂ => Calls g n f ds ks μ₂ Q) :
    wpAny (model g.prog g.w) A (callWith pos fv [] (backTo pos (starEach args env)) (backToKw pos (keywordEach kws env))) (EvPost g μ s F Q) (fun _ _ => False) s :=
  callWith_P hk hp hs ok G Fs sf h fun vs kvs ds ks μ₂ F₂ s₂ t G₂ Fs₂ sf₂ sds sks hn hc => post_weak t (hc A F₂ s₂ fv vs kvs ok G₂ sf₂ sds sks hn)

abbrev CK3 (g : G) (n : Nat) (f : D) (ds : List D) (Q : D → Mu → Prop) : List (Str × D) → Mu → Prop := fun ks μ₃ => Calls g n f ds ks μ₃ Q
abbrev CK2 (g : G) (env : Env) (own : List Addr) (n : Nat) (ρ : Str → Option D) (kws : List Keyword) (f : D) (Q : D → Mu → Prop) : List D → Mu → Prop := fun ds μ₂ => EvK g env own n ρ kws μ₂ (CK3 g n f ds Q)
abbrev CK1 (g : G) (env : Env) (own : List Addr) (n : Nat) (ρ : Str → Option D) (args : List Expr) (kws : List Keyword) (Q : D → Mu → Prop) : D → Mu → Prop := fun f μ₁ => KeepD g f ∧ EvL g env own n ρ args μ₁ (CK2 g env own n ρ kws f Q)
theorem Ev.call {func args kws pos Q} (h : Ev g env own n ρ μ func (CK1 g env own n ρ args kws Q))
    (he : eval (.Call func args kws pos) env = (do callWith pos (← eval func env) [] (backTo pos (starEach args env)) (backToKw pos (keywordEach kws env))) := by rfl)
    (hp : args.all plainE = true := by rfl) (hs : kws.all (·.arg.isSome) = true := by rfl) : Ev g env own n ρ μ (.Call func args kws pos) Q := fun A F s ok G Fs => by
  rw [he]
  exact wpAny_bind (wp_seq h ok G Fs fun fv f μ₁ F₁ s₁ t₁ G₁ Fs₁ sf h₁ => post_weak t₁ (callWith_D h₁.1 hp hs ok G₁ Fs₁ sf h₁.2))

/-! entering a def of the text -/
def ownOf (fd : FuncData) (L : Addr) : List Addr := L :: (cellsFrom (L + 1) fd.scope.names []).map (·.2)
def rho (bd : List (Str × D)) : Str → Option D := fun x => bd.lookup x

theorem rho_hit {x d l} : rho ((x, d) :: l) x = some d := by simp [rho, List.lookup_cons]
theorem rho_miss {x y d e l} (h : y ≠ x) (k : rho l y = some e) : rho ((x, d) :: l) y = some e := by
  unfold rho at *
  rw [List.lookup_cons, beq_eq_false_iff_ne.mpr h]; exact k

theorem bindL_get {k : Str → Option NameKind} : ∀ (binds : List (Str × Value)) (m : Str → Option Value) {x v}, (x, v) ∈ binds → (binds.map (·.1)).Nodup → k x = some .local → bindL k binds m x = some v := by
  have keepIt : ∀ (binds : List (Str × Value)) (m : Str → Option Value) {x}, x ∉ binds.map (·.1) → bindL k binds m x = m x := by
    intro binds
    induction binds with
    | nil => intro m x _; rfl
    | cons p r ih =>
      intro m x hx
      obtain ⟨y, v⟩ := p
      simp only [List.map_cons, List.mem_cons, not_or] at hx
      unfold bindL
      rw [ih _ hx.2]
      split <;> simp [hx.1]
  intro binds
  induction binds with
  | nil => intro m x v h; cases h
  | cons p r ih =>
    intro m x v h hn hk
    obtain ⟨y, u⟩ := p
    simp only [List.map_cons, List.nodup_cons] at hn
    unfold bindL
    cases h with
    | head => rw [keepIt _ _ hn.1]; simp [hk]
    | tail _ h => exact ih _ h hn.2 hk
theorem bindC_get {k : Str → Option NameKind} : ∀ (binds : List (Str × Value)) (m : Str → Option Value) {x v}, (x, v) ∈ binds → (binds.map (·.1)).Nodup → k x ≠ some .local → bindC k binds m x = some v := by
  have keepIt : ∀ (binds : List (Str × Value)) (m : Str → Option Value) {x}, x ∉ binds.map (·.1) → bindC k binds m x = m x := by
    intro binds
    induction binds with
    | nil => intro m x _; rfl
    | cons p r ih =>
      intro m x hx
      obtain ⟨y, v⟩ := p
      simp only [List.map_cons, List.mem_cons, not_or] at hx
      unfold bindC
      rw [ih _ hx.2]
      split <;> simp [hx.1]
  intro binds
  induction binds with
  | nil => intro m x v h; cases h
  | cons p r ih =>
    intro m x v h hn hk
    obtain ⟨y, u⟩ := p
    simp only [List.map_cons, List.nodup_cons] at hn
    unfold bindC
    cases h with
    | head => rw [keepIt _ _ hn.1]; simp [hk]
    | tail _ h => exact ih _ h hn.2 hk

/-- what binds say of data -/
inductive SeesB (F : FM) : List (Str × Value) → List (Str × D) → Prop
  | nil : SeesB F [] []
  | cons {x v d bs ds} : Sees F v d → SeesB F bs ds → SeesB F ((x, v) :: bs) ((x, d) :: ds)
theorem SeesB.names {F : FM} {bs ds} (h : SeesB F bs ds) : bs.map (·.1) = ds.map (·.1) := by
  induction h with
  | nil => rfl
  | cons _ _ i => exact congrArg (_ :: ·) i
theorem SeesB.get {F : FM} {bs ds} (h : SeesB F bs ds) {x d} (e : ds.lookup x = some d) : ∃ v, (x, v) ∈ bs ∧ Sees F v d := by
  induction h with
  | nil => cases e
  | @cons y _ _ _ _ sv _ i =>
    rw [List.lookup_cons] at e
    cases hy : x == y with
    | true => rw [hy] at e; cases e; rw [eq_of_beq hy]; exact ⟨_, .head _, sv⟩
    | false => rw [hy] at e; obtain ⟨v, h1, h2⟩ := i e; exact ⟨v, .tail _ h1, h2⟩

/-- how a call's arguments are bound, as data -/
def Binds (g : G) (fd : FuncData) (args : List D) (kws : List (Str × D)) (bd : List (Str × D)) : Prop :=
  ∀ (F : FM) (s : Shared) vs kvs, g.K.In s.heap → SeesAll F vs args → SeesAll F (kvs.map (·.2)) (kws.map (·.2)) → kvs.map (·.1) = kws.map (·.1) → ∃ bs, BindsTo s fd ⟨vs, kvs⟩ bs ∧ SeesB F bs bd

theorem kw_lookup_nodup {l : List (Str × Addr)} : l.Pairwise (fun x y => x.2 ≠ y.2) → (l.map (·.2)).Nodup := fun h => by
  induction l with
  | nil => simp
  | cons p l ih =>
    rw [List.pairwise_cons] at h
    simp only [List.map_cons, List.nodup_cons]
    exact ⟨fun q => by obtain ⟨r, hr, e⟩ := List.mem_map.mp q; exact h.1 r hr e.symm, ih h.2⟩

theorem Calls.enter {fa : Addr} {fo : Obj} {fd : FuncData} {body : List Stmt} {args kws bd Q} (hK : g.K.lookup fa = some fo) (hfo : fo.data = .func fd) (hbody : fd.body = .stmts body) (hclo : fd.closure = [])
    (hglob : fd.globals = mainGlobals) (hblt : fd.builtins = builtinsNs) (hcode : codeIn g.K fd.code fd.qualname = true) (hco : fd.scope.isCoroutine = false) (hgen : fd.scope.isGenerator = false) (hk : fd.scope.kind = .function)
    (hb : Binds g fd args kws bd) {nm : List Str} (hnm : bd.map (·.1) = nm)
    (hnames : (nm.all fun y => fd.scope.names.lookup y == some .local || fd.scope.names.lookup y == some .cell) = true) (hnd : nm.Nodup)
    (hcn : ((cellsFrom 0 fd.scope.names []).map (·.1)).Nodup)
    (h : ∀ env own L, env = callEnvC fd L fa → own = ownOf fd L → Ex (g.push env) env own n (rho bd) μ body fun f _ μ' => match f with
      | .ret d => Q d μ'
      | .next => Q .none μ'
      | _ => False) : Calls g (n + 1) (.val (.ref fa)) args kws μ Q := fun A F s fv vs kvs ok G sf sa sk hkn => by
  obtain rfl := Sees.valI sf
  subst hnm
  have hX : g.K.In s.heap := g.X.keeps G.keep
  obtain ⟨bs, hbs, sb⟩ := hb F s vs kvs hX sa sk hkn
  have hbn := sb.names
  refine wpAny_call (codeAny_call_function ok.room (hX _ _ hK) hfo hco hgen hbody (codeRec_of hX hcode) ?_)
  rw [hclo]
  have hlook : ∀ x v, (x, v) ∈ bs → fd.scope.names.lookup x = some .local ∨ fd.scope.names.lookup x = some .cell := fun x v hx => by
    have : x ∈ bd.map (·.1) := hbn ▸ List.mem_map.mpr ⟨_, hx, rfl⟩
    obtain ⟨y, hy, rfl⟩ := List.mem_map.mp this
    have := List.all_eq_true.mp hnames _ (List.mem_map_of_mem hy)
    rcases Bool.or_eq_true_iff.mp this with q | q
    · exact .inl (by simpa using q)
    · exact .inr (by simpa using q)
  refine hbs _ _ _ _ (wpAny_newFunctionEnv_cells hk (fun x hx => ?_) fun env' he s₁ x => ?_)
  · rcases hlook _ _ hx with q | q
    · exact .inl q
    · exact .inr ⟨q, cellsFrom_some _ _ _ (.inl q)⟩
  have hE : env' = callEnvC fd s.heap.objs.size fa := he
  subst hE
  refine ⟨(g.T.nolimit.keeps fun b o e => x.toInCall.keep b o (G.keep b o e)), codeAny_func ?_⟩
  obtain ⟨h₁, tk, rfl, _⟩ := x.done
  have kp := x.toInCall.keep
  have hG : GSt g μ F h₁ := G.ext kp
  have hsz : ∀ a o, s.heap.get? a = some o → a < s.heap.objs.size := fun a o e => Heap.lt_size e
  have hno : ∀ a ∈ ownOf fd s.heap.objs.size, s.heap.get? a = none := fun a ha => by
    cases hq : s.heap.get? a with
    | none => rfl
    | some o =>
      have hlt := hsz _ _ hq
      cases ha with
      | head => exact absurd hlt (Nat.lt_irrefl _)
      | tail _ ha =>
        obtain ⟨p, hp, rfl⟩ := List.mem_map.mp ha
        have := x.above p.1 p.2 hp
        exact absurd (Nat.lt_trans this hlt) (Nat.lt_irrefl _)
  have hnl : ∀ x c, (x, c) ∈ (callEnvC fd s.heap.objs.size fa).cells → (callEnvC fd s.heap.objs.size fa).cells.lookup x = some c := fun y c hm =>
    lookup_of_mem_nodup (cellsFrom_names fd.scope.names 0 (s.heap.objs.size + 1) [] [] rfl ▸ hcn) hm
  have hFs : FSt (callEnvC fd s.heap.objs.size fa) (ownOf fd s.heap.objs.size) (rho bd) μ F h₁ := by
    refine ⟨⟨hk, hglob, hblt, .head _, kw_lookup_nodup x.apart⟩, ⟨_, x.toInCall.ns⟩, fun y d e => ?_, fun p hp => ⟨_, x.cell _ _ (hnl p.1 p.2 hp)⟩, fun a ha => ?_, fun a ha => ?_, fun a ha q => ?_⟩
    · obtain ⟨v, hv, sv⟩ := sb.get e
      refine ⟨v, ?_, sv⟩
      rcases hlook _ _ hv with q | q
      · exact .inl ⟨q, _, x.toInCall.ns, bindL_get _ _ hv (hbn ▸ hnd) q⟩
      · have hs := cellsFrom_some (x := y) fd.scope.names (s.heap.objs.size + 1) [] (.inl q)
        obtain ⟨c, hc⟩ := Option.isSome_iff_exists.mp hs
        refine .inr ⟨.inl q, c, hc, ?_⟩
        have := x.cell y c hc
        rwa [bindC_get _ _ hv (hbn ▸ hnd) (by show fd.scope.names.lookup y ≠ _; rw [q]; decide)] at this
    · cases hq : F a with
      | none => rfl
      | some o => have := G.fz _ _ hq; rw [hno a ha] at this; cases this
    · cases ha with
      | head => obtain ⟨o, _, _, e, _⟩ := x.toInCall.ns; exact ⟨o, e⟩
      | tail _ ha => obtain ⟨p, hp, rfl⟩ := List.mem_map.mp ha; obtain ⟨o, e, _⟩ := x.cell _ _ (hnl p.1 p.2 hp); exact ⟨o, e⟩
    · obtain ⟨p, hp, rfl⟩ := List.mem_map.mp q
      obtain ⟨_, b⟩ := G.mu p hp
      obtain ⟨o, e1⟩ := b.live
      rw [hno _ ha] at e1; cases e1
  have hfr : FrL (callEnvC fd s.heap.objs.size fa) μ F h₁ := ⟨by show fd.scope.kind ≠ _; rw [hk]; decide, s.heap.objs.size, _, rfl, x.toInCall.ns, hFs.ownF _ (.head _), hFs.muo _ (.head _)⟩
  have t0 : Tr g (ownOf fd s.heap.objs.size) μ μ F F s { s with heap := h₁, toks := tk } := Tr.of_ext kp rfl rfl
  refine wpAny_mono (h _ _ _ rfl rfl _ F { s with heap := h₁, toks := tk } (Ok.deeper ok) (hG.push_frame hfr) hFs) ?_ fun _ _ x => x.elim
  rintro fl s₂ ⟨f, ρ', μ', F', t, G', Fs', sf, hq⟩
  have G' := G'.pop_frame
  have t1 : Tr g [] μ μ' F F' s s₂ := (t0.trans t.pop_frame).mtLe fun a ha => .inr (hno a ha)
  cases fl <;> cases f <;> first
    | exact sf.elim
    | exact hq.elim
    | exact ⟨_, μ', F', t1, G', sf, hq⟩
    | exact ⟨_, μ', F', t1, G', .none, hq⟩
end

open PySem PySem.W PySem.Calls PyProof.Rows
set_option maxRecDepth 20000
section
variable {g : G} {env : Env} {own : List Addr} {n : Nat} {ρ : Str → Option D} {μ : Mu}

theorem Act2.add {a b Q} (h : Q (.int (a + b)) μ) : Act2 g n μ (binaryOp .Add) (.int a) (.int b) Q := fun A F s va vb ok G sa sb => by
  obtain ⟨_, rfl⟩ := Sees.intI sa; obtain ⟨_, rfl⟩ := Sees.intI sb; exact add_int (EvPost.here G rfl rfl rfl (.int _ _) h)
theorem Act2.sub {a b Q} (h : Q (.int (a - b)) μ) : Act2 g n μ (binaryOp .Sub) (.int a) (.int b) Q := fun A F s va vb ok G sa sb => by
  obtain ⟨_, rfl⟩ := Sees.intI sa; obtain ⟨_, rfl⟩ := Sees.intI sb; exact sub_int (EvPost.here G rfl rfl rfl (.int _ _) h)
theorem Act2.floordiv {a b Q} (hb : b ≠ 0) (hsm : b.natAbs < 1073741824) (h : Q (.int (a.fdiv b)) μ) : Act2 g n μ (binaryOp .FloorDiv) (.int a) (.int b) Q := fun A F s va vb ok G sa sb => by
  obtain ⟨_, rfl⟩ := Sees.intI sa; obtain ⟨_, rfl⟩ := Sees.intI sb; exact floordiv_int hb (EvPost.here G rfl rfl rfl (.int _ _) h) (.inl (PyProof.noPylong_small hsm))
theorem Act2.mod {a b Q} (hb : b ≠ 0) (h : Q (.int (a.fmod b)) μ) : Act2 g n μ (binaryOp .Mod) (.int a) (.int b) Q := fun A F s va vb ok G sa sb => by
  obtain ⟨_, rfl⟩ := Sees.intI sa; obtain ⟨_, rfl⟩ := Sees.intI sb; exact mod_int' hb (EvPost.here G rfl rfl rfl (.int _ _) h)
theorem Act1.neg {a Q} (h : Q (.int (-a)) μ) : Act1 g n μ (unaryOp .USub) (.int a) Q := fun A F s va ok G sa => by
  obtain ⟨_, rfl⟩ := Sees.intI sa; exact neg_int (EvPost.here G rfl rfl rfl (.int _ _) h)
theorem Act2.lt {a b Q} (h : Q (.bool (decide (a < b))) μ) : Act2 g n μ (compareOp .Lt) (.int a) (.int b) Q := fun A F s va vb ok G sa sb => by
  obtain ⟨_, rfl⟩ := Sees.intI sa; obtain ⟨_, rfl⟩ := Sees.intI sb; exact lt_int (EvPost.here G rfl rfl rfl (.bool _) h)
theorem Act2.gt {a b Q} (h : Q (.bool (decide (b < a))) μ) : Act2 g n μ (compareOp .Gt) (.int a) (.int b) Q := fun A F s va vb ok G sa sb => by
  obtain ⟨_, rfl⟩ := Sees.intI sa; obtain ⟨_, rfl⟩ := Sees.intI sb; exact gt_int (EvPost.here G rfl rfl rfl (.bool _) h)
theorem Act2.eq {a b Q} (h : Q (.bool (a == b)) μ) : Act2 g n μ (compareOp .Eq) (.int a) (.int b) Q := fun A F s va vb ok G sa sb => by
  obtain ⟨_, rfl⟩ := Sees.intI sa; obtain ⟨_, rfl⟩ := Sees.intI sb; exact eq_int (EvPost.here G rfl rfl rfl (.bool _) h)
theorem Act2.ne {a b Q} (h : Q (.bool (a != b)) μ) : Act2 g n μ (compareOp .NotEq) (.int a) (.int b) Q := fun A F s va vb ok G sa sb => by
  obtain ⟨_, rfl⟩ := Sees.intI sa; obtain ⟨_, rfl⟩ := Sees.intI sb; exact ne_int (EvPost.here G rfl rfl rfl (.bool _) h)

/-- is it None? -/
def isNone : D → Option Bool
  | .none => some true
  | .bool _ => some false
  | .int _ => some false
  | .str _ => some false
  | .tup _ => some false
  | .lst _ => some false
  | .rng _ _ _ => some false
  | .slc _ _ _ => some false
  | .clo _ _ _ _ _ _ => some false
  | .val v => some (v == .none)
theorem isNone_sees {F v d b} (sv : Sees F v d) (h : isNone d = some b) : (v == Value.none) = b := by
  cases sv <;> simp [isNone] at h <;> first | exact h | (subst h; rfl)
theorem Act2.isnone {a b Q} (hb : isNone a = some b) (h : Q (.bool b) μ) : Act2 g n μ (compareOp .Is) a .none Q := fun A F s va vb ok G sa sb => by
  obtain rfl := Sees.noneI sb; exact is_none_gen (EvPost.here G rfl rfl rfl (by rw [isNone_sees sa hb]; exact .bool _) h)
theorem Act2.isnotnone {a b Q} (hb : isNone a = some b) (h : Q (.bool (!b)) μ) : Act2 g n μ (compareOp .IsNot) a .none Q := fun A F s va vb ok G sa sb => by
  obtain rfl := Sees.noneI sb; exact isnot_none_gen (EvPost.here G rfl rfl rfl (by rw [isNone_sees sa hb]; exact .bool _) h)

/-- a list, frozen or not -/
def Rd (μ : Mu) (d : D) (ds : List D) : Prop := d = .lst ds ∨ ∃ a, d = .val (.ref a) ∧ (a, MO.ml ds) ∈ μ
theorem Rd.lst {ds} : Rd μ (.lst ds) ds := .inl rfl
theorem Rd.at {F h v d ds} (G : GSt g μ F h) (sv : Sees F v d) (r : Rd μ d ds) : ∃ a vs k, v = .ref a ∧ h.get? a = some { cls := .type "list", dict := Option.none, data := .seq vs k, slots := #[] } ∧ SeesAll F vs.toList ds := by
  rcases r with rfl | ⟨a, rfl, hm⟩
  · obtain ⟨e, r⟩ := Sees.lstI sv; exact ⟨_, _, _, rfl, G.fz _ _ e, r⟩
  · obtain rfl := Sees.valI sv
    obtain ⟨_, o, e, vs, k, rfl, r⟩ := G.mu _ hm
    exact ⟨a, vs, k, rfl, e, r⟩
theorem Rd.isList {F h v d ds} (G : GSt g μ F h) (sv : Sees F v d) (r : Rd μ d ds) : ∃ a vs, v = .ref a ∧ h.IsList a vs ∧ SeesAll F vs.toList ds := by
  obtain ⟨a, vs, k, e, ho, sa⟩ := r.at G sv
  exact ⟨a, vs, e, ⟨_, ho, rfl, k, rfl⟩, sa⟩
theorem SeesAll.size {F vs ds} (h : SeesAll F (vs : Array Value).toList ds) : vs.size = ds.length := by rw [← h.length]; simp

/-- a place of a sequence, from the front or the back -/
def idx? (ds : List D) (k : Int) : Option D := if 0 ≤ k then ds[k.toNat]? else if -(ds.length : Int) ≤ k then ds[(ds.length + k).toNat]? else Option.none

theorem idx?_nat {ds : List D} {k : Nat} : idx? ds (k : Int) = ds[k]? := by
  unfold idx?; rw [if_pos (Int.natCast_nonneg k), Int.toNat_natCast]
set_option tactic.hygienic true in
theorem Act2.item {o k ds d value slice Q} (hr : Rd μ o ds) (hd : idx? ds k = some d) (hl : (ds.length : Int) < 2 ^ 62) (h : Q d μ) (hs : ∀ o i, subscripted slice false o i = operate [o, i] (getItem o i)) :
    Act2 g n μ (subscriptTail value slice) o (.int k) Q := fun A F s va vb ok G sa sb => by
  obtain ⟨_, rfl⟩ := Sees.intI sb
  obtain ⟨a, vs, rfl, hL, sds⟩ := hr.isList G sa
  have hsz := sds.size
  unfold idx? at hd
  split at hd
  · rename_i h0
    obtain ⟨v, hv, sv⟩ := sds.get hd
    have hlt : k.toNat < ds.length := by
      cases hq : ds[k.toNat]? with
      | none => rw [hq] at hd; cases hd
      | some x => exact (List.getElem?_eq_some_iff.mp hq).1
    exact tail_any hL.typeIs slot_list_getitem.lookup (wpAny_getItem_list hL h0 (by lia) (by simpa using hv) (EvPost.here G rfl rfl rfl sv h)) (hs _ _)
  · split at hd
    · rename_i h0 h1
      obtain ⟨v, hv, sv⟩ := sds.get hd
      refine tail_any hL.typeIs slot_list_getitem.lookup (wpAny_getItem_list_neg hL (by lia) (by rw [hsz]; lia) (by lia) ?_ (EvPost.here G rfl rfl rfl sv h)) (hs _ _)
      rw [hsz, Int.add_comm]; simpa using hv
    · cases hd
set_option tactic.hygienic true in
theorem Act2.itemT {k ds d value slice Q} (hd : idx? ds k = some d) (hl : (ds.length : Int) < 2 ^ 62) (h : Q d μ) (hs : ∀ o i, subscripted slice false o i = operate [o, i] (getItem o i)) :
    Act2 g n μ (subscriptTail value slice) (.tup ds) (.int k) Q := fun A F s va vb ok G sa sb => by
  obtain ⟨_, rfl⟩ := Sees.intI sb
  obtain @⟨a, vs, nn, e, sds⟩ := Sees.tupI sa
  have hT : IsTup s.heap a vs := ⟨_, G.fz _ _ e, rfl, _, rfl⟩
  have hsz := sds.size
  unfold idx? at hd
  split at hd
  · rename_i h0
    obtain ⟨v, hv, sv⟩ := sds.get hd
    have hlt : k.toNat < ds.length := by
      cases hq : ds[k.toNat]? with
      | none => rw [hq] at hd; cases hd
      | some x => exact (List.getElem?_eq_some_iff.mp hq).1
    refine tail_any hT.typeIs slot_tuple_getitem.lookup (getItem_tuple hT (by lia) (by lia) (j := k.toNat) ?_ (by simpa using hv) (EvPost.here G rfl rfl rfl sv h)) (hs _ _)
    rw [hsz]; unfold seqIndex?; simp; lia
  · split at hd
    · rename_i h0 h1
      obtain ⟨v, hv, sv⟩ := sds.get hd
      refine tail_any hT.typeIs slot_tuple_getitem.lookup (getItem_tuple hT (by lia) (by lia) (j := (ds.length + k).toNat) ?_ (by simpa using hv) (EvPost.here G rfl rfl rfl sv h)) (hs _ _)
      rw [hsz, Int.add_comm]; exact seqIndex_neg (by lia) (by lia)
    · cases hd

theorem Ev.sub {value slice pos Q} (h : Ev g env own n ρ μ value (K2 g env own n ρ slice (subscriptTail value slice) Q)) :
    Ev g env own n ρ μ (.Subscript value slice pos) Q := fun A F s ok G Fs =>
  Subscript_ (wp_seq h ok G Fs fun vo o μ₁ F₁ s₁ t₁ G₁ Fs₁ so h₁ => wp_seq h₁ ok G₁ Fs₁ fun vi i μ₂ F₂ s₂ t₂ G₂ Fs₂ si h₂ =>
    post_weak (t₁.trans t₂) (h₂ A F₂ s₂ vo vi ok G₂ (so.mono t₂.le) si))

/-- a call of a built-in, off its value rule -/
theorem Calls.of1 {f a : D} {Q} (h : ∀ A F s fv va, Ok g n A → GSt g μ F s.heap → Sees F fv f → Sees F va a → wpAny (model g.prog g.w) A (call fv [va]) (EvPost g μ s F Q) (fun _ _ => False) s) :
    Calls g n f [a] [] μ Q := fun A F s fv vs kvs ok G sf sa sk hk => by
  obtain ⟨_, _, rfl, sa', r⟩ := SeesAll.consI sa
  obtain rfl := SeesAll.nilI r
  cases kvs with
  | cons _ _ => cases hk
  | nil => exact h A F s fv _ ok G sf sa'
theorem Calls.of2 {f a b : D} {Q} (h : ∀ A F s fv va vb, Ok g n A → GSt g μ F s.heap → Sees F fv f → Sees F va a → Sees F vb b → wpAny (model g.prog g.w) A (call fv [va, vb]) (EvPost g μ s F Q) (fun _ _ => False) s) :
    Calls g n f [a, b] [] μ Q := fun A F s fv vs kvs ok G sf sa sk hk => by
  obtain ⟨_, _, rfl, sa', r⟩ := SeesAll.consI sa
  obtain ⟨_, _, rfl, sb, r⟩ := SeesAll.consI r
  obtain rfl := SeesAll.nilI r
  cases kvs with
  | cons _ _ => cases hk
  | nil => exact h A F s fv _ _ ok G sf sa' sb

theorem upd_same {ρ : Str → Option D} {x d} : upd ρ x d x = some d := by simp [upd]
theorem upd_ne {ρ : Str → Option D} {x y d e} (h : y ≠ x) (k : ρ y = some e) : upd ρ x d y = some e := by simp [upd, h, k]
theorem TBool.of {Q : Bool → Mu → Prop} {b : Bool} {μ} (h : Q b μ) : TBool Q (.bool b) μ := ⟨b, rfl, h⟩
theorem next_of {P R : Prop} (h : P) : (Fl.next = Fl.next → P) ∧ (Fl.next ≠ Fl.next → R) := ⟨fun _ => h, fun q => absurd rfl q⟩
theorem ret_of {P R : Prop} {d : D} (h : R) : (Fl.ret d = Fl.next → P) ∧ (Fl.ret d ≠ Fl.next → R) := ⟨fun q => by (cases q), fun _ => h⟩
theorem tt_of {P R : Prop} (h : P) : (true = true → P) ∧ (true = false → R) := ⟨fun _ => h, fun q => by (cases q)⟩
theorem ff_of {P R : Prop} (h : R) : (false = true → P) ∧ (false = false → R) := ⟨fun q => by (cases q), fun _ => h⟩
theorem dec_of {c : Prop} [Decidable c] {P R : Prop} (h : c → P) (k : ¬ c → R) : (decide c = true → P) ∧ (decide c = false → R) := ⟨fun q => h (of_decide_eq_true q), fun q => k (of_decide_eq_false q)⟩
theorem bindable_local {x : Str} (h : env.kindOf x = some .local) : Bindable env own x := .inl h
theorem Ex.seq {st rest Q} (R : (Str → Option D) → Mu → Prop) (h : Ex1 g env own n ρ μ st fun f ρ' μ' => f = .next ∧ R ρ' μ') (k : ∀ ρ' μ', R ρ' μ' → Ex g env own n ρ' μ' rest Q) : Ex g env own n ρ μ (st :: rest) Q := by
  refine Ex.cons fun A F s ok G Fs => wpAny_mono (h A F s ok G Fs) ((by rintro fl s' ⟨f, ρ', μ', F', t, G', Fs', sf, e, r⟩; exact ⟨f, ρ', μ', F', t, G', Fs', sf, fun _ => k _ _ r, fun q => absurd e q⟩)) fun _ _ x => x
theorem kind_of {fd : FuncData} {L a : Addr} {x : Str} {k : Option NameKind} (he : env = callEnvC fd L a) (e : fd.scope.names.lookup x = k) : env.kindOf x = k := by subst he; exact e
theorem ns_of {K : Frag} {x : Str} {r} (hK : g.K = K) (e : nsIn K mainGlobals x = r) : nsIn g.K mainGlobals x = r := by rw [hK]; exact e
theorem len_D {o ds Q} (hr : Rd μ o ds) (hl : (ds.length : Int) < 2 ^ 62) (h : Q (.int ds.length) μ) : Calls g n (.val (.builtin "len")) [o] [] μ Q := by
  refine Calls.of1 fun A F s fv va ok G sf sa => ?_
  obtain rfl := Sees.valI sf
  obtain ⟨a, vs, rfl, hL, sds⟩ := hr.isList G sa
  have hsz := sds.size
  exact call_len_list hL (by lia) (EvPost.here G rfl rfl rfl (by rw [hsz]; exact .int _ _) h)
end

open PySem PySem.W PySem.Calls PyProof.Rows
set_option maxRecDepth 20000
section
variable {g : G} {env : Env} {own : List Addr} {n : Nat} {ρ : Str → Option D} {μ : Mu}

/-- a new object, frozen at once -/
def put (F : FM) (a : Addr) (o : Obj) : FM := fun b => if b = a then some o else F b
theorem put_same {F : FM} {a o} : put F a o a = some o := by simp [put]
theorem put_ne {F : FM} {a b o} (h : b ≠ a) : put F a o b = F b := by simp [put, h]
theorem put_le {F : FM} {a o} (h : F a = none) : ∀ b x, F b = some x → put F a o b = some x := fun b x e => by
  by_cases hb : b = a
  · subst hb; rw [h] at e; cases e
  · rw [put_ne hb]; exact e
theorem GSt.none_size {F h} (G : GSt g μ F h) : F h.objs.size = none := by
  cases hq : F h.objs.size with
  | none => rfl
  | some o => exact absurd (Heap.lt_size (G.fz _ _ hq)) (Nat.lt_irrefl _)
theorem get_size {h : Heap} : h.get? h.objs.size = none := by
  cases hq : h.get? h.objs.size with
  | none => rfl
  | some o => exact absurd (Heap.lt_size hq) (Nat.lt_irrefl _)

theorem GSt.made {F h} (G : GSt g μ F h) (o : Obj) (hf : o.isFreed = false) : GSt g μ (put F h.objs.size o) (h.push o) := by
  have hle := put_le (o := o) G.none_size
  have hk : ∀ b x, h.get? b = some x → (h.push o).get? b = some x := fun b x e => Heap.get?_push_of_some _ e
  refine ⟨fun a x e => hle _ _ (G.base a x e), fun a x e => ?_, fun q hq => ?_, fun p hp => ?_, G.nd, fun c hc => (by obtain ⟨o, e⟩ := G.fzc c hc; exact ⟨o, hle _ _ e⟩), G.dj, fun x hx => ?_⟩
  rotate_right
  · obtain ⟨hk', L, m, hf, hns, hF', hm'⟩ := G.stk x hx
    refine ⟨hk', L, m, hf, ?_, ?_, hm'⟩
    · obtain ⟨o', es, ep, ho, r⟩ := hns; exact ⟨o', es, ep, hk _ _ ho, r⟩
    · obtain ⟨o', es, ep, ho, r⟩ := hns; rw [put_ne (Nat.ne_of_lt (Heap.lt_size ho))]; exact hF'
  · by_cases hb : a = h.objs.size
    · subst hb; rw [put_same] at e; cases e; exact Heap.get?_push_size _ hf
    · rw [put_ne hb] at e; exact hk _ _ (G.fz _ _ e)
  · obtain ⟨a, ps, b, c, d⟩ := G.tb q hq
    refine ⟨?_, ps, hk _ _ b, c, fun pos cv z => (d pos cv z).mono hle⟩
    rw [put_ne (Nat.ne_of_lt (Heap.lt_size b))]; exact a
  · obtain ⟨a, b⟩ := G.mu p hp
    obtain ⟨o, e⟩ := b.live
    refine ⟨?_, b.move hle (fun o => hk _ o)⟩
    rw [put_ne (Nat.ne_of_lt (Heap.lt_size e))]; exact a
theorem Tr.made {mt F s o h' tk} (G : GSt g μ F s.heap) (hh : h' = s.heap.push o) : Tr g mt μ μ F (put F s.heap.objs.size o) s { s with heap := h', toks := tk } := by
  subst hh
  refine ⟨fun b x e _ _ _ => ⟨x, Heap.get?_push_of_some _ e, .refl x⟩, fun b x e => ⟨x, Heap.get?_push_of_some _ e⟩, put_le G.none_size, fun a => ?_, fun _ h => .inl h, rfl, rfl⟩
  by_cases hb : a = s.heap.objs.size
  · subst hb; exact .inr (.inr (.inr get_size))
  · rw [put_ne hb]; cases hF : F a with
    | none => exact .inl rfl
    | some x => exact .inr (.inl (by simp))
theorem EvPost.made {s : Shared} {F : FM} {Q : D → Mu → Prop} {d : D} {o : Obj} {h' : Heap} {tk : Tok} (G : GSt g μ F s.heap) (hf : o.isFreed = false) (hh : h' = s.heap.push o) (hv : Sees (put F s.heap.objs.size o) (.ref s.heap.objs.size) d)
    (hQ : Q d μ) : EvPost g μ s F Q (.ref s.heap.objs.size) { s with heap := h', toks := tk } :=
  ⟨d, μ, _, Tr.made G hh, by rw [hh]; exact G.made o hf, hv, hQ⟩

abbrev listObj (vs : Array Value) : Obj := { cls := .type "list", data := .seq vs }
theorem EvPost.newlist {s : Shared} {F : FM} {Q : D → Mu → Prop} {vs : Array Value} {ds : List D} {h' : Heap} {tk : Tok} (G : GSt g μ F s.heap) (hh : h' = s.heap.push (listObj vs)) (sa : SeesAll F vs.toList ds) (hQ : Q (.lst ds) μ) :
    EvPost g μ s F Q (.ref s.heap.objs.size) { s with heap := h', toks := tk } :=
  EvPost.made G rfl hh (.lst put_same (sa.mono (put_le G.none_size))) hQ

/-- a new list that stays ours to change -/
theorem EvPost.newmut {s : Shared} {F : FM} {Q : D → Mu → Prop} {vs : Array Value} {ds : List D} {h' : Heap} {tk : Tok} (G : GSt g μ F s.heap) (hh : h' = s.heap.push (listObj vs)) (sa : SeesAll F vs.toList ds)
    (hQ : ∀ a, a ∉ μ.dom → Q (.val (.ref a)) ((a, .ml ds) :: μ)) :
    EvPost g μ s F Q (.ref s.heap.objs.size) { s with heap := h', toks := tk } := by
  subst hh
  have hk : ∀ b x, s.heap.get? b = some x → (s.heap.push (listObj vs)).get? b = some x := fun b x e => Heap.get?_push_of_some _ e
  have hnd : s.heap.objs.size ∉ μ.dom := fun q => by
    obtain ⟨p, hp, e⟩ := List.mem_map.mp q
    obtain ⟨_, b⟩ := G.mu p hp
    obtain ⟨o, e1⟩ := b.live
    rw [e, get_size] at e1; cases e1
  refine ⟨_, _, F, ⟨fun b x e _ _ _ => ⟨x, hk _ _ e, .refl x⟩, fun b x e => ⟨x, hk _ _ e⟩, fun _ _ e => e, (Tr.refl (g := g) (mt := []) (μ := μ) (s := s)).fr, fun a ha => ?_, rfl, rfl⟩, ?_, .val _, hQ _ hnd⟩
  · simp only [Mu.dom, List.map_cons, List.mem_cons] at ha
    rcases ha with rfl | ha
    · exact .inr get_size
    · exact .inl ha
  · have G' := G.ext hk
    refine ⟨G'.base, G'.fz, G'.tb, fun p hp => ?_, ?_, G'.fzc, fun a ha => ?_, fun x hx => ?_⟩
    rotate_right
    · obtain ⟨hk', L, m, hf, hns, hF', hm'⟩ := G.stk x hx
      refine ⟨hk', L, m, hf, ?_, hF', fun q => ?_⟩
      · obtain ⟨o', es, ep, ho, r⟩ := hns; exact ⟨o', es, ep, hk _ _ ho, r⟩
      · cases q with
        | head => obtain ⟨o', es, ep, ho, r⟩ := hns; rw [get_size] at ho; cases ho
        | tail _ q => exact hm' q
    · cases hp with
      | head => exact ⟨G.none_size, _, Heap.get?_push_size _ rfl, vs, 0, rfl, sa⟩
      | tail _ hp => exact G'.mu p hp
    · simp only [Mu.dom, List.map_cons, List.nodup_cons]
      exact ⟨hnd, G.nd⟩
    · simp only [Mu.dom, List.map_cons, List.mem_cons] at ha
      rcases ha with rfl | ha
      · intro q
        obtain ⟨p, hp, e⟩ := List.mem_map.mp q
        obtain ⟨_, ps, b, _⟩ := G.tb p hp
        rw [e, get_size] at b; cases b
      · exact G.dj a ha

abbrev ListK (Q : D → Mu → Prop) : List D → Mu → Prop := fun ds μ₁ => ds.length ≤ 1000 ∧ Q (.lst ds) μ₁
abbrev TupK (Q : D → Mu → Prop) : List D → Mu → Prop := fun ds μ₁ => ds.length ≤ 1000 ∧ Q (.tup ds) μ₁
abbrev PK (Q : Option Int → Mu → Prop) : D → Mu → Prop := fun d μ₁ => ∃ i, d = .int i ∧ Q (some i) μ₁
theorem Ev.list {es pos Q} (h : EvL g env own n ρ es μ (ListK Q)) : Ev g env own n ρ μ (.List es pos) Q := fun A F s ok G Fs =>
  wpAny_List (wpAny_mono (evl ok es h G Fs) ((by rintro vs s₁ ⟨ds, μ₁, F₁, t₁, G₁, sds, hz, hq⟩; exact ⟨by have := sds.length; simp [sizeLine]; lia, (EvPost.newlist (tk := s₁.toks) G₁ rfl (by simpa using sds) hq).trans t₁⟩)) fun _ _ x => x)
theorem Ev.listM {es pos Q} (h : EvL g env own n ρ es μ fun ds μ₁ => ds.length ≤ 1000 ∧ ∀ a, a ∉ μ₁.dom → Q (.val (.ref a)) ((a, .ml ds) :: μ₁)) : Ev g env own n ρ μ (.List es pos) Q := fun A F s ok G Fs =>
  wpAny_List (wpAny_mono (evl ok es h G Fs) ((by rintro vs s₁ ⟨ds, μ₁, F₁, t₁, G₁, sds, hz, hq⟩; exact ⟨by have := sds.length; simp [sizeLine]; lia, (EvPost.newmut (tk := s₁.toks) G₁ rfl (by simpa using sds) hq).trans t₁⟩)) fun _ _ x => x)
theorem Ev.tuple {es k pos Q} (h : EvL g env own n ρ es μ (TupK Q)) : Ev g env own n ρ μ (.Tuple es k pos) Q := fun A F s ok G Fs =>
  wpAny_Tuple (wpAny_mono (evl ok es h G Fs) (fun vs s₁ ⟨ds, μ₁, F₁, t₁, G₁, sds, hz, hq⟩ => ⟨by have := sds.length; simp [sizeLine]; lia, (EvPost.made (tk := s₁.toks) (d := .tup ds) G₁ rfl rfl
      (.tup put_same (by simpa using sds.mono (put_le G₁.none_size))) hq).trans t₁⟩) fun _ _ x => x)

theorem FM.fr (h₀ : Heap) : True := trivial

theorem Act2.cat {a b xs ys Q} (ra : Rd μ a xs) (rb : Rd μ b ys) (hz : xs.length + ys.length ≤ 100000) (h : Q (.lst (xs ++ ys)) μ) : Act2 g n μ (binaryOp .Add) a b Q := fun A F s va vb ok G sa sb => by
  obtain ⟨l, vs, k, rfl, ho, sxs⟩ := ra.at G sa
  obtain ⟨l2, ws, k2, rfl, ho2, sys⟩ := rb.at G sb
  have z1 := sxs.size; have z2 := sys.size
  refine concat_meets ⟨_, ho, rfl⟩ ⟨_, ho2, rfl⟩ noFill_list_add seq_list_add PySem.F.slot_list_add PySem.F.entry_list_add (PySem.F.args_list_add_2 _ _) (list_addW l l2 vs ws k k2 none none #[] #[] (by unfold sizeLine; lia)) ⟨ho, ho2, ?_⟩
  exact EvPost.newlist (tk := s.toks) G rfl (by simpa using sxs.append sys) h

theorem SeesAll.replicate {F vs ds} (h : SeesAll F vs ds) : ∀ k, SeesAll F (List.replicate k vs).flatten (List.replicate k ds).flatten
  | 0 => .nil
  | k + 1 => by simp only [List.replicate_succ, List.flatten_cons]; exact h.append (SeesAll.replicate h k)
theorem foldl_flat {α : Type} : ∀ (l : List (Array α)) (a : Array α), (l.foldl (fun x y => x ++ y) a).toList = a.toList ++ (l.map (·.toList)).flatten
  | [], a => by simp
  | x :: l, a => by rw [List.foldl_cons, foldl_flat l]; simp
set_option tactic.hygienic true in
theorem Act2.rep {a xs} {x : Int} {Q} (ra : Rd μ a xs) (h0 : 0 ≤ x) (hz : xs.length * x.toNat ≤ 100000) (hx : x < 2 ^ 62) (h : Q (.lst (List.replicate x.toNat xs).flatten) μ) : Act2 g n μ (binaryOp .Mult) a (.int x) Q := fun A F s va vb ok G sa sb => by
  obtain ⟨_, rfl⟩ := Sees.intI sb
  rename_i u
  obtain ⟨l, vs, k, rfl, hl, sxs⟩ := ra.at G sa
  have z1 := sxs.size
  have hz' : vs.size * x.toNat ≤ 100000 := by rw [z1]; exact hz
  refine wpAny_binaryOp_repeat_ref (T := "list") (U := "int") (by decide) ⟨_, hl, rfl⟩ (fun s' => typeIs_int s' x u) noFill_list_mul PySem.F.fills_int_mul PySem.F.slot_int_rmul repeat_list PySem.F.slot_int_index.lookup
    (call_meets PySem.F.slot_int_rmul (typeIs_int s x u) PySem.F.entry_int_rmul (PySem.F.args_int_rmul_2 _ _) (int___rmul___int_list x u l vs k)
      ⟨hl, rfl, ⟨_, hl, rfl⟩, call_meets PySem.F.slot_list_mul ⟨_, hl, rfl⟩ PySem.F.entry_list_mul (PySem.F.args_list_mul_2 _ _)
        (AutoListH.list___mul___list_int_3 l vs k x u (by simp [Builtin.List.listFitsIndex]; lia) (by lia) (by simp [Builtin.List.listTooLong, sizeLine]; lia))
        ⟨hl, EvPost.newlist (tk := s.toks) G rfl ?_ h⟩⟩)
  rw [foldl_flat]
  by_cases he : vs.isEmpty = true
  · have : xs = [] := by
      have : vs.size = 0 := by simpa using he
      exact List.eq_nil_of_length_eq_zero (by lia)
    subst this
    simp only [he, if_true, List.replicate_zero, List.map_nil, List.flatten_nil]
    simpa using SeesAll.nil
  · simp only [he]
    simpa using sxs.replicate x.toNat

/-! slices -/
def dpick (ds : List D) (lo hi st : Option Int) : List D :=
  (sliceRange (sliceBounds lo hi st ds.length).1 (sliceBounds lo hi st ds.length).2.1 (sliceBounds lo hi st ds.length).2.2).filterMap (ds[·]?)
theorem SeesAll.pickIdx {F vs ds} (h : SeesAll F vs ds) : ∀ is : List Nat, SeesAll F (is.filterMap (vs[·]?)) (is.filterMap (ds[·]?))
  | [] => .nil
  | i :: is => by
    cases hd : ds[i]? with
    | none =>
      have : vs[i]? = Option.none := by
        have := h.length
        rw [List.getElem?_eq_none_iff] at hd ⊢; lia
      simp only [List.filterMap_cons, hd, this]
      exact h.pickIdx is
    | some d =>
      obtain ⟨v, hv, sv⟩ := h.get hd
      simp only [List.filterMap_cons, hd, hv]
      exact .cons sv (h.pickIdx is)
theorem SeesAll.pick {F} {vs : Array Value} {ds} (h : SeesAll F vs.toList ds) (lo hi st) : SeesAll F (slicePick vs lo hi st).toList (dpick ds lo hi st) := by
  unfold slicePick dpick
  rw [h.size]
  simpa using h.pickIdx _
theorem Act2.slice {o ds lo hi st value slice Q} (hr : Rd μ o ds) (h0 : st ≠ some 0) (hz : ds.length ≤ 100000) (h : Q (.lst (dpick ds lo hi st)) μ)
    (hs : ∃ ops : Value → Value → List Value, ∀ o i, subscripted slice false o i = operate (ops o i) (getItem o i)) : Act2 g n μ (subscriptTail value slice) o (.slc lo hi st) Q := fun A F s va vb ok G sa sb => by
  obtain ⟨l, vs, k, rfl, hl, sds⟩ := hr.at G sa
  obtain ⟨ops, hs⟩ := hs
  have z := sds.size
  obtain @⟨_, _, _, _, e, p1, p2, p3⟩ := Sees.slcI sb
  have hL : s.heap.IsList l vs := ⟨_, hl, rfl, _, rfl⟩
  refine tail_any hL.typeIs slot_list_getitem.lookup (wpAny_getItem_list_slice hL ⟨_, G.fz _ _ e, rfl, rfl⟩ p1 p2 p3 h0 (EvPost.newlist (tk := s.toks) G rfl (sds.pick lo hi st) h) (by unfold sizeLine; lia)) (hs _ _)
theorem ops_step {l u s p} : ∃ ops : Value → Value → List Value, ∀ o i, subscripted (.Slice l u (some s) p) false o i = operate (ops o i) (getItem o i) := ⟨fun o i => [o, i], fun _ _ => rfl⟩
theorem ops_plain {l u p} : ∃ ops : Value → Value → List Value, ∀ o i, subscripted (.Slice l u Option.none p) false o i = operate (ops o i) (getItem o i) := ⟨fun o i => [i, o], fun _ _ => rfl⟩

/-- a part of a slice -/
def EvP (g : G) (env : Env) (own : List Addr) (n : Nat) (ρ : Str → Option D) (μ : Mu) : Option Expr → (Option Int → Mu → Prop) → Prop
  | Option.none, Q => Q Option.none μ
  | some e, Q => Ev g env own n ρ μ e (PK Q)
theorem evp {A : Around} (ok : Ok g n A) {e : Option Expr} {Q F s} (h : EvP g env own n ρ μ e Q) (G : GSt g μ F s.heap) (Fs : FSt env own ρ μ F s.heap) :
    wpAny (model g.prog g.w) A (evalPart e env) (fun v s' => ∃ k μ' F', Tr g [] μ μ' F F' s s' ∧ GSt g μ' F' s'.heap ∧ FSt env own ρ μ' F' s'.heap ∧ IsPart v k ∧ Q k μ') (fun _ _ => False) s := by
  cases e with
  | none => rw [evalPart_none]; exact wpAny_pure ⟨_, μ, F, .refl, G, Fs, .none, h⟩
  | some e =>
    rw [evalPart_some]
    refine wp_seq (show Ev g env own n ρ μ e _ from h) ok G Fs fun v d μ₁ F₁ s₁ t₁ G₁ Fs₁ sv hq => ?_
    obtain ⟨i, rfl, hq⟩ := hq
    obtain ⟨_, rfl⟩ := Sees.intI sv
    exact ⟨_, μ₁, F₁, t₁, G₁, Fs₁, .int _ _, hq⟩
abbrev SK3 (a b : Option Int) (Q : D → Mu → Prop) : Option Int → Mu → Prop := fun c μ₃ => Q (.slc a b c) μ₃
abbrev SK2 (g : G) (env : Env) (own : List Addr) (n : Nat) (ρ : Str → Option D) (st : Option Expr) (a : Option Int) (Q : D → Mu → Prop) : Option Int → Mu → Prop := fun b μ₂ => EvP g env own n ρ μ₂ st (SK3 a b Q)
abbrev SK1 (g : G) (env : Env) (own : List Addr) (n : Nat) (ρ : Str → Option D) (u st : Option Expr) (Q : D → Mu → Prop) : Option Int → Mu → Prop := fun a μ₁ => EvP g env own n ρ μ₁ u (SK2 g env own n ρ st a Q)
theorem Ev.slc {l u st p Q} (h : EvP g env own n ρ μ l (SK1 g env own n ρ u st Q)) : Ev g env own n ρ μ (.Slice l u st p) Q := fun A F s ok G Fs => by
  refine wpAny_Slice (wpAny_mono (evp ok h G Fs) ?_ fun _ _ x => x)
  rintro va s₁ ⟨a, μ₁, F₁, t₁, G₁, Fs₁, pa, h₁⟩
  refine wpAny_mono (evp ok h₁ G₁ Fs₁) ?_ fun _ _ x => x
  rintro vb s₂ ⟨b, μ₂, F₂, t₂, G₂, Fs₂, pb, h₂⟩
  refine wpAny_mono (evp ok h₂ G₂ Fs₂) ?_ fun _ _ x => x
  rintro vc s₃ ⟨c, μ₃, F₃, t₃, G₃, Fs₃, pc, h₃⟩
  exact (EvPost.made (tk := s₃.toks) G₃ rfl rfl (.slc put_same pa pb pc) h₃).trans ((t₁.trans t₂).trans t₃)

/-! equality -/
mutual
def toPy : D → Option PyData
  | .none => some .none
  | .bool b => some (.bool b)
  | .int i => some (.int i)
  | .str x => if PyData.strOk x then some (.str x) else Option.none
  | .tup ds => (toPys ds).map .tuple
  | .lst ds => (toPys ds).map .list
  | _ => Option.none
def toPys : List D → Option (List PyData)
  | [] => some []
  | d :: ds => match toPy d, toPys ds with
    | some p, some ps => some (p :: ps)
    | _, _ => Option.none
end
theorem Sees.reads {F : FM} {h : Heap} (k : ∀ a o, F a = some o → h.get? a = some o) {v d} (x : Sees F v d) : ∀ {p}, toPy d = some p → (∃ as, Reads h v p as) ∧ p.canLay0 = true := by
  refine Sees.rec (motive_1 := fun v d _ => ∀ {p}, toPy d = some p → (∃ as, Reads h v p as) ∧ p.canLay0 = true) (motive_2 := fun _ _ _ => True)
    (motive_3 := fun vs ds _ => ∀ {ps}, toPys ds = some ps → (∃ as, ReadsAll h vs ps as) ∧ PyData.canLayAll0 ps = true) (fun e => ?_) (fun b p e => ?_) (fun i t p e => ?_) (fun w t p e => ?_) (fun e0 _ ih p e => ?_) (fun e0 _ ih p e => ?_)
    (fun _ _ _ _ p e => nomatch (show (Option.none : Option PyData) = some p from e)) (fun _ p e => nomatch (show (Option.none : Option PyData) = some p from e)) (fun _ _ _ _ _ _ p e => nomatch (show (Option.none : Option PyData) = some p from e)) (fun _ p e => nomatch (show (Option.none : Option PyData) = some p from e))
    trivial (fun _ _ _ _ _ _ => trivial) (fun e => ?_) (fun {_ _ d ds} _ _ ix ir ps e => ?_) x
  · cases (show some PyData.none = some _ from e); exact ⟨⟨_, .none⟩, rfl⟩
  · cases (show some (PyData.bool b) = some _ from e); exact ⟨⟨_, .bool b⟩, rfl⟩
  · cases (show some (PyData.int i) = some _ from e); exact ⟨⟨_, .int i t⟩, rfl⟩
  · have e : (if PyData.strOk w then some (PyData.str w) else Option.none) = some p := e
    cases hw : PyData.strOk w with
    | true => rw [hw] at e; cases e; exact ⟨⟨_, .str w t⟩, hw⟩
    | false => rw [hw] at e; cases e
  · obtain ⟨ps, e1, rfl⟩ := Option.map_eq_some_iff.mp (show (toPys _).map PyData.tuple = some p from e)
    obtain ⟨⟨as, h1⟩, h2⟩ := ih e1
    exact ⟨⟨_, .tuple (k _ _ e0) rfl rfl h1⟩, h2⟩
  · obtain ⟨ps, e1, rfl⟩ := Option.map_eq_some_iff.mp (show (toPys _).map PyData.list = some p from e)
    obtain ⟨⟨as, h1⟩, h2⟩ := ih e1
    exact ⟨⟨_, .list (k _ _ e0) rfl rfl h1⟩, h2⟩
  · cases (show some [] = some _ from e); exact ⟨⟨_, .nil⟩, rfl⟩
  · rw [toPys] at e
    cases e1 : toPy d with
    | none => rw [e1] at e; cases e
    | some p =>
      cases e2 : toPys ds with
      | none => rw [e1, e2] at e; cases e
      | some qs =>
        rw [e1, e2] at e; cases e
        obtain ⟨⟨as, h1⟩, h2⟩ := ix e1
        obtain ⟨⟨bs, h3⟩, h4⟩ := ir e2
        exact ⟨⟨_, .cons h1 h3⟩, Bool.and_eq_true_iff.mpr ⟨h2, h4⟩⟩
theorem Act2.eqD {a b p q Q} (ha : toPy a = some p) (hb : toPy b = some q) (hd : p.depth ≤ 20) (h : Q (.bool (PyData.eqv p q)) μ) : Act2 g n μ (compareOp .Eq) a b Q := fun A F s va vb ok G sa sb => by
  obtain ⟨⟨as, ra⟩, la⟩ := sa.reads G.fz ha
  obtain ⟨⟨bs, rb⟩, lb⟩ := sb.reads G.fz hb
  have hu := ok.2.1
  exact SeqAt.compareEq_reads ra rb la lb (by unfold cLine; lia) (EvPost.here G rfl rfl rfl (.bool _) h)
theorem Act2.neD {a b p q Q} (ha : toPy a = some p) (hb : toPy b = some q) (hd : p.depth ≤ 20) (h : Q (.bool (!PyData.eqv p q)) μ) : Act2 g n μ (compareOp .NotEq) a b Q := fun A F s va vb ok G sa sb => by
  obtain ⟨⟨as, ra⟩, la⟩ := sa.reads G.fz ha
  obtain ⟨⟨bs, rb⟩, lb⟩ := sb.reads G.fz hb
  have hu := ok.2.1
  exact SeqAt.compareNe_reads ra rb la lb (by unfold cLine; lia) (EvPost.here G rfl rfl rfl (.bool _) h)
end

open PySem PySem.W PySem.Calls PyProof.Rows
set_option maxRecDepth 20000
section
variable {g : G} {env : Env} {own : List Addr} {n : Nat} {ρ : Str → Option D} {μ : Mu}

/-! targets -/
inductive AsgL (env : Env) (own : List Addr) (K : (Str → Option D) → Prop) : List Expr → List D → (Str → Option D) → Prop
  | nil {r : Str → Option D} : K r → AsgL env own K [] [] r
  | cons {x p es d ds} {r : Str → Option D} : Bindable env own x → AsgL env own K es ds (upd r x d) → AsgL env own K (.Name x p :: es) (d :: ds) r
inductive Asg (env : Env) (own : List Addr) (K : (Str → Option D) → Prop) : Expr → D → (Str → Option D) → Prop
  | name {x p d} {r : Str → Option D} : Bindable env own x → K (upd r x d) → Asg env own K (.Name x p) d r
  | tup {es k p ds} {r : Str → Option D} : AsgL env own K es ds r → Asg env own K (.Tuple es k p) (.tup ds) r

inductive APost (g : G) (env : Env) (own : List Addr) (μ : Mu) (s : Shared) (F : FM) (K : (Str → Option D) → Prop) (u : Unit) (s' : Shared) : Prop
  | mk (ρ' : Str → Option D) (t : Tr g own μ μ F F s s') (G : GSt g μ F s'.heap) (Fs : FSt env own ρ' μ F s'.heap) (k : K ρ')

theorem wp_assignName {A : Around} {x p d v K F s} (G : GSt g μ F s.heap) (Fs : FSt env own ρ μ F s.heap) (sv : Sees F v d) (hb : Bindable env own x) (h : K (upd ρ x d)) :
    wpAny (model g.prog g.w) A (assign (.Name x p) env v) (APost g env own μ s F K) (fun _ _ => False) s :=
  assign_Name (st_store G Fs sv hb fun s' t G' Fs' _ => ⟨_, t, G', Fs', h⟩)
theorem asgl_shape {K} {es : List Expr} {ds : List D} {ρ} (h : AsgL env own K es ds ρ) : (assignEach es env).length = ds.length ∧ (assignEach es env).findIdx? (·.1) = none := by
  induction h with
  | nil => exact ⟨rfl, rfl⟩
  | @cons x p es d ds ρ _ _ ih =>
    have e : assignEach (.Name x p :: es) env = (false, assign (.Name x p) env) :: assignEach es env := rfl
    rw [e]
    exact ⟨by simp [ih.1], by rw [List.findIdx?_cons]; simp [ih.2]⟩
theorem wp_asgl {A : Around} {K} {es : List Expr} {ds : List D} {ρ} (h : AsgL env own K es ds ρ) : ∀ {vs : List Value} {F s}, SeesAll F vs ds → GSt g μ F s.heap → FSt env own ρ μ F s.heap →
    wpAny (model g.prog g.w) A (assignInOrder ((assignEach es env).map (·.2)) vs) (APost g env own μ s F K) (fun _ _ => False) s := by
  induction h with
  | nil hk => intro vs F s sa G Fs; exact wpAny_pure ⟨_, .refl, G, Fs, hk⟩
  | @cons x p es d ds ρ hb _ ih =>
    intro vs F s sa G Fs
    obtain ⟨v, vs, rfl, sv, sds⟩ := SeesAll.consI sa
    show wpAny _ _ (do holding vs (assign (.Name x p) env v); assignInOrder ((assignEach es env).map (·.2)) vs) _ _ _
    refine wpAny_bind (wpAny_holding (wpAny_mono (wp_assignName (K := fun ρ' => ρ' = upd ρ x d) G Fs sv hb rfl) ?_ fun _ _ x => x))
    rintro _ s₁ ⟨ρ', t, G', Fs', e⟩
    subst e
    exact wpAny_mono (ih sds G' Fs') ((by rintro _ s₂ ⟨ρ₂, t₂, G₂, Fs₂, r⟩; exact ⟨ρ₂, t.trans t₂, G₂, Fs₂, r⟩)) fun _ _ x => x

/-- a fresh object that nothing keeps: gone again -/
theorem tr_fresh {mt F s h' tk} {a : Addr} (ha : a = s.heap.objs.size) (he : Heap.ExtBut a s.heap h') : Tr g mt μ μ F F s { s with heap := h', toks := tk } := by
  subst ha
  exact Tr.of_ext (fun b o e => he b o (Nat.ne_of_lt (Heap.lt_size e)) e) rfl rfl

theorem wp_asg {A : Around} (hh : A.handled = none) {t : Expr} {d v K F s} (h : Asg env own K t d ρ) (sv : Sees F v d) (G : GSt g μ F s.heap) (Fs : FSt env own ρ μ F s.heap) :
    wpAny (model g.prog g.w) A (assign t env v) (APost g env own μ s F K) (fun _ _ => False) s := by
  cases h with
  | name hb hk => exact wp_assignName G Fs sv hb hk
  | @tup es k p ds _ h =>
    obtain @⟨a, vs, nn, e0, sds⟩ := Sees.tupI sv
    obtain ⟨h1, h2⟩ := asgl_shape h
    have hT : s.heap.IsTuple a vs := ⟨_, G.fz _ _ e0, rfl, nn, rfl⟩
    refine wpAny_assign_Tuple hh hT (by rw [h1, sds.size]) h2 fun h' he => ?_
    have t0 : Tr g own μ μ F F s { s with heap := h' } := tr_fresh (tk := s.toks) rfl he
    have ke : ∀ b o, s.heap.get? b = some o → h'.get? b = some o := fun b o e => he b o (Nat.ne_of_lt (Heap.lt_size e)) e
    have t1 : Tr g [] μ μ F F s { s with heap := h' } := Tr.of_ext ke rfl rfl
    have G' : GSt g μ F h' := G.ext ke
    exact wpAny_mono (wp_asgl (s := { s with heap := h' }) h sds G' (Fs.tr G t1 G')) ((by rintro _ s₂ ⟨ρ₂, t₂, G₂, Fs₂, r⟩; exact ⟨ρ₂, t0.trans t₂, G₂, Fs₂, r⟩)) fun _ _ x => x

/-! iterators -/
def Moves (fp : List Addr) (s s' : Shared) : Prop :=
  (∀ b o, s.heap.get? b = some o → b ∉ fp → s'.heap.get? b = some o) ∧ s'.os = s.os ∧ s'.gens = s.gens
def Agree (fp : List Addr) (h h' : Heap) : Prop := ∀ b ∈ fp, ∀ o, h.get? b = some o → h'.get? b = some o

/-- one item handed out -/
inductive ItemP (fp : List Addr) (F' : FM) (s : Shared) (v : Value) (d : D) (R : FM → Heap → Prop) (s₂ : Shared) : Prop
  | mk (F'' : FM) (le : ∀ a o, F' a = some o → F'' a = some o) (fz : ∀ a o, F'' a = some o → s₂.heap.get? a = some o) (fr : ∀ a, F'' a = none ∨ F' a ≠ none ∨ s.heap.get? a = none) (sv : Sees F'' v d) (m : Moves fp s s₂)
      (lv : ∀ a ∈ fp, ∃ o, s₂.heap.get? a = some o ∧ ¬ IsNs o) (r : R F'' s₂.heap)
def Iter (g : G) (tgt : Expr) (it : Value) (fp : List Addr) : List D → FM → Heap → Prop
  | [], F, h => ∀ (A : Around) (s : Shared) (F' : FM), Ok g 4 A → Agree fp h s.heap → (∀ a o, F a = some o → F' a = some o) → (∀ a o, F' a = some o → s.heap.get? a = some o) → (∀ a ∈ fp, F' a = none) →
      wpAny (model g.prog g.w) A (pyNext it) (fun r s' => r = none ∧ Moves fp s s') (fun _ _ => False) s
  | d :: ds, F, h => ∀ (A : Around) (s : Shared) (F' : FM), Ok g 4 A → Agree fp h s.heap → (∀ a o, F a = some o → F' a = some o) → (∀ a o, F' a = some o → s.heap.get? a = some o) → (∀ a ∈ fp, F' a = none) →
      wpAny (model g.prog g.w) A (pyNext it) (fun r s₁ => ∃ v, r = some v ∧ wpAny (model g.prog g.w) A (letOwnedTupleGo tgt it v) (fun _ => ItemP fp F' s v d (Iter g tgt it fp ds)) (fun _ _ => False) s₁) (fun _ _ => False) s

structure Aside (g : G) (env : Env) (own : List Addr) (μ : Mu) (F : FM) (fp : List Addr) (h : Heap) : Prop where
  F : ∀ a ∈ fp, F a = none
  own : ∀ a ∈ fp, a ∉ own
  mu : ∀ a ∈ fp, a ∉ μ.dom
  tab : ∀ a ∈ fp, a ∉ g.tabDom
  live : ∀ a ∈ fp, ∃ o, h.get? a = some o ∧ ¬ IsNs o
  cells : ∀ a ∈ fp, ∀ p ∈ env.cells, p.2 ≠ a

theorem Aside.tr {fp μ' F F' s s'} (x : Aside g env own μ F fp s.heap) (t : Tr g own μ μ' F F' s s') : Aside g env own μ' F' fp s'.heap ∧ Agree fp s.heap s'.heap := by
  refine ⟨⟨fun a ha => ?_, x.own, fun a ha q => ?_, x.tab, fun a ha => ?_, ?_⟩, fun b hb o e => t.at (by obtain ⟨o', e', h⟩ := x.live b hb; rw [e] at e'; cases e'; exact h) e (x.own b hb) (x.mu b hb) (x.tab b hb)⟩
  · rcases t.fr a with k | k | k | k
    · exact k
    · exact absurd (x.F a ha) k
    · exact absurd k (x.mu a ha)
    · obtain ⟨o, e, _⟩ := x.live a ha; rw [k] at e; cases e
  · rcases t.mu a q with k | k
    · exact x.mu a ha k
    · obtain ⟨o, e, _⟩ := x.live a ha; rw [k] at e; cases e
  · obtain ⟨o, e, h⟩ := x.live a ha; exact ⟨o, t.at h e (x.own a ha) (x.mu a ha) (x.tab a ha), h⟩
  · exact x.cells

/-- a turn of an iterator leaves all else -/
theorem iter_keep {fp F F'' s s₂} (G : GSt g μ F s.heap) (Fs : FSt env own ρ μ F s.heap) (As : Aside g env own μ F fp s.heap) (m : Moves fp s s₂) (hle : ∀ a o, F a = some o → F'' a = some o)
    (hfz : ∀ a o, F'' a = some o → s₂.heap.get? a = some o) (hfr : ∀ a, F'' a = none ∨ F a ≠ none ∨ s.heap.get? a = none) :
    GSt g μ F'' s₂.heap ∧ FSt env own ρ μ F'' s₂.heap ∧ ((∀ a ∈ fp, ∃ o, s₂.heap.get? a = some o ∧ ¬ IsNs o) → Aside g env own μ F'' fp s₂.heap) ∧ ∀ mt s₀ μ₀ F₀, (∀ a ∈ fp, s₀.heap.get? a = none) → Tr g mt μ₀ μ F₀ F s₀ s → Tr g mt μ₀ μ F₀ F'' s₀ s₂ := by
  have hno : ∀ a, (∃ o, s.heap.get? a = some o) → F a = none → F'' a = none := fun a ⟨o, e⟩ h => by
    rcases hfr a with k | k | k
    · exact k
    · exact absurd h k
    · rw [k] at e; cases e
  have G₂ : GSt g μ F'' s₂.heap := by
    refine ⟨fun a o e => hle _ _ (G.base a o e), hfz, fun q hq => ?_, fun p hp => ?_, G.nd, fun c hc => (by obtain ⟨o, e⟩ := G.fzc c hc; exact ⟨o, hle _ _ e⟩), G.dj, fun x hx => ?_⟩
    rotate_right
    · obtain ⟨hk', L, mm, hf, hn, hF', hm'⟩ := G.stk x hx
      obtain ⟨o', es, ep, ho, hd, r⟩ := hn
      exact ⟨hk', L, mm, hf, ⟨o', es, ep, m.1 _ _ ho (fun z => by obtain ⟨o2, e2, k2⟩ := As.live _ z; rw [ho] at e2; cases e2; exact k2 ⟨es, ep, hd⟩), hd, r⟩, hno _ ⟨_, ho⟩ hF', hm'⟩
    · obtain ⟨a, ps, b, c, d⟩ := G.tb q hq
      refine ⟨hno _ ⟨_, b⟩ a, ps, m.1 _ _ b (fun z => As.tab _ z (List.mem_map_of_mem hq)), c, fun pos cv z => (d pos cv z).mono hle⟩
    · obtain ⟨a, b⟩ := G.mu p hp
      exact ⟨hno _ b.live a, b.move hle fun o e => m.1 _ _ e (fun z => As.mu _ z (List.mem_map_of_mem hp))⟩
  have hkeep : ∀ a, (∀ x ∈ fp, x ≠ a) → ∀ o, s.heap.get? a = some o → s₂.heap.get? a = some o := fun a h o e => m.1 a o e fun q => h a q rfl
  refine ⟨G₂, ?_, fun lv => ⟨fun a ha => hno a ((by obtain ⟨o, e, _⟩ := As.live a ha; exact ⟨o, e⟩)) (As.F a ha), As.own, As.mu, As.tab, lv, As.cells⟩, fun mt s₀ μ₀ F₀ hs t => ?_⟩
  · have hl : ∀ o, s.heap.get? env.locals = some o → s₂.heap.get? env.locals = some o := hkeep _ fun x hx e => As.own x hx (e ▸ Fs.ok.lown)
    have hc : ∀ p ∈ env.cells, ∀ o, s.heap.get? p.2 = some o → s₂.heap.get? p.2 = some o := fun p hp o e => m.1 _ _ e fun q => As.cells _ q p hp rfl
    refine ⟨Fs.ok, ?_, fun x d e => ?_, fun p hp => ?_, fun a ha => hno a (Fs.live a ha) (Fs.ownF a ha), fun a ha => (by obtain ⟨o, e⟩ := Fs.live a ha; exact ⟨o, hkeep a (fun x hx e => As.own x hx (e ▸ ha)) o e⟩), Fs.muo⟩
    · obtain ⟨mm, o, es, ep, e, r⟩ := Fs.ns
      exact ⟨mm, o, es, ep, hl o e, r⟩
    · obtain ⟨v, hv, hs⟩ := Fs.vars x d e
      exact ⟨v, hv.keeps hl hc, hs.mono hle⟩
    · obtain ⟨v, o, e, d⟩ := Fs.cells p hp
      exact ⟨v, o, hc p hp o e, d⟩
  · have nf : ∀ b o, s₀.heap.get? b = some o → b ∉ fp := fun b o e q => by rw [hs b q] at e; cases e
    refine ⟨fun b o e h1 h2 h3 => (by obtain ⟨o', e', u⟩ := t.ext b o e h1 h2 h3; exact ⟨o', m.1 _ _ e' (nf b o e), u⟩), fun b o e => (by obtain ⟨o', e'⟩ := t.live b o e; exact ⟨o', m.1 b o' e' (nf b o e)⟩), fun a o e => hle _ _ (t.le a o e), fun a => ?_, t.mu, m.2.1.trans t.os, m.2.2.trans t.gens⟩
    cases he : s₀.heap.get? a with
    | none => exact .inr (.inr (.inr rfl))
    | some o =>
      obtain ⟨o', e'⟩ := t.live a o he
      rcases hfr a with k | k | k
      · exact .inl k
      · rcases t.fr a with q | q | q | q
        · exact absurd q k
        · exact .inr (.inl q)
        · exact .inr (.inr (.inl q))
        · rw [he] at q; cases q
      · rw [k] at e'; cases e'

/-- turns of a for, one by one -/
def ForL (g : G) (env : Env) (own : List Addr) (n : Nat) (tgt : Expr) (body : List Stmt) : List D → (Str → Option D) → Mu → (Fl → (Str → Option D) → Mu → Prop) → Prop
  | [], ρ, μ, Q => Q .next ρ μ
  | d :: ds, ρ, μ, Q => Asg env own (fun ρ₁ => Ex g env own n ρ₁ μ body fun f ρ₂ μ₂ => match f with
      | .next => ForL g env own n tgt body ds ρ₂ μ₂ Q
      | .cont => ForL g env own n tgt body ds ρ₂ μ₂ Q
      | .brk => Q .next ρ₂ μ₂
      | .ret d => Q (.ret d) ρ₂ μ₂) tgt d ρ

inductive EvIP (g : G) (env : Env) (own : List Addr) (n : Nat) (μ : Mu) (tgt : Expr) (s : Shared) (F : FM) (Q : List D → Mu → Prop) (it : Value) (s₂ : Shared) : Prop
  | mk (ds : List D) (μ' : Mu) (F' : FM) (fp : List Addr) (t : Tr g [] μ μ' F F' s s₂) (G : GSt g μ' F' s₂.heap) (As : Aside g env own μ' F' fp s₂.heap) (hfp : ∀ a ∈ fp, s.heap.get? a = none) (It : Iter g tgt it fp ds F' s₂.heap)
      (self : ∀ A' s', Ok g 4 A' → Agree fp s₂.heap s'.heap → (∀ a o, F' a = some o → s'.heap.get? a = some o) → wpAny (model g.prog g.w) A' (pyIter it) (fun it' s'' => it' = it ∧ s''.heap = s'.heap ∧ s''.os = s'.os ∧ s''.gens = s'.gens) (fun _ _ => False) s')
      (q : Q ds μ')
/-- the head of a for: what is iterated -/
def EvI (g : G) (env : Env) (own : List Addr) (n : Nat) (ρ : Str → Option D) (μ : Mu) (tgt e : Expr) (Q : List D → Mu → Prop) : Prop :=
  ∀ A F s, Ok g n A → GSt g μ F s.heap → FSt env own ρ μ F s.heap →
    wpAny (model g.prog g.w) A (eval e env) (fun x s₁ => wpAny (model g.prog g.w) A (pyIter x) (EvIP g env own n μ tgt s F Q) (fun _ _ => False) s₁) (fun _ _ => False) s

inductive ForI (g : G) (env : Env) (own : List Addr) (n : Nat) (tgt : Expr) (body : List Stmt) (it : Value) (fp : List Addr) (μ : Mu) (s : Shared) (F : FM) (Q : Fl → (Str → Option D) → Mu → Prop) (k : Nat) (s' : Shared) : Prop
  | mk (ds : List D) (ρ' : Str → Option D) (μ' : Mu) (F' : FM) (hk : ds.length = k) (t : Tr g own μ μ' F F' s s') (G : GSt g μ' F' s'.heap) (Fs : FSt env own ρ' μ' F' s'.heap) (As : Aside g env own μ' F' fp s'.heap) (It : Iter g tgt it fp ds F' s'.heap)
      (h : ForL g env own n tgt body ds ρ' μ' Q)
theorem Iter.move0 {tgt it fp F F' h h'} : ∀ {ds}, Iter g tgt it fp ds F h → Agree fp h h' → (∀ a o, F a = some o → F' a = some o) → Iter g tgt it fp ds F' h'
  | [], I, ag, le => fun A' s' F'' ok' ag' le' => I A' s' F'' ok' (fun b hb o e => ag' b hb o (ag b hb o e)) (fun a o e => le' a o (le a o e))
  | _ :: _, I, ag, le => fun A' s' F'' ok' ag' le' => I A' s' F'' ok' (fun b hb o e => ag' b hb o (ag b hb o e)) (fun a o e => le' a o (le a o e))
theorem fr_same0 {F : FM} {h : Heap} (a : Addr) : F a = none ∨ F a ≠ none ∨ h.get? a = none := by
  cases F a with
  | none => exact .inl rfl
  | some o => exact .inr (.inl (fun z => nomatch z))
theorem Ex1.for {tgt iter body pos Q} (hn : 4 ≤ n) (h : EvI g env own n ρ μ tgt iter fun ds μ₁ => ForL g env own n tgt body ds ρ μ₁ Q) (hs : ∀ x, foldedSetIterable iter env x = pure x := by intro _; rfl) :
    Ex1 g env own n ρ μ (.For tgt iter body [] pos) Q := fun A F s ok G Fs => by
  refine wpAny_For (hs := hs) (wpAny_mono (h A F s ok G Fs) (fun x s₁ h₁ => wpAny_mono h₁ ?_ fun _ _ x => x.elim) fun _ _ x => x.elim)
  rintro it s₂ ⟨ds, μ₁, F₁, fp, t₁, G₁, As₁, hfp, It, _, hL⟩
  refine codeAny_forLoop_any (ForI g env own n tgt body it fp μ s F Q) ?_ ds.length ⟨ds, ρ, μ₁, F₁, rfl, t₁.toOwn, G₁, Fs.tr G t₁ G₁, As₁, It, hL⟩
  clear h hL It As₁ G₁ t₁
  rintro k s₃ ⟨ds₃, ρ₃, μ₃, F₃, hk, t₃, G₃, Fs₃, As₃, It₃, hL₃⟩
  cases ds₃ with
  | nil =>
    refine wpAny_mono (It₃ A s₃ F₃ (ok.le hn) (fun _ _ _ e => e) (fun _ _ e => e) G₃.fz As₃.F) ?_ fun _ _ x => x.elim
    rintro r s₄ ⟨hr, m⟩
    subst hr
    obtain ⟨G₄, Fs₄, _, tr⟩ := iter_keep G₃ Fs₃ As₃ m (fun _ _ e => e) (fun a o e => m.1 a o (G₃.fz a o e) fun q => by rw [As₃.F a q] at e; cases e) fr_same0
    exact wpAny_execs_nil ⟨.next, ρ₃, μ₃, F₃, tr own s μ F hfp t₃, G₄, Fs₄, trivial, hL₃⟩
  | cons d ds₃ =>
    refine wpAny_mono (It₃ A s₃ F₃ (ok.le hn) (fun _ _ _ e => e) (fun _ _ e => e) G₃.fz As₃.F) ?_ fun _ _ x => x.elim
    rintro r s₄ ⟨v, hr, h₄⟩
    subst hr
    refine wpAny_mono h₄ ?_ fun _ _ x => x.elim
    rintro _ s₅ ⟨F₅, hle, hfz, hfr, sv, m, lv, It₅⟩
    obtain ⟨G₅, Fs₅, As₅, tr⟩ := iter_keep G₃ Fs₃ As₃ m hle hfz hfr
    refine wpAny_mono (wp_asg ok.hand hL₃ sv G₅ Fs₅) ?_ fun _ _ x => x.elim
    rintro _ s₆ ⟨ρ₆, t₆, G₆, Fs₆, h₆⟩
    obtain ⟨As₆, ag₆⟩ := (As₅ lv).tr t₆
    refine wpAny_mono (h₆ A F₅ s₆ ok G₆ Fs₆) ?_ fun _ _ x => x.elim
    rintro fl s₇ ⟨f, ρ₇, μ₇, F₇, t₇, G₇, Fs₇, sf, h₇⟩
    obtain ⟨As₇, ag₇⟩ := As₆.tr t₇
    have T := ((tr own s μ F hfp t₃).trans t₆).trans t₇
    have again : ForL g env own n tgt body ds₃ ρ₇ μ₇ Q → ∃ m, m < k ∧ ForI g env own n tgt body it fp μ s F Q m s₇ := fun h =>
      ⟨ds₃.length, hk ▸ Nat.lt_succ_self _, ds₃, ρ₇, μ₇, F₇, rfl, T, G₇, Fs₇, As₇, It₅.move0 (fun b hb o e => ag₇ b hb o (ag₆ b hb o e)) t₇.le, h⟩
    cases fl <;> cases f <;> first
      | exact sf.elim
      | exact again h₇
      | exact ⟨_, ρ₇, μ₇, F₇, T, G₇, Fs₇, sf, h₇⟩
      | exact ⟨.next, ρ₇, μ₇, F₇, T, G₇, Fs₇, trivial, h₇⟩
end

open PySem PySem.W PySem.Calls PyProof.Rows
set_option maxRecDepth 20000
section
variable {g : G} {env : Env} {own : List Addr} {n : Nat} {ρ : Str → Option D} {μ : Mu}

set_option tactic.hygienic true in
theorem let_plain {M : Model} {A : Around} {E : Value → Shared → Prop} {s : Shared} {tgt : Expr} {it : Addr} {v : Value} {o : Obj} {T : String} {Q : Unit → Shared → Prop} (ho : s.heap.get? it = some o) (hc : o.cls = .type T)
    (hT : ["enumerate", "zip", "dict_itemiterator", "dict_reverseitemiterator", "odict_iterator", "itertools.zip_longest", "itertools.pairwise"].contains T = false) (h : Q () s) :
    wpAny M A (letOwnedTupleGo tgt (.ref it) v) Q E s := by
  unfold letOwnedTupleGo
  have body : wpAny M A (do
      let (.ref r, .ref a) := (Value.ref it, v) | return
      let o ← load r
      match o.cls, o.data with
      | .type n, .fields vs =>
        if ["enumerate", "zip", "dict_itemiterator", "dict_reverseitemiterator", "odict_iterator", "itertools.zip_longest", "itertools.pairwise"].contains n && vs[0]? == some (rawInt a) then
          rule "for.unpacks-the-owned-tuple"
          updateField r 0 .none
      | _, _ => pure ()) Q E s := by
    split
    · rename_i r a q
      cases q
      refine wpAny_bind (wpAny_load ho ?_)
      rw [hc]
      split
      · rename_i q1 q2
        cases q1
        rw [hT]
        exact wpAny_pure h
      · exact wpAny_pure h
    · exact wpAny_pure h
  split
  · exact body
  · exact body
  · exact wpAny_pure h

theorem drop_cons {α : Type} {l : List α} {i : Nat} {d : α} {r : List α} (h : l.drop i = d :: r) : l[i]? = some d ∧ l.drop (i + 1) = r := by
  refine ⟨?_, ?_⟩
  · rw [← List.head?_drop, h]; rfl
  · rw [← List.tail_drop, h]; rfl

theorem fr_same {F' : FM} {s : Shared} : ∀ a, F' a = none ∨ F' a ≠ none ∨ s.heap.get? a = none := fun a => by
  cases hq : F' a with
  | none => exact .inl rfl
  | some o => exact .inr (.inl (by simp))

theorem Iter.list {tgt : Expr} {it l : Addr} {vs : Array Value} {k : Nat} {all : List D} : ∀ {ds : List D} {i : Nat} {F : FM} {h : Heap}, F l = some { cls := .type "list", dict := Option.none, data := .seq vs k, slots := #[] } →
    SeesAll F vs.toList all → h.IsListIter it l i → all.drop i = ds → Iter g tgt (.ref it) [it] ds F h
  | [], i, F, h, hF, sa, hit, hd => fun A s F' ok ag le fz nf => by
    have hit' : s.heap.IsListIter it l i := by obtain ⟨o, e, r⟩ := hit; exact ⟨o, ag it (.head _) o e, r⟩
    have hL : s.heap.IsList l vs := ⟨_, fz _ _ (le _ _ hF), rfl, _, rfl⟩
    have hx : vs[i]? = none := by
      have := List.drop_eq_nil_iff.mp hd
      have z := sa.size
      rw [Array.getElem?_eq_none_iff]; lia
    exact wpAny_pyNext_list_end ok.hand hit' hL hx fun h' he => ⟨rfl, fun b o e hb => he b o (by simpa using hb) e, rfl, rfl⟩
  | d :: ds, i, F, h, hF, sa, hit, hd => fun A s F' ok ag le fz nf => by
    have hit' : s.heap.IsListIter it l i := by obtain ⟨o, e, r⟩ := hit; exact ⟨o, ag it (.head _) o e, r⟩
    have hFl := le _ _ hF
    have hL : s.heap.IsList l vs := ⟨_, fz _ _ hFl, rfl, _, rfl⟩
    obtain ⟨h1, h2⟩ := drop_cons hd
    obtain ⟨v, hv, sv⟩ := sa.get h1
    refine wpAny_pyNext_list_item hit' hL (by simpa using hv) fun h' hn sb => ⟨v, rfl, ?_⟩
    obtain ⟨o', e', c', d'⟩ := id hn
    refine let_plain e' c' (by decide) ⟨F', fun _ _ e => e, fun a o e => (sb.2 a fun z => ?_).trans (fz a o e), fr_same, sv.mono le, ⟨fun b o e hb => (sb.2 b (by simpa using hb)).trans e, rfl, rfl⟩, fun a ha => ?_, ?_⟩
    · rw [z, nf it (.head _)] at e; cases e
    · rw [List.mem_singleton.mp ha]; exact ⟨o', e', nns d'⟩
    · exact Iter.list hFl (sa.mono le) hn h2

theorem Iter.tuple {tgt : Expr} {it l : Addr} {vs : Array Value} {k : Nat} {all : List D} : ∀ {ds : List D} {i : Nat} {F : FM} {h : Heap}, F l = some { cls := .type "tuple", dict := Option.none, data := .seq vs k, slots := #[] } →
    SeesAll F vs.toList all → h.IsTupleIter it l i → all.drop i = ds → Iter g tgt (.ref it) [it] ds F h
  | [], i, F, h, hF, sa, hit, hd => fun A s F' ok ag le fz nf => by
    have hit' : s.heap.IsTupleIter it l i := by obtain ⟨o, e, r⟩ := hit; exact ⟨o, ag it (.head _) o e, r⟩
    have hL : s.heap.IsTuple l vs := ⟨_, fz _ _ (le _ _ hF), rfl, _, rfl⟩
    have hx : vs[i]? = none := by
      have := List.drop_eq_nil_iff.mp hd
      have z := sa.size
      rw [Array.getElem?_eq_none_iff]; lia
    exact wpAny_pyNext_tuple_end ok.hand hit' hL hx fun h' he => ⟨rfl, fun b o e hb => he b o (by simpa using hb) e, rfl, rfl⟩
  | d :: ds, i, F, h, hF, sa, hit, hd => fun A s F' ok ag le fz nf => by
    have hit' : s.heap.IsTupleIter it l i := by obtain ⟨o, e, r⟩ := hit; exact ⟨o, ag it (.head _) o e, r⟩
    have hFl := le _ _ hF
    have hL : s.heap.IsTuple l vs := ⟨_, fz _ _ hFl, rfl, _, rfl⟩
    obtain ⟨h1, h2⟩ := drop_cons hd
    obtain ⟨v, hv, sv⟩ := sa.get h1
    refine wpAny_pyNext_tuple_item hit' hL (by simpa using hv) fun h' hn sb => ⟨v, rfl, ?_⟩
    obtain ⟨o', e', c', d'⟩ := id hn
    refine let_plain e' c' (by decide) ⟨F', fun _ _ e => e, fun a o e => (sb.2 a fun z => ?_).trans (fz a o e), fr_same, sv.mono le, ⟨fun b o e hb => (sb.2 b (by simpa using hb)).trans e, rfl, rfl⟩, fun a ha => ?_, ?_⟩
    · rw [z, nf it (.head _)] at e; cases e
    · rw [List.mem_singleton.mp ha]; exact ⟨o', e', nns d'⟩
    · exact Iter.tuple hFl (sa.mono le) hn h2

/-- the ints of a range -/
def rangeD (a c : Int) : Nat → List D
  | 0 => []
  | k + 1 => .int a :: rangeD (a + c) c k
theorem Iter.range {tgt : Expr} {it : Addr} {c : Int} : ∀ {m : Nat} {x : Int} {F : FM} {h : Heap}, IsRangeIter h it x (m : Int) c → Iter g tgt (.ref it) [it] (rangeD x c m) F h
  | 0, x, F, h, hit => fun A s F' ok ag le fz nf => by
    have hit' : IsRangeIter s.heap it x ((0 : Nat) : Int) c := ag it (.head _) _ hit
    exact wpAny_pyNext_range_end ok.hand hit' (by simp) fun h' he => ⟨rfl, fun b o e hb => he b o (by simpa using hb) e, rfl, rfl⟩
  | m + 1, x, F, h, hit => fun A s F' ok ag le fz nf => by
    have hit' : IsRangeIter s.heap it x ((m + 1 : Nat) : Int) c := ag it (.head _) _ hit
    refine wpAny_pyNext_range_item hit' (by lia) fun h' hn sb => ⟨_, rfl, ?_⟩
    rw [show ((m + 1 : Nat) : Int) - 1 = (m : Int) by lia] at hn
    refine let_plain hn rfl (by decide) ⟨F', fun _ _ e => e, fun a o e => (sb.2 a fun z => ?_).trans (fz a o e), fr_same, .int _ _, ⟨fun b o e hb => (sb.2 b (by simpa using hb)).trans e, rfl, rfl⟩, fun a ha => ?_, ?_⟩
    · rw [z, nf it (.head _)] at e; cases e
    · rw [List.mem_singleton.mp ha]; exact ⟨_, hn, nns rfl⟩
    · exact Iter.range hn

/-- enumerate over a list -/
def enumD : Int → List D → List D
  | _, [] => []
  | i, d :: ds => .tup [.int i, d] :: enumD (i + 1) ds
theorem Iter.enum {es : List Expr} {x1 : Nat} {pos : Pos} {e it l : Addr} (hne : e ≠ it) {vs : Array Value} {k : Nat} {all : List D} : ∀ {ds : List D} {i : Nat} {old : Value} {F : FM} {h : Heap}, F l = some { cls := .type "list", dict := Option.none, data := .seq vs k, slots := #[] } →
    SeesAll F vs.toList all → IsEnum h e it i old → h.IsListIter it l i → all.drop i = ds → Iter g (.Tuple es x1 pos) (.ref e) [e, it] (enumD i ds) F h
  | [], i, old, F, h, hF, sa, hen, hit, hd => fun A s F' ok ag le fz nf => by
    have hit' : s.heap.IsListIter it l i := by obtain ⟨o, e', r⟩ := hit; exact ⟨o, ag it (.tail _ (.head _)) o e', r⟩
    have hen' : IsEnum s.heap e it i old := ag e (.head _) _ hen
    have hL : s.heap.IsList l vs := ⟨_, fz _ _ (le _ _ hF), rfl, _, rfl⟩
    have hx : vs[i]? = none := by
      have := List.drop_eq_nil_iff.mp hd
      have z := sa.size
      rw [Array.getElem?_eq_none_iff]; lia
    refine wpAny_pyNext_enum_end ok.hand hen' hit' hL hx fun h' he => ⟨rfl, fun b o e hb => he b o ?_ e, rfl, rfl⟩
    simp only [List.mem_cons, not_or] at hb; exact hb.2.1
  | d :: ds, i, old, F, h, hF, sa, hen, hit, hd => fun A s F' ok ag le fz nf => by
    have hit' : s.heap.IsListIter it l i := by obtain ⟨o, e', r⟩ := hit; exact ⟨o, ag it (.tail _ (.head _)) o e', r⟩
    have hen' : IsEnum s.heap e it i old := ag e (.head _) _ hen
    have hFl := le _ _ hF
    have hL : s.heap.IsList l vs := ⟨_, fz _ _ hFl, rfl, _, rfl⟩
    obtain ⟨h1, h2⟩ := drop_cons hd
    obtain ⟨v, hv, sv⟩ := sa.get h1
    refine wpAny_pyNext_enum_item hen' hit' hL (by simpa using hv) hne fun h' ho hn ht hsz hk => ⟨_, rfl, ?_⟩
    refine wpAny_letOwnedTupleGo_enum ho fun h'' he2 hs2 => ?_
    have hel : e < s.heap.objs.size := Heap.lt_size hen'
    have hil : it < s.heap.objs.size := by obtain ⟨o, e', _⟩ := hit'; exact Heap.lt_size e'
    have hkp : ∀ b o, b ∉ [e, it] → s.heap.get? b = some o → h''.get? b = some o := fun b o hb e0 => by
      simp only [List.mem_cons, not_or] at hb
      exact (hs2.2 b hb.1).trans (hk b o hb.1 hb.2.1 e0)
    have htup : h''.get? s.heap.objs.size = some { cls := .type "tuple", data := .seq #[.int i s.toks, v] } := (hs2.2 _ (Nat.ne_of_gt hel)).trans ht
    have hn'' : h''.IsListIter it l (i + 1) := by obtain ⟨o, e', r⟩ := hn; exact ⟨o, (hs2.2 _ (Ne.symm hne)).trans e', r⟩
    have hFs : F' s.heap.objs.size = none := by
      cases hq : F' s.heap.objs.size with
      | none => rfl
      | some o => have := fz _ _ hq; rw [get_size] at this; cases this
    have lep := put_le (o := { cls := .type "tuple", data := .seq #[.int i s.toks, v] }) hFs
    refine ⟨put F' s.heap.objs.size { cls := .type "tuple", data := .seq #[.int i s.toks, v] }, lep, fun a o e0 => ?_, fun a => ?_, .tup put_same (.cons (.int _ _) (.cons ((sv.mono le).mono lep) .nil)), ⟨fun b o e0 hb => hkp b o hb e0, rfl, rfl⟩, fun a ha => ?_, ?_⟩
    · by_cases hb : a = s.heap.objs.size
      · subst hb; rw [put_same] at e0; cases e0; exact htup
      · rw [put_ne hb] at e0
        exact hkp a o (fun z => by rw [nf a z] at e0; cases e0) (fz a o e0)
    · by_cases hb : a = s.heap.objs.size
      · subst hb; exact .inr (.inr get_size)
      · rw [put_ne hb]; exact fr_same a
    · simp only [List.mem_cons, List.not_mem_nil, or_false] at ha
      rcases ha with rfl | rfl
      · exact ⟨_, he2, nns rfl⟩
      · obtain ⟨o, e', _, d'⟩ := hn''; exact ⟨o, e', nns d'⟩
    · exact Iter.enum hne (lep _ _ hFl) ((sa.mono le).mono lep) he2 hn'' h2

/-- zip of two lists -/
def zipD (xs ys : List D) : List D := List.zipWith (fun a b => .tup [a, b]) xs ys
theorem Iter.zip {es : List Expr} {x1 : Nat} {pos : Pos} {z TI TO i1 i2 l1 l2 : Addr} (AP : ZipApart z TI TO i1 i2 l1 l2) {vs ws : Array Value} {k k2 : Nat} {ax ay : List D} : ∀ (m : Nat) {xs ys : List D} {c : Nat} {a b : Value} {F : FM} {h : Heap}, xs.length ≤ m →
    F l1 = some { cls := .type "list", dict := Option.none, data := .seq vs k, slots := #[] } → F l2 = some { cls := .type "list", dict := Option.none, data := .seq ws k2, slots := #[] } →
    SeesAll F vs.toList ax → SeesAll F ws.toList ay → IsZip h z TI TO .none → IsPair h TI (.ref i1) (.ref i2) → IsPair h TO a b → h.IsListIter i1 l1 c → h.IsListIter i2 l2 c → ax.drop c = xs → ay.drop c = ys →
    Iter g (.Tuple es x1 pos) (.ref z) [z, TI, TO, i1, i2] (zipD xs ys) F h := fun m => by
  have stop : ∀ {xs ys : List D} {c : Nat} {a b : Value} {F : FM} {h : Heap}, (xs = [] ∨ ys = []) → 
    F l1 = some { cls := .type "list", dict := Option.none, data := .seq vs k, slots := #[] } → F l2 = some { cls := .type "list", dict := Option.none, data := .seq ws k2, slots := #[] } →
    SeesAll F vs.toList ax → SeesAll F ws.toList ay → IsZip h z TI TO .none → IsPair h TI (.ref i1) (.ref i2) → IsPair h TO a b → h.IsListIter i1 l1 c → h.IsListIter i2 l2 c → ax.drop c = xs → ay.drop c = ys →
      Iter g (.Tuple es x1 pos) (.ref z) [z, TI, TO, i1, i2] [] F h := by
    intro xs ys c a b F h he hF1 hF2 sa sb hz hTI hTO h1 h2 hd1 hd2 A s F' ok ag le fz nf
    have hz' : IsZip s.heap z TI TO .none := ag z (by simp) _ hz
    have hTI' : IsPair s.heap TI (.ref i1) (.ref i2) := ag TI (by simp) _ hTI
    have hTO' : IsPair s.heap TO a b := ag TO (by simp) _ hTO
    have h1' : s.heap.IsListIter i1 l1 c := by obtain ⟨o, e, r⟩ := h1; exact ⟨o, ag i1 (by simp) o e, r⟩
    have h2' : s.heap.IsListIter i2 l2 c := by obtain ⟨o, e, r⟩ := h2; exact ⟨o, ag i2 (by simp) o e, r⟩
    refine wpAny_pyNext_zip_end ok.hand AP hz' hTI' hTO' h1' h2' ⟨_, fz _ _ (le _ _ hF1), rfl, _, rfl⟩ ⟨_, fz _ _ (le _ _ hF2), rfl, _, rfl⟩ ?_ fun h' hk => ⟨rfl, fun b o e hb => ?_, rfl, rfl⟩
    · rcases he with rfl | rfl
      · have := List.drop_eq_nil_iff.mp hd1
        have q := sa.size
        left; rw [Array.getElem?_eq_none_iff]; lia
      · have := List.drop_eq_nil_iff.mp hd2
        have q := sb.size
        right; rw [Array.getElem?_eq_none_iff]; lia
    · simp only [List.mem_cons, not_or] at hb
      exact hk b o hb.1 hb.2.2.1 hb.2.2.2.1 hb.2.2.2.2.1 e
  induction m with
  | zero =>
    intro xs ys c a b F h hm hF1 hF2 sa sb hz hTI hTO h1 h2 hd1 hd2
    have : xs = [] := List.eq_nil_of_length_eq_zero (by lia)
    subst this
    exact stop (.inl rfl) hF1 hF2 sa sb hz hTI hTO h1 h2 hd1 hd2
  | succ m ih =>
    intro xs ys c a b F h hm hF1 hF2 sa sb hz hTI hTO h1 h2 hd1 hd2
    cases xs with
    | nil => exact stop (.inl rfl) hF1 hF2 sa sb hz hTI hTO h1 h2 hd1 hd2
    | cons x xs =>
      cases ys with
      | nil => exact stop (.inr rfl) hF1 hF2 sa sb hz hTI hTO h1 h2 hd1 hd2
      | cons y ys =>
        intro A s F' ok ag le fz nf
        have hz' : IsZip s.heap z TI TO .none := ag z (by simp) _ hz
        have hTI' : IsPair s.heap TI (.ref i1) (.ref i2) := ag TI (by simp) _ hTI
        have hTO' : IsPair s.heap TO a b := ag TO (by simp) _ hTO
        have h1' : s.heap.IsListIter i1 l1 c := by obtain ⟨o, e, r⟩ := h1; exact ⟨o, ag i1 (by simp) o e, r⟩
        have h2' : s.heap.IsListIter i2 l2 c := by obtain ⟨o, e, r⟩ := h2; exact ⟨o, ag i2 (by simp) o e, r⟩
        obtain ⟨g1, g2⟩ := drop_cons hd1
        obtain ⟨g3, g4⟩ := drop_cons hd2
        obtain ⟨v, hv, sv⟩ := sa.get g1
        obtain ⟨u, hu, su⟩ := sb.get g3
        refine wpAny_pyNext_zip_item AP hz' hTI' hTO' h1' h2' ⟨_, fz _ _ (le _ _ hF1), rfl, _, rfl⟩ ⟨_, fz _ _ (le _ _ hF2), rfl, _, rfl⟩ (by simpa using hv) (by simpa using hu) fun h' nz nTO n1 n2 nT hsz hk => ⟨_, rfl, ?_⟩
        refine wpAny_letOwnedTupleGo_zip nz fun h'' nz2 hs2 => ?_
        have hzl : z < s.heap.objs.size := Heap.lt_size hz'
        have k2' : ∀ b o, b ≠ z → h'.get? b = some o → h''.get? b = some o := fun b o hb e => (hs2.2 b hb).trans e
        have hkp : ∀ b o, b ∉ [z, TI, TO, i1, i2] → s.heap.get? b = some o → h''.get? b = some o := fun b o hb e0 => by
          simp only [List.mem_cons, not_or] at hb
          exact k2' b o hb.1 (hk b o hb.1 hb.2.2.1 hb.2.2.2.1 hb.2.2.2.2.1 e0)
        have hTI2 : IsPair h'' TI (.ref i1) (.ref i2) := k2' _ _ AP.TIz (hk _ _ AP.TIz AP.TITO AP.TIi1 AP.TIi2 hTI')
        have htup : IsPair h'' s.heap.objs.size v u := k2' _ _ (Nat.ne_of_gt hzl) nT
        have hTO2 : IsPair h'' TO v u := k2' _ _ AP.TOz nTO
        have n1' : h''.IsListIter i1 l1 (c + 1) := by obtain ⟨o, e, r⟩ := n1; exact ⟨o, k2' _ _ AP.i1z e, r⟩
        have n2' : h''.IsListIter i2 l2 (c + 1) := by obtain ⟨o, e, r⟩ := n2; exact ⟨o, k2' _ _ AP.i2z e, r⟩
        have hFs : F' s.heap.objs.size = none := by
          cases hq : F' s.heap.objs.size with
          | none => rfl
          | some o => have := fz _ _ hq; rw [get_size] at this; cases this
        have lep := put_le (o := { cls := .type "tuple", data := .seq #[v, u] }) hFs
        refine ⟨put F' s.heap.objs.size { cls := .type "tuple", data := .seq #[v, u] }, lep, fun a o e0 => ?_, fun a => ?_, .tup put_same (.cons ((sv.mono le).mono lep) (.cons ((su.mono le).mono lep) .nil)), ⟨fun b o e0 hb => hkp b o hb e0, rfl, rfl⟩, fun a ha => ?_, ?_⟩
        · by_cases hb : a = s.heap.objs.size
          · subst hb; rw [put_same] at e0; cases e0; exact htup
          · rw [put_ne hb] at e0
            exact hkp a o (fun z => by rw [nf a z] at e0; cases e0) (fz a o e0)
        · by_cases hb : a = s.heap.objs.size
          · subst hb; exact .inr (.inr get_size)
          · rw [put_ne hb]; exact fr_same a
        · simp only [List.mem_cons, List.not_mem_nil, or_false] at ha
          rcases ha with rfl | rfl | rfl | rfl | rfl
          · exact ⟨_, nz2, nns rfl⟩
          · exact ⟨_, hTI2, nnsq rfl⟩
          · exact ⟨_, hTO2, nnsq rfl⟩
          · obtain ⟨o, e, _, d'⟩ := n1'; exact ⟨o, e, nns d'⟩
          · obtain ⟨o, e, _, d'⟩ := n2'; exact ⟨o, e, nns d'⟩
        · exact ih (by simp at hm; lia) (lep _ _ (le _ _ hF1)) (lep _ _ (le _ _ hF2)) ((sa.mono le).mono lep) ((sb.mono le).mono lep) nz2 hTI2 hTO2 n1' n2' g2 g4

/-! heads of loops -/
theorem GSt.fresh {F h} (G : GSt g μ F h) {a : Addr} (ha : h.get? a = none) : F a = none ∧ a ∉ μ.dom ∧ a ∉ g.tabDom := by
  refine ⟨?_, fun q => ?_, fun q => ?_⟩
  · cases hq : F a with
    | none => rfl
    | some o => have := G.fz _ _ hq; rw [ha] at this; cases this
  · obtain ⟨p, hp, rfl⟩ := List.mem_map.mp q
    obtain ⟨_, b⟩ := G.mu p hp
    obtain ⟨o, e1⟩ := b.live
    rw [ha] at e1; cases e1
  · obtain ⟨p, hp, rfl⟩ := List.mem_map.mp q
    obtain ⟨_, ps, e, _⟩ := G.tb p hp
    rw [ha] at e; cases e
/-- new objects are aside -/
theorem Aside.new {F} {s s' : Shared} {fp : List Addr} (G : GSt g μ F s.heap) (Fs : FSt env own ρ μ F s.heap) (hn : ∀ a ∈ fp, s.heap.get? a = none) (hl : ∀ a ∈ fp, ∃ o, s'.heap.get? a = some o ∧ ¬ IsNs o) : Aside g env own μ F fp s'.heap :=
  ⟨fun a ha => (G.fresh (hn a ha)).1, fun a ha q => (by obtain ⟨o, e⟩ := Fs.live a q; rw [hn a ha] at e; cases e), fun a ha => (G.fresh (hn a ha)).2.1, fun a ha => (G.fresh (hn a ha)).2.2, hl,
    fun a ha p hp q => (by obtain ⟨v, o, e, _⟩ := Fs.cells p hp; rw [q, hn a ha] at e; cases e)⟩
theorem fresh_back {s s₁ : Shared} {mt μ₁ F F₁} (t : Tr g mt μ μ₁ F F₁ s s₁) {a : Addr} (h : s₁.heap.get? a = none) : s.heap.get? a = none := by
  cases hq : s.heap.get? a with
  | none => rfl
  | some o => obtain ⟨o', e⟩ := t.live a o hq; rw [h] at e; cases e

theorem wp_selfIter {M : Model} {A : Around} {s : Shared} {it : Value} (h : ∀ Q : Value → Shared → Prop, Q it s → wpAny M A (pyIter it) Q (fun _ _ => False) s) :
    wpAny M A (pyIter it) (fun it' s'' => it' = it ∧ s''.heap = s.heap ∧ s''.os = s.os ∧ s''.gens = s.gens) (fun _ _ => False) s := h _ ⟨rfl, rfl, rfl, rfl⟩

theorem EvI.list {tgt e Q} (h : Ev g env own n ρ μ e fun d μ₁ => ∃ ds, d = .lst ds ∧ Q ds μ₁) : EvI g env own n ρ μ tgt e Q := fun A F s ok G Fs =>
  wp_seq h ok G Fs fun v d μ₁ F₁ s₁ t₁ G₁ Fs₁ sv hq => by
    obtain ⟨ds, rfl, hq⟩ := hq
    obtain @⟨l, vs, k, e0, sds⟩ := Sees.lstI sv
    have hL : s₁.heap.IsList l vs := ⟨_, G₁.fz _ _ e0, rfl, _, rfl⟩
    refine wpAny_pyIter_list hL ?_
    have hk : ∀ b o, s₁.heap.get? b = some o → (s₁.heap.push { cls := .type "list_iterator", data := .fields #[.ref l, .int 0 0] }).get? b = some o := fun b o e => Heap.get?_push_of_some _ e
    have hit : (s₁.heap.push { cls := .type "list_iterator", data := .fields #[.ref l, .int 0 0] }).IsListIter s₁.heap.objs.size l 0 := ⟨_, Heap.get?_push_size _ rfl, rfl, rfl⟩
    refine ⟨ds, μ₁, F₁, [s₁.heap.objs.size], t₁.trans (Tr.of_ext hk rfl rfl), G₁.ext hk, Aside.new (s := s₁) (s' := { s₁ with heap := s₁.heap.push { cls := .type "list_iterator", data := .fields #[.ref l, .int 0 0] } }) G₁ Fs₁ (fun a ha => ?_) (fun a ha => ?_), fun a ha => ?_, Iter.list e0 sds hit (by simp), fun A' s' ok' ag _ => ?_, hq⟩
    · rw [List.mem_singleton.mp ha]; exact get_size
    · rw [List.mem_singleton.mp ha]; exact ⟨_, Heap.get?_push_size _ rfl, nns rfl⟩
    · rw [List.mem_singleton.mp ha]; exact fresh_back t₁ get_size
    · have hit' : s'.heap.IsListIter s₁.heap.objs.size l 0 := by obtain ⟨o, e, r⟩ := hit; exact ⟨o, ag _ (.head _) o e, r⟩
      exact wp_selfIter fun Q' hq' => wpAny_pyIter_listiter hit' hq'
theorem EvI.tuple {tgt e Q} (h : Ev g env own n ρ μ e fun d μ₁ => ∃ ds, d = .tup ds ∧ Q ds μ₁) : EvI g env own n ρ μ tgt e Q := fun A F s ok G Fs =>
  wp_seq h ok G Fs fun v d μ₁ F₁ s₁ t₁ G₁ Fs₁ sv hq => by
    obtain ⟨ds, rfl, hq⟩ := hq
    obtain @⟨l, vs, k, e0, sds⟩ := Sees.tupI sv
    have hL : s₁.heap.IsTuple l vs := ⟨_, G₁.fz _ _ e0, rfl, _, rfl⟩
    refine wpAny_pyIter_tuple hL ?_
    have hk : ∀ b o, s₁.heap.get? b = some o → (s₁.heap.push { cls := .type "tuple_iterator", data := .fields #[.ref l, .int 0 0] }).get? b = some o := fun b o e => Heap.get?_push_of_some _ e
    have hit : (s₁.heap.push { cls := .type "tuple_iterator", data := .fields #[.ref l, .int 0 0] }).IsTupleIter s₁.heap.objs.size l 0 := ⟨_, Heap.get?_push_size _ rfl, rfl, rfl⟩
    refine ⟨ds, μ₁, F₁, [s₁.heap.objs.size], t₁.trans (Tr.of_ext hk rfl rfl), G₁.ext hk, Aside.new (s := s₁) (s' := { s₁ with heap := s₁.heap.push { cls := .type "tuple_iterator", data := .fields #[.ref l, .int 0 0] } }) G₁ Fs₁ (fun a ha => ?_) (fun a ha => ?_), fun a ha => ?_, Iter.tuple e0 sds hit (by simp), fun A' s' ok' ag _ => ?_, hq⟩
    · rw [List.mem_singleton.mp ha]; exact get_size
    · rw [List.mem_singleton.mp ha]; exact ⟨_, Heap.get?_push_size _ rfl, nns rfl⟩
    · rw [List.mem_singleton.mp ha]; exact fresh_back t₁ get_size
    · have hit' : s'.heap.IsTupleIter s₁.heap.objs.size l 0 := by obtain ⟨o, e, r⟩ := hit; exact ⟨o, ag _ (.head _) o e, r⟩
      exact wp_selfIter fun Q' hq' => wpAny_pyIter_tupleiter hit' hq'
/-- how many a range holds -/
theorem EvI.range {tgt e Q} (h : Ev g env own n ρ μ e fun d μ₁ => ∃ a b c m, d = .rng a b c ∧ Builtin.Range.small a b c = true ∧ Builtin.Range.rangeSize a b c = (m : Nat) ∧ Q (rangeD a c m) μ₁) : EvI g env own n ρ μ tgt e Q := fun A F s ok G Fs =>
  wp_seq h ok G Fs fun v d μ₁ F₁ s₁ t₁ G₁ Fs₁ sv hq => by
    obtain ⟨a, b, c, m, rfl, hs, hm, hq⟩ := hq
    obtain @⟨l, t, u, w, e0⟩ := Sees.rngI sv
    refine wpAny_pyIter_range (G₁.fz _ _ e0) hs ?_
    rw [hm]
    have hk : ∀ b o, s₁.heap.get? b = some o → (s₁.heap.push { cls := .type "range_iterator", data := .fields #[rawInt a, rawInt (m : Int), rawInt c] }).get? b = some o := fun b o e => Heap.get?_push_of_some _ e
    have hit : IsRangeIter (s₁.heap.push { cls := .type "range_iterator", data := .fields #[rawInt a, rawInt (m : Int), rawInt c] }) s₁.heap.objs.size a (m : Int) c := Heap.get?_push_size _ rfl
    refine ⟨_, μ₁, F₁, [s₁.heap.objs.size], t₁.trans (Tr.of_ext hk rfl rfl), G₁.ext hk, Aside.new (s := s₁) (s' := { s₁ with heap := s₁.heap.push { cls := .type "range_iterator", data := .fields #[rawInt a, rawInt (m : Int), rawInt c] } }) G₁ Fs₁ (fun a ha => ?_) (fun a ha => ?_), fun a ha => ?_, Iter.range hit, fun A' s' ok' ag _ => ?_, hq⟩
    · rw [List.mem_singleton.mp ha]; exact get_size
    · rw [List.mem_singleton.mp ha]; exact ⟨_, Heap.get?_push_size _ rfl, nns rfl⟩
    · rw [List.mem_singleton.mp ha]; exact fresh_back t₁ get_size
    · exact wp_selfIter fun Q' hq' => wpAny_pyIter_rangeiter (ag _ (.head _) _ hit) hq'

theorem EvI.enum {es : List Expr} {x1 : Nat} {tp pos : Pos} {f x : Expr} {Q} (hf : Ev g env own n ρ μ f fun d μ₁ => d = .val (.type "enumerate") ∧ plainE x = true ∧ Ev g env own n ρ μ₁ x fun d μ₂ => ∃ ds, d = .lst ds ∧ Q (enumD 0 ds) μ₂)
    (he : eval (.Call f [x] [] pos) env = (do callWith pos (← eval f env) [] (backTo pos (starEach [x] env)) (backToKw pos (keywordEach [] env))) := by rfl) :
    EvI g env own n ρ μ (.Tuple es x1 tp) (.Call f [x] [] pos) Q := fun A F s ok G Fs => by
  rw [he]
  refine wpAny_bind (wp_seq hf ok G Fs fun fv fd μ₁ F₁ s₁ t₁ G₁ Fs₁ sf hq => ?_)
  obtain ⟨rfl, hp, hx⟩ := hq
  refine callWith_P (Q := fun ds ks μ₂ => ∃ xs, ds = [.lst xs] ∧ ks = [] ∧ Q (enumD 0 xs) μ₂) KeepD.type (by simp [hp]) rfl ok G₁ Fs₁ sf ⟨hp, hx.mono (by rintro d μ₂ ⟨ds, e, hq⟩; exact ⟨ds, by rw [e], rfl, hq⟩)⟩ fun vs kvs ds ks μ₂ F₂ s₂ t₂ G₂ Fs₂ sf₂ sds sks hn hq => ?_
  obtain ⟨xs, rfl, rfl, hq⟩ := hq
  have hkv : kvs = [] := by simpa using hn
  subst hkv
  obtain rfl := Sees.valI sf₂
  obtain ⟨_, _, rfl, sv, r⟩ := SeesAll.consI sds
  obtain rfl := SeesAll.nilI r
  obtain @⟨l, vs, k, e0, sxs⟩ := Sees.lstI sv
  have hl := G₂.fz _ _ e0
  refine call_enumerate_1 hl fun h' hen hit hsz hk => ?_
  have hne : s₂.heap.objs.size + 1 ≠ s₂.heap.objs.size := by lia
  refine wpAny_pyIter_enum hen ?_
  have hfr : ∀ a ∈ [s₂.heap.objs.size + 1, s₂.heap.objs.size], s₂.heap.get? a = none := fun a ha => by
    cases hq : s₂.heap.get? a with
    | none => rfl
    | some o =>
      have hb : @LT.lt Nat _ a s₂.heap.objs.size := Heap.lt_size hq
      simp only [List.mem_cons, List.not_mem_nil, or_false] at ha
      rcases ha with rfl | rfl <;> lia
  refine ⟨_, μ₂, F₂, [s₂.heap.objs.size + 1, s₂.heap.objs.size], (t₁.trans t₂).trans (Tr.of_ext hk rfl rfl), G₂.ext hk, Aside.new (s := s₂) (s' := { s₂ with heap := h' }) G₂ Fs₂ hfr (fun a ha => ?_), fun a ha => fresh_back (t₁.trans t₂) (hfr a ha), Iter.enum hne e0 sxs hen hit (by simp), fun A' s' ok' ag _ => ?_, hq⟩
  · simp only [List.mem_cons, List.not_mem_nil, or_false] at ha
    rcases ha with rfl | rfl
    · exact ⟨_, hen, nns rfl⟩
    · obtain ⟨o, e, _, d'⟩ := hit; exact ⟨o, e, nns d'⟩
  · exact wp_selfIter fun Q' hq' => wpAny_pyIter_enum (ag _ (.head _) _ hen) hq'

theorem EvI.zip {es : List Expr} {x1 : Nat} {tp pos : Pos} {f x y : Expr} {Q} (hf : Ev g env own n ρ μ f fun d μ₁ => d = .val (.type "zip") ∧ plainE x = true ∧ plainE y = true ∧
      Ev g env own n ρ μ₁ x fun d μ₂ => Ev g env own n ρ μ₂ y fun d' μ₃ => ∃ xs ys, d = .lst xs ∧ d' = .lst ys ∧ Q (zipD xs ys) μ₃)
    (he : eval (.Call f [x, y] [] pos) env = (do callWith pos (← eval f env) [] (backTo pos (starEach [x, y] env)) (backToKw pos (keywordEach [] env))) := by rfl) :
    EvI g env own n ρ μ (.Tuple es x1 tp) (.Call f [x, y] [] pos) Q := fun A F s ok G Fs => by
  rw [he]
  refine wpAny_bind (wp_seq hf ok G Fs fun fv fd μ₁ F₁ s₁ t₁ G₁ Fs₁ sf hq => ?_)
  obtain ⟨rfl, hp, hp2, hx⟩ := hq
  refine callWith_P (Q := fun ds ks μ₂ => ∃ xs ys, ds = [.lst xs, .lst ys] ∧ ks = [] ∧ Q (zipD xs ys) μ₂) KeepD.type (by simp [hp, hp2]) rfl ok G₁ Fs₁ sf
    ⟨hp, hx.mono fun d μ₂ hy => ⟨hp2, hy.mono (by rintro d' μ₃ ⟨xs, ys, e, e', hq⟩; exact ⟨xs, ys, by rw [e, e'], rfl, hq⟩)⟩⟩ fun vs kvs ds ks μ₂ F₂ s₂ t₂ G₂ Fs₂ sf₂ sds sks hn hq => ?_
  obtain ⟨xs, ys, rfl, rfl, hq⟩ := hq
  have hkv : kvs = [] := by simpa using hn
  subst hkv
  obtain rfl := Sees.valI sf₂
  obtain ⟨_, _, rfl, sv, r⟩ := SeesAll.consI sds
  obtain ⟨_, _, rfl, su, r⟩ := SeesAll.consI r
  obtain rfl := SeesAll.nilI r
  obtain @⟨l, vs, k, e0, sxs⟩ := Sees.lstI sv
  obtain @⟨l2, ws, k2, e2, sys⟩ := Sees.lstI su
  have hl := G₂.fz _ _ e0
  have hl2 := G₂.fz _ _ e2
  have b1 := Heap.lt_size hl
  have b2 := Heap.lt_size hl2
  refine call_zip_2 ⟨_, hl, rfl, _, rfl⟩ ⟨_, hl2, rfl, _, rfl⟩ fun h' hz hTI hTO h1 h2 hsz hk => ?_
  refine wpAny_pyIter_zip hz ?_
  have AP : ZipApart (s₂.heap.objs.size + 4) (s₂.heap.objs.size + 2) (s₂.heap.objs.size + 3) s₂.heap.objs.size (s₂.heap.objs.size + 1) l l2 := by
    have b1' : @LT.lt Nat _ l s₂.heap.objs.size := b1
    have b2' : @LT.lt Nat _ l2 s₂.heap.objs.size := b2
    constructor <;> (refine neN ?_; lia)
  have hfr : ∀ a ∈ [s₂.heap.objs.size + 4, s₂.heap.objs.size + 2, s₂.heap.objs.size + 3, s₂.heap.objs.size, s₂.heap.objs.size + 1], s₂.heap.get? a = none := fun a ha => by
    cases hq : s₂.heap.get? a with
    | none => rfl
    | some o =>
      have hb : @LT.lt Nat _ a s₂.heap.objs.size := Heap.lt_size hq
      simp only [List.mem_cons, List.not_mem_nil, or_false] at ha
      rcases ha with rfl | rfl | rfl | rfl | rfl <;> lia
  refine ⟨_, μ₂, F₂, [s₂.heap.objs.size + 4, s₂.heap.objs.size + 2, s₂.heap.objs.size + 3, s₂.heap.objs.size, s₂.heap.objs.size + 1], (t₁.trans t₂).trans (Tr.of_ext hk rfl rfl), G₂.ext hk,
    Aside.new (s := s₂) (s' := { s₂ with heap := h' }) G₂ Fs₂ hfr (fun a ha => ?_), fun a ha => fresh_back (t₁.trans t₂) (hfr a ha), Iter.zip AP xs.length (Nat.le_refl _) e0 e2 sxs sys hz hTI hTO h1 h2 (by simp) (by simp), fun A' s' ok' ag _ => ?_, hq⟩
  · simp only [List.mem_cons, List.not_mem_nil, or_false] at ha
    rcases ha with rfl | rfl | rfl | rfl | rfl
    · exact ⟨_, hz, nns rfl⟩
    · exact ⟨_, hTI, nnsq rfl⟩
    · exact ⟨_, hTO, nnsq rfl⟩
    · obtain ⟨o, e, _, d'⟩ := h1; exact ⟨o, e, nns d'⟩
    · obtain ⟨o, e, _, d'⟩ := h2; exact ⟨o, e, nns d'⟩
  · exact wp_selfIter fun Q' hq' => wpAny_pyIter_zip (ag _ (.head _) _ hz) hq'
end

open PySem PySem.W PySem.Calls PyProof.Rows
set_option maxRecDepth 20000
section
variable {g : G} {env : Env} {own : List Addr} {n : Nat} {ρ : Str → Option D} {μ : Mu}

/-! comprehensions -/
def EtIfs (g : G) (env : Env) (own : List Addr) (n : Nat) (ρ : Str → Option D) : List Expr → Mu → (Bool → Mu → Prop) → Prop
  | [], μ, Q => Q true μ
  | c :: cs, μ, Q => Et g env own n ρ μ c fun b μ₁ => (b = true → EtIfs g env own n ρ cs μ₁ Q) ∧ (b = false → Q false μ₁)

abbrev CK := List D → (Str → Option D) → Mu → Prop
def CompL (g : G) (env : Env) (own : List Addr) (n : Nat) (inner : (Str → Option D) → Mu → List D → CK → Prop) (tgt : Expr) (ifs : List Expr) : List D → (Str → Option D) → Mu → List D → CK → Prop
  | [], ρ, μ, acc, K => K acc ρ μ
  | d :: ds, ρ, μ, acc, K => Asg env own (fun ρ₁ => EtIfs g env own n ρ₁ ifs μ fun ok μ₁ =>
      (ok = true → inner ρ₁ μ₁ acc fun acc' ρ₂ μ₂ => CompL g env own n inner tgt ifs ds ρ₂ μ₂ acc' K) ∧ (ok = false → CompL g env own n inner tgt ifs ds ρ₁ μ₁ acc K)) tgt d ρ
def CompG (g : G) (env : Env) (own : List Addr) (n : Nat) (elt : Expr) : List Comprehension → (Str → Option D) → Mu → List D → CK → Prop
  | [], ρ, μ, acc, K => acc.length ≤ 100000 ∧ Ev g env own n ρ μ elt fun d μ₁ => K (acc ++ [d]) ρ μ₁
  | ⟨tgt, iter, ifs, _⟩ :: rest, ρ, μ, acc, K => EvI g env own n ρ μ tgt iter fun ds μ₁ => CompL g env own n (CompG g env own n elt rest) tgt ifs ds ρ μ₁ acc K

theorem wt_ifs {A : Around} (ok : Ok g n A) : ∀ (ifs : List Expr) {μ Q F s}, EtIfs g env own n ρ ifs μ Q → GSt g μ F s.heap → FSt env own ρ μ F s.heap →
    wpAny (model g.prog g.w) A (forIn ifs true fun c r => if r = true then do let ok ← isTrue c env (eval c env); pure (ForInStep.yield ok) else pure (ForInStep.yield r)) (EtPost g μ s F Q) (fun _ _ => False) s := by
  have off : ∀ (ifs : List Expr) {P : Bool → Shared → Prop} {s : Shared}, P false s → wpAny (model g.prog g.w) A (forIn ifs false fun c r => if r = true then do let ok ← isTrue c env (eval c env); pure (ForInStep.yield ok) else pure (ForInStep.yield r)) P (fun _ _ => False) s := by
    intro ifs
    induction ifs with
    | nil => intro P s h; exact wpAny_pure h
    | cons c cs ih =>
      intro P s h
      rw [List.forIn_cons, if_neg (by decide)]
      exact wpAny_bind (wpAny_pure (ih h))
  intro ifs
  induction ifs with
  | nil => intro μ Q F s h G Fs; exact wpAny_pure ⟨μ, F, .refl, G, h⟩
  | cons c cs ih =>
    intro μ Q F s h G Fs
    rw [List.forIn_cons, if_pos rfl]
    refine wpAny_bind (wpAny_bind (wt_seq h ok G Fs fun b μ₁ F₁ s₁ t₁ G₁ Fs₁ hq => wpAny_pure ?_))
    cases b with
    | true => exact et_post t₁ (ih (hq.1 rfl) G₁ Fs₁)
    | false => exact off cs ⟨μ₁, F₁, t₁, G₁, hq.2 rfl⟩

theorem compTurn_last {elt : Expr} {gens : List Comprehension} {scope : Scope} {pos : Pos} {d : Nat} {target iter : Expr} {ifs : List Expr} (hg : gens[d]? = some ⟨target, iter, ifs, 0⟩) (hn : gens[d + 1]? = none) (it acc : Value) (env : Env) :
    compTurn (.ListComp elt gens scope pos) d it acc env = (standAt iter.pos >>= fun _ => pyNext it >>= fun r => match r with
      | none => pure (.done .next)
      | some v => letOwnedTupleGo target it v >>= fun _ => assign target env v >>= fun _ =>
        (forIn ifs true fun c r => if r = true then do let ok ← isTrue c env (eval c env); pure (ForInStep.yield ok) else pure (ForInStep.yield r)) >>= fun ok =>
        if ok = true then (do
            (do let x ← eval elt env; let _ ← call (.builtin "list.append") [acc, x]; pure ())
            again (.compLoop (.ListComp elt gens scope pos) d it acc env))
        else again (.compLoop (.ListComp elt gens scope pos) d it acc env)) := by
  unfold compTurn
  simp only [hg, hn]
  rfl
theorem compTurn_mid {elt : Expr} {gens : List Comprehension} {scope : Scope} {pos : Pos} {d : Nat} {target iter t' i' : Expr} {ifs f' : List Expr} (hg : gens[d]? = some ⟨target, iter, ifs, 0⟩) (hn : gens[d + 1]? = some ⟨t', i', f', 0⟩) (it acc : Value) (env : Env) :
    compTurn (.ListComp elt gens scope pos) d it acc env = (standAt iter.pos >>= fun _ => pyNext it >>= fun r => match r with
      | none => pure (.done .next)
      | some v => letOwnedTupleGo target it v >>= fun _ => assign target env v >>= fun _ =>
        (forIn ifs true fun c r => if r = true then do let ok ← isTrue c env (eval c env); pure (ForInStep.yield ok) else pure (ForInStep.yield r)) >>= fun ok =>
        if ok = true then (do
            let x ← eval i' env
            standAt i'.pos
            let x ← foldedSetIterable i' env x
            let it' ← holding [x] (pyIter x)
            let _ ← runOwn (.compStart (.ListComp elt gens scope pos) (d + 1) it' acc env) env
            again (.compLoop (.ListComp elt gens scope pos) d it acc env))
        else again (.compLoop (.ListComp elt gens scope pos) d it acc env)) := by
  unfold compTurn
  simp only [hg, hn]
  rfl

inductive AccAt (F : FM) (h : Heap) (a : Addr) (accD : List D) : Prop
  | mk (vs : Array Value) (k : Nat) (e : h.get? a = some { cls := .type "list", dict := Option.none, data := .seq vs k, slots := #[] }) (s : SeesAll F vs.toList accD)

theorem call_append {A : Around} {E : Value → Shared → Prop} {s : Shared} {prog w} {l : Addr} {vs : Array Value} {k : Nat} {x : Value} {Q : Value → Shared → Prop} (hl : s.heap.get? l = some { cls := .type "list", dict := Option.none, data := .seq vs k, slots := #[] })
    (hQ : ∀ h' k', h'.get? l = some { cls := .type "list", dict := Option.none, data := .seq (vs.push x) k', slots := #[] } → Heap.SameBut l s.heap h' → Q .none { s with heap := h' }) (hsz : vs.size ≤ sizeLine) :
    wpAny (model prog w) A (call (.builtin "list.append") [.ref l, x]) Q E s := by
  have hL : s.heap.IsList l vs := ⟨_, hl, rfl, _, rfl⟩
  refine wpAny_call_entry slot_list_append hL.typeIs entry_list_append ?_ (args_list_append _ _)
  show wpAny _ _ (updateSeq l (·.push x) >>= fun _ => ret .none) _ _ s
  refine wpAny_bind ?_
  refine wpAny_updateSeq hl rfl (wpAny_pure ⟨.none, rfl, hQ _ (k + 1) ?_ (Heap.SameBut.update ..)⟩)
  rw [Heap.get?_update_self _ hl rfl]
  simp [Obj.mapSeq]

theorem mark_none (A : Around) : A.mark none = A := by cases A; rfl

theorem AccAt.mono {F F' : FM} {h h' : Heap} {a accD} (x : AccAt F h a accD) (hk : ∀ o, h.get? a = some o → h'.get? a = some o) (le : ∀ b o, F b = some o → F' b = some o) : AccAt F' h' a accD :=
  (by obtain ⟨vs, k, e, sa⟩ := x; exact ⟨vs, k, hk _ e, sa.mono le⟩)

theorem comp_start {elt : Expr} {gens : List Comprehension} {scope : Scope} {pos : Pos} {d : Nat} {target iter : Expr} {ifs : List Expr} (hg : gens[d]? = some ⟨target, iter, ifs, 0⟩) {it acc : Value} {env : Env} {A : Around} {R : Result → Shared → Prop} {s : Shared} {prog w}
    (h0 : codeAny (model prog w) A (.compLoop (.ListComp elt gens scope pos) d it acc env) R s)
    (h : wpAny (model prog w) A (pyIter it) (fun it' s' => codeAny (model prog w) A (.compLoop (.ListComp elt gens scope pos) d it' acc env) R s') (notedBy (model prog w) A env fun x s' => R (.error x) s') s) :
    codeAny (model prog w) A (.compStart (.ListComp elt gens scope pos) d it acc env) R s := by
  refine codeAny_of_tree ?_
  show wpAny _ _ ((compStart (.ListComp elt gens scope pos) d it acc env).onRaise (fun x => do noteFrame x env; standAt theWindowsPlace)) _ _ s
  refine wpAny_notedAt ?_
  unfold compStart
  simp only [clausesOf, hg, Option.elim]
  show wpAny _ _ (ask >>= _) _ _ s
  refine wpAny_bind (wpAny_askSetting (wpAny_ite ?_))
  split
  · first
      | exact wpAny_bind (wpAny_pure (wpAny_pure (And.intro rfl h0)))
      | exact wpAny_pure (And.intro rfl h0)
  · refine wpAny_bind (wpAny_rule ?_)
    show wpAny _ _ (standAt iter.pos >>= _) _ _ s
    exact wpAny_bind (wpAny_standAt (wpAny_bind (wpAny_mono h (fun it' s' h' => wpAny_pure (And.intro rfl h')) fun _ _ x => x)))

theorem Aside.weak {fp own' F h} (x : Aside g env own μ F fp h) (k : ∀ a ∈ own', a ∈ own) : Aside g env own' μ F fp h := ⟨x.F, fun a ha q => x.own a ha (k a q), x.mu, x.tab, x.live, x.cells⟩
inductive CPost (g : G) (env : Env) (own : List Addr) (a : Addr) (μ₀ : Mu) (F₀ : FM) (s₀ : Shared) (K : CK) (r : Result) (s' : Shared) : Prop
  | mk (accD : List D) (ρ' : Str → Option D) (μ' : Mu) (F' : FM) (e : r = .ok .next) (t : Tr g (a :: own) μ₀ μ' F₀ F' s₀ s') (G : GSt g μ' F' s'.heap) (Fs : FSt env own ρ' μ' F' s'.heap) (As : Aside g env own μ' F' [a] s'.heap) (Acc : AccAt F' s'.heap a accD) (k : K accD ρ' μ')

def GenOk (x : Comprehension) : Prop := x.is_async = 0 ∧ ∀ env v, foldedSetIterable x.iter env v = pure v

theorem Iter.move {tgt it fp ds F F' h h'} (I : Iter g tgt it fp ds F h) (ag : Agree fp h h') (le : ∀ a o, F a = some o → F' a = some o) : Iter g tgt it fp ds F' h' := by
  exact I.move0 ag le

theorem notedF {M : Model} {A : Around} {E : Value → Shared → Prop} {α : Type} {t : Sem α} {Q : α → Shared → Prop} {s : Shared} (h : wpAny M A t Q (fun _ _ => False) s) : wpAny M A t Q E s :=
  wpAny_mono h (fun _ _ x => x) fun _ _ x => x.elim

/-- how a comprehension stands within its loop -/
structure CS (g : G) (env : Env) (own : List Addr) (a : Addr) (fp : List Addr) (μ₀ : Mu) (F₀ : FM) (s₀ : Shared) (ρ : Str → Option D) (μ : Mu) (accD : List D) (F : FM) (s : Shared) : Prop where
  tt : Tr g (a :: own) μ₀ μ F₀ F s₀ s
  gs : GSt g μ F s.heap
  fs : FSt env own ρ μ F s.heap
  as : Aside g env own μ F [a] s.heap
  ac : AccAt F s.heap a accD
  ai : Aside g env (a :: own) μ F fp s.heap
abbrev CL (g : G) (env : Env) (own : List Addr) (n : Nat) (elt : Expr) (rest : List Comprehension) (tgt : Expr) (ifs : List Expr) (K : CK) (ds : List D) (ρ : Str → Option D) (μ : Mu) (accD : List D) : Prop := CompL g env own n (CompG g env own n elt rest) tgt ifs ds ρ μ accD K
inductive CI (g : G) (env : Env) (own : List Addr) (n : Nat) (elt : Expr) (rest : List Comprehension) (tgt : Expr) (ifs : List Expr) (it : Value) (a : Addr) (fp : List Addr) (μ₀ : Mu) (F₀ : FM) (s₀ : Shared) (K : CK) (k : Nat) (s : Shared) : Prop
  | mk (ds : List D) (accD : List D) (ρ : Str → Option D) (μ : Mu) (F : FM) (hk : ds.length = k) (c : CS g env own a fp μ₀ F₀ s₀ ρ μ accD F s) (It : Iter g tgt it fp ds F s.heap) (hC : CL g env own n elt rest tgt ifs K ds ρ μ accD)
/-- one turn up to its tests -/
inductive CT (g : G) (env : Env) (own : List Addr) (n : Nat) (elt : Expr) (rest : List Comprehension) (tgt : Expr) (ifs : List Expr) (it : Value) (a : Addr) (fp : List Addr) (μ₀ : Mu) (F₀ : FM) (s₀ : Shared) (K : CK) (k : Nat) (acc : List D) (b : Bool) (s : Shared) : Prop
  | mk (ds : List D) (ρ : Str → Option D) (μ : Mu) (F : FM) (hk : ds.length + 1 = k) (c : CS g env own a fp μ₀ F₀ s₀ ρ μ acc F s) (It : Iter g tgt it fp ds F s.heap)
      (h : (b = true → CompG g env own n elt rest ρ μ acc fun acc' ρ₂ μ₂ => CL g env own n elt rest tgt ifs K ds ρ₂ μ₂ acc') ∧ (b = false → CL g env own n elt rest tgt ifs K ds ρ μ acc))
section
variable {elt : Expr} {gens : List Comprehension} {scope : Scope} {pos : Pos} {a : Addr} {rest : List Comprehension} {tgt : Expr} {ifs : List Expr} {it : Value} {fp : List Addr} {μ₀ : Mu} {F₀ : FM} {s₀ : Shared} {K : CK} {k : Nat}
theorem CS.tr {ρ μ₁ accD F F₁ s s₁} (c : CS g env own a fp μ₀ F₀ s₀ ρ μ accD F s) (t : Tr g [] μ μ₁ F F₁ s s₁) (G₁ : GSt g μ₁ F₁ s₁.heap) : CS g env own a fp μ₀ F₀ s₀ ρ μ₁ accD F₁ s₁ ∧ Agree fp s.heap s₁.heap := by
  have z := c.ai.tr t.toOwn
  have y := c.as.tr t.toOwn
  exact ⟨⟨c.tt.trans t.toOwn, G₁, c.fs.tr c.gs t G₁, y.1, c.ac.mono (fun o e => y.2 a (.head _) o e) t.le, z.1⟩, z.2⟩
theorem CS.same {ρ accD F s s'} (c : CS g env own a fp μ₀ F₀ s₀ ρ μ accD F s) (e1 : s'.heap = s.heap) (e2 : s'.os = s.os) (e3 : s'.gens = s.gens) : CS g env own a fp μ₀ F₀ s₀ ρ μ accD F s' := by
  have t := c.tt.trans (Tr.of_ext (g := g) (mt := a :: own) (μ := μ) (F := F) (fun b o e => by rw [e1]; exact e) e2 e3)
  obtain ⟨_, gs, fs, as, ac, ai⟩ := c
  rw [← e1] at gs fs as ac ai
  exact ⟨t, gs, fs, as, ac, ai⟩
theorem CS.noFp {ρ accD F s} (c : CS g env own a fp μ₀ F₀ s₀ ρ μ accD F s) : a ∉ fp := fun q => c.ai.own a q (.head _)
theorem CS.liveA {ρ accD F s} (c : CS g env own a fp μ₀ F₀ s₀ ρ μ accD F s) : ∃ o, s.heap.get? a = some o := (by obtain ⟨o, e, _⟩ := c.as.live a (.head _); exact ⟨o, e⟩)
theorem CI.of {ds accD ρ F s k'} (c : CS g env own a fp μ₀ F₀ s₀ ρ μ accD F s) (It : Iter g tgt it fp ds F s.heap) (hC : CL g env own n elt rest tgt ifs K ds ρ μ accD) (hk : ds.length + 1 = k') : ∃ m, m < k' ∧ CI g env own n elt rest tgt ifs it a fp μ₀ F₀ s₀ K m s :=
  ⟨ds.length, hk ▸ Nat.lt_succ_self _, ds, accD, ρ, μ, F, rfl, c, It, hC⟩
theorem live1 {F : FM} {h h' : Heap} {fp' : List Addr} (x : Aside g env own μ F [a] h) (m : ∀ b o, h.get? b = some o → b ∉ fp' → h'.get? b = some o) (ha : a ∉ fp') : ∀ b ∈ [a], ∃ o, h'.get? b = some o ∧ ¬ IsNs o := fun b hb => by
  obtain ⟨o, e, h⟩ := x.live b hb
  exact ⟨o, m b o e (by rw [List.mem_singleton.mp hb]; exact ha), h⟩
theorem fr_none {F F' : FM} {h : Heap} (hfr : ∀ b, F' b = none ∨ F b ≠ none ∨ h.get? b = none) {fp'} (x : Aside g env own μ F fp' h) : ∀ b ∈ fp', F' b = none := fun b hb => by
  rcases hfr b with k | k | k
  · exact k
  · exact absurd (x.F b hb) k
  · obtain ⟨o, e, _⟩ := x.live b hb; rw [k] at e; cases e
theorem comp_turn {X : Bool → Sem Fin} {P : Fin → Shared → Prop} {A : Around} {iter : Expr} {s₃} (hn : 4 ≤ n) (ok : Ok g n A) (hfp : ∀ b ∈ fp, s₀.heap.get? b = none) (i : CI g env own n elt rest tgt ifs it a fp μ₀ F₀ s₀ K k s₃)
    (hnil : ∀ s₄, CPost g env own a μ₀ F₀ s₀ K (.ok .next) s₄ → P (.done .next) s₄)
    (hcons : ∀ acc b s₇, CT g env own n elt rest tgt ifs it a fp μ₀ F₀ s₀ K k acc b s₇ → wpAny (model g.prog g.w) A (X b) P (fun _ _ => False) s₇) :
      wpAny (model g.prog g.w) A (standAt iter.pos >>= fun _ => pyNext it >>= fun r => match r with
        | none => pure (.done .next)
        | some v => letOwnedTupleGo tgt it v >>= fun _ => assign tgt env v >>= fun _ =>
          (forIn ifs true fun c r => if r = true then do let ok ← isTrue c env (eval c env); pure (ForInStep.yield ok) else pure (ForInStep.yield r)) >>= fun ok => X ok) P (fun _ _ => False) s₃ := by
  obtain ⟨ds₃, acc₃, ρ₃, μ₃, F₃, hk, c, It₃, hC₃⟩ := i
  have wk : ∀ x ∈ own, x ∈ a :: own := fun x hx => .tail _ hx
  refine wpAny_bind (wpAny_standAt (wpAny_bind ?_))
  cases ds₃ with
  | nil =>
    refine wpAny_mono (It₃ A s₃ F₃ (ok.le hn) (fun _ _ _ e => e) (fun _ _ e => e) c.gs.fz c.ai.F) ?_ fun _ _ x => x
    rintro r s₄ ⟨hr, m⟩
    subst hr
    have hno : ∀ a o, F₃ a = some o → s₄.heap.get? a = some o := fun a o e => m.1 a o (c.gs.fz a o e) fun q => by rw [c.ai.F a q] at e; cases e
    obtain ⟨G₄, Fs₄, _, tr⟩ := iter_keep c.gs c.fs (c.ai.weak wk) m (fun _ _ e => e) hno fr_same
    exact wpAny_pure (hnil s₄ ⟨acc₃, ρ₃, μ₃, F₃, rfl, tr _ s₀ μ₀ F₀ hfp c.tt, G₄, Fs₄, ⟨c.as.F, c.as.own, c.as.mu, c.as.tab, live1 c.as m.1 c.noFp, c.as.cells⟩, c.ac.mono (fun o e => m.1 a o e c.noFp) (fun _ _ e => e), hC₃⟩)
  | cons d' ds' =>
    refine wpAny_mono (It₃ A s₃ F₃ (ok.le hn) (fun _ _ _ e => e) (fun _ _ e => e) c.gs.fz c.ai.F) ?_ fun _ _ x => x
    rintro r s₄ ⟨v, hr, h₄⟩
    subst hr
    refine wpAny_bind (wpAny_mono h₄ ?_ fun _ _ x => x)
    rintro _ s₅ ⟨F₅, hle, hfz, hfr, sv, m, lv, It₅⟩
    obtain ⟨G₅, Fs₅, _, tr⟩ := iter_keep c.gs c.fs (c.ai.weak wk) m hle hfz hfr
    have c₅ : CS g env own a fp μ₀ F₀ s₀ ρ₃ μ₃ acc₃ F₅ s₅ := ⟨tr (a :: own) s₀ μ₀ F₀ hfp c.tt, G₅, Fs₅, ⟨fr_none hfr c.as, c.as.own, c.as.mu, c.as.tab, live1 c.as m.1 c.noFp, c.as.cells⟩, c.ac.mono (fun o e => m.1 a o e c.noFp) hle,
      ⟨fr_none hfr c.ai, c.ai.own, c.ai.mu, c.ai.tab, lv, c.ai.cells⟩⟩
    refine wpAny_bind (wpAny_mono (wp_asg ok.hand hC₃ sv G₅ Fs₅) ?_ fun _ _ x => x)
    rintro _ s₆ ⟨ρ₆, t₆, G₆, Fs₆, h₆⟩
    have t₆' : Tr g (a :: own) μ₃ μ₃ F₅ F₅ s₅ s₆ := t₆.mtLe fun x hx => .inl (wk x hx)
    obtain ⟨AsI₆, agI₆⟩ := c₅.ai.tr t₆'
    obtain ⟨As₆, ag₆⟩ := c₅.as.tr t₆
    have c₆ : CS g env own a fp μ₀ F₀ s₀ ρ₆ μ₃ acc₃ F₅ s₆ := ⟨c₅.tt.trans t₆', G₆, Fs₆, As₆, c₅.ac.mono (fun o e => ag₆ a (.head _) o e) (fun _ _ e => e), AsI₆⟩
    refine wpAny_bind (wpAny_mono (wt_ifs ok ifs h₆ G₆ Fs₆) ?_ fun _ _ x => x)
    rintro ok₇ s₇ ⟨μ₇, F₇, t₇, G₇, h₇⟩
    obtain ⟨c₇, ag₇⟩ := c₆.tr t₇ G₇
    exact hcons acc₃ ok₇ s₇ ⟨ds', ρ₆, μ₇, F₇, hk, c₇, It₅.move (fun b hb o e => ag₇ b hb o (agI₆ b hb o e)) t₇.le, h₇⟩

/-- the list gets one more -/
theorem CS.push {ρ acc F s h' k' d v} {vs : Array Value} (c : CS g env own a fp μ₀ F₀ s₀ ρ μ acc F s) (ea : ∃ o, s.heap.get? a = some o ∧ ∀ es ep, o.data ≠ .dict es ep) (sa : SeesAll F vs.toList acc) (sv : Sees F v d)
    (eh : h'.get? a = some { cls := .type "list", dict := Option.none, data := .seq (vs.push v) k', slots := #[] }) (sb : Heap.SameBut a s.heap h') : CS g env own a fp μ₀ F₀ s₀ ρ μ (acc ++ [d]) F { s with heap := h' } ∧ Agree fp s.heap h' := by
  have G₉ : GSt g μ F h' := c.gs.at sb (c.as.F a (.head _)) (c.as.mu a (.head _)) (c.as.tab a (.head _)) fun x hx hf => by
    obtain ⟨m, o2, _, _, e2, d2, _⟩ := c.gs.stkNs hx hf; obtain ⟨o, eo, hno⟩ := ea; rw [eo] at e2; cases e2; exact (hno _ _ d2).elim
  have t₉ : Tr g (a :: own) μ μ F F s { s with heap := h' } := ⟨fun b o e h1 _ _ => ⟨o, (sb.2 b (fun z => h1 (z ▸ .head _))).trans e, .refl o⟩, fun b o e => by
    by_cases hb : b = a
    · rw [hb]; exact ⟨_, eh⟩
    · exact ⟨o, (sb.2 b hb).trans e⟩, fun _ _ e => e, (Tr.refl (g := g) (mt := []) (μ := μ) (s := s)).fr, fun _ q => .inl q, rfl, rfl⟩
  have Fs₉ : FSt env own ρ μ F h' := by
    have hl : ∀ o, s.heap.get? env.locals = some o → h'.get? env.locals = some o := fun o e => (sb.2 _ fun z => c.as.own a (.head _) (z ▸ c.fs.ok.lown)).trans e
    have hc : ∀ p ∈ env.cells, ∀ o, s.heap.get? p.2 = some o → h'.get? p.2 = some o := fun p hp o e => (sb.2 _ (c.as.cells a (.head _) p hp)).trans e
    refine ⟨c.fs.ok, ?_, fun x d e => ?_, fun p hp => ?_, c.fs.ownF, fun b hb => ?_, c.fs.muo⟩
    · obtain ⟨mm, o, es, ep, e, r⟩ := c.fs.ns; exact ⟨mm, o, es, ep, hl o e, r⟩
    · obtain ⟨v, hv, hs⟩ := c.fs.vars x d e; exact ⟨v, hv.keeps hl hc, hs⟩
    · obtain ⟨v, o, e, d⟩ := c.fs.cells p hp; exact ⟨v, o, hc p hp o e, d⟩
    · obtain ⟨o, e⟩ := c.fs.live b hb; exact t₉.live b o e
  obtain ⟨AsI₉, agI₉⟩ : Aside g env (a :: own) μ F fp h' ∧ Agree fp s.heap h' := c.ai.tr t₉
  exact ⟨⟨c.tt.trans t₉, G₉, Fs₉, ⟨c.as.F, c.as.own, c.as.mu, c.as.tab, fun b hb => by rw [List.mem_singleton.mp hb]; exact ⟨_, eh, nnsq rfl⟩, c.as.cells⟩, ⟨_, k', eh, by simpa using sa.append (.cons sv .nil)⟩, AsI₉⟩, agI₉⟩

theorem comp_loop (hgens : ∀ x ∈ gens, GenOk x) (hn : 4 ≤ n) (m : Nat) : ∀ (d : Nat) {tgt iter : Expr} {ifs : List Expr} {rest : List Comprehension}, rest.length = m → gens.drop d = ⟨tgt, iter, ifs, 0⟩ :: rest →
    ∀ {A : Around}, Ok g n A → ∀ {ds it fp ρ μ accD K F s s₀ μ₀ F₀}, CS g env own a fp μ₀ F₀ s₀ ρ μ accD F s →
    (∀ b ∈ fp, s₀.heap.get? b = none) → Iter g tgt it fp ds F s.heap → CL g env own n elt rest tgt ifs K ds ρ μ accD →
    codeAny (model g.prog g.w) A (.compLoop (.ListComp elt gens scope pos) d it (.ref a) env) (CPost g env own a μ₀ F₀ s₀ K) s := by
  induction m using Nat.strongRecOn with
  | ind m ihm =>
  intro d tgt iter ifs rest hm hd A ok ds it fp ρ μ accD K F s s₀ μ₀ F₀ c hfp It hC
  have hg : gens[d]? = some ⟨tgt, iter, ifs, 0⟩ := (drop_cons hd).1
  have hdrop : gens.drop (d + 1) = rest := (drop_cons hd).2
  refine codeAny_loop rfl (CI g env own n elt rest tgt ifs it a fp μ₀ F₀ s₀ K) ?_ ds.length ⟨ds, accD, ρ, μ, F, rfl, c, It, hC⟩
  intro k s₃ i
  show wpAny _ A ((compTurn (.ListComp elt gens scope pos) d it (.ref a) env).onRaise (fun x => do noteFrame x env; theTreesLotGoes x)) _ _ s₃
  refine wpAny_noted (notedF ?_)
  cases rest with
  | nil =>
    rw [compTurn_last hg (List.getElem?_eq_none_iff.mpr (List.drop_eq_nil_iff.mp hdrop))]
    refine comp_turn hn ok hfp i (fun s₄ h => h) ?_
    rintro acc₇ ok₇ s₇ ⟨ds', ρ₇, μ₇, F₇, hk, c₇, It₇, h₇⟩
    cases ok₇ with
    | false => exact wpAny_pure ⟨rfl, CI.of c₇ It₇ (h₇.2 rfl) hk⟩
    | true =>
      obtain ⟨hz, hev⟩ := h₇.1 rfl
      refine wpAny_bind (wpAny_bind (wp_seq hev ok c₇.gs c₇.fs fun v dd μ₈ F₈ s₈ t₈ G₈ Fs₈ sv hL => ?_))
      obtain ⟨c₈, ag₈⟩ := c₇.tr t₈ G₈
      obtain ⟨vs, kk, ea, sa⟩ := c₈.ac
      refine wpAny_bind (call_append ea (fun h' k' eh sb => wpAny_pure (wpAny_pure ⟨rfl, ?_⟩)) (by have := sa.size; unfold sizeLine; lia))
      obtain ⟨c₉, ag₉⟩ := c₈.push ⟨_, ea, fun _ _ z => nomatch z⟩ sa sv eh sb
      exact CI.of c₉ (It₇.move (fun b hb o e => ag₉ b hb o (ag₈ b hb o e)) t₈.le) hL hk
  | cons g' rest' =>
    obtain ⟨t', i', f', as'⟩ := g'
    obtain ⟨ha0, hfold⟩ := hgens ⟨t', i', f', as'⟩ (List.mem_of_mem_drop (i := d + 1) (by rw [hdrop]; exact .head _))
    simp only at ha0 hfold
    subst ha0
    have hnx : gens[d + 1]? = some ⟨t', i', f', 0⟩ := (drop_cons hdrop).1
    rw [compTurn_mid hg hnx]
    refine comp_turn hn ok hfp i (fun s₄ h => h) ?_
    rintro acc₇ ok₇ s₇ ⟨ds', ρ₇, μ₇, F₇, hk, c₇, It₇, h₇⟩
    cases ok₇ with
    | false => exact wpAny_pure ⟨rfl, CI.of c₇ It₇ (h₇.2 rfl) hk⟩
    | true =>
      refine wpAny_bind (wpAny_mono (h₇.1 rfl A F₇ s₇ ok c₇.gs c₇.fs) (fun x s₈ h₈ => wpAny_bind (wpAny_standAt (wpAny_bind (wpAny_of_eq (hfold env x) (wpAny_bind (wpAny_holding (wpAny_mono h₈ ?_ fun _ _ x => x))))))) fun _ _ x => x)
      rintro it₉ s₉ ⟨ds₉, μ₉, F₉, fp₉, t₉, G₉, AsI₉, hfp₉, It₉, self₉, hL₉⟩
      obtain ⟨c₉, _⟩ := c₇.tr t₉ G₉
      have AsI₉' : Aside g env (a :: own) μ₉ F₉ fp₉ s₉.heap := ⟨AsI₉.F, fun b hb q => by
        cases q with
        | head => obtain ⟨o, e⟩ := c₇.liveA; rw [hfp₉ a hb] at e; cases e
        | tail _ q => exact AsI₉.own b hb q, AsI₉.mu, AsI₉.tab, AsI₉.live, AsI₉.cells⟩
      have c₁ : CS g env own a fp₉ μ₇ F₇ s₇ ρ₇ μ₉ acc₇ F₉ s₉ := ⟨t₉.toOwn, G₉, c₉.fs, c₉.as, c₉.ac, AsI₉'⟩
      refine wpAny_bind (wpAny_runOwn (A := A) (h := none) ?_)
      rw [mark_none]
      have loop : ∀ {s₉' : Shared}, s₉'.heap = s₉.heap → s₉'.os = s₉.os → s₉'.gens = s₉.gens → codeAny (model g.prog g.w) A (.compLoop (.ListComp elt gens scope pos) (d + 1) it₉ (.ref a) env) (CPost g env own a μ₇ F₇ s₇ fun acc' ρ₂ μ₂ => CL g env own n elt (⟨t', i', f', 0⟩ :: rest') tgt ifs K ds' ρ₂ μ₂ acc') s₉' := by
        intro s₉' e1 e2 e3
        exact ihm rest'.length (by simp at hm; lia) (d + 1) rfl hdrop ok (c₁.same e1 e2 e3) hfp₉ (by rw [e1]; exact It₉) hL₉
      refine codeAny_mono (comp_start hnx (loop rfl rfl rfl) (notedF (wpAny_mono (self₉ A s₉ (ok.le hn) (fun _ _ _ e => e) G₉.fz) (fun it'' s'' ⟨e1, e2, e3, e4⟩ => by subst e1; exact loop e2 e3 e4) fun _ _ x => x))) ?_
      rintro r s₁₀ ⟨acc', ρ', μ', F', rfl, t₁₀, G₁₀, Fs₁₀, As₁₀, Acc₁₀, hL₁₀⟩
      obtain ⟨AsI₁₀, agI₁₀⟩ := c₇.ai.tr t₁₀
      exact wpAny_pure ⟨rfl, CI.of ⟨c₇.tt.trans t₁₀, G₁₀, Fs₁₀, As₁₀, Acc₁₀, AsI₁₀⟩ (It₇.move agI₁₀ t₁₀.le) hL₁₀ hk⟩
end
end

open PySem PySem.W PySem.Calls PyProof.Rows
set_option maxRecDepth 20000
section
variable {g : G} {env : Env} {own : List Addr} {n : Nat} {ρ : Str → Option D} {μ : Mu}

def closGo (cells : List (Str × Addr)) : List (Str × NameKind) → List (Str × Addr) → List (Str × Addr)
  | [], acc => acc
  | (x, k) :: r, acc => if k == .free then closGo cells r ((x, (cells.lookup x).getD 0) :: acc) else closGo cells r acc
/-- the names that a block takes from around it are cells of env's -/
def freeOk (env : Env) (scope : Scope) : Bool := scope.names.all fun y => !(y.2 == .free) || ((env.cells.lookup y.1).isSome && !(env.kindOf y.1 == some .local))

theorem closGo_eq (env : Env) : ∀ (names : List (Str × NameKind)) (acc : List (Str × Addr)), (names.all fun y => !(y.2 == .free) || ((env.cells.lookup y.1).isSome && !(env.kindOf y.1 == some .local))) = true →
    (forIn names acc fun (p : Str × NameKind) cs => if (p.2 == .free) = true then (do let c ← cellOf env p.1; pure (ForInStep.yield ((p.1, c) :: cs))) else pure (ForInStep.yield cs) : Sem (List (Str × Addr))) = pure (closGo env.cells names acc)
  | [], acc, _ => rfl
  | (x, k) :: r, acc, h => by
    simp only [List.all_cons, Bool.and_eq_true] at h
    rw [List.forIn_cons]
    unfold closGo
    by_cases hk : (k == NameKind.free) = true
    · have h1 := h.1
      simp only [hk, Bool.not_true, Bool.false_or, Bool.and_eq_true] at h1
      obtain ⟨c, hc⟩ := Option.isSome_iff_exists.mp h1.1
      simp only [hk, if_true]
      unfold cellOf
      rw [hc]
      exact closGo_eq env r _ h.2
    · simp only [hk]
      exact closGo_eq env r _ h.2
theorem closureFor_eq {scope : Scope} (h : freeOk env scope = true) : closureFor scope env = pure (closGo env.cells scope.names []) := by
  unfold closureFor
  have := closGo_eq env scope.names [] h
  refine Eq.trans ?_ ((congrArg (fun m : Sem (List (Str × Addr)) => m >>= fun cs => pure cs) this).trans rfl)
  rfl

/-- what a block sees of the names around it -/
def restr (scope : Scope) (ρ : Str → Option D) : Str → Option D := fun x => if scope.names.lookup x = some .free then ρ x else Option.none
theorem restr_get {scope : Scope} {x : Str} {d} (h : scope.names.lookup x = some .free) (k : ρ x = some d) : restr scope ρ x = some d := by unfold restr; rw [if_pos h]; exact k

set_option tactic.hygienic true in
theorem closGo_mem {cells : List (Str × Addr)} : ∀ (names : List (Str × NameKind)) (acc : List (Str × Addr)) {p}, p ∈ closGo cells names acc → p ∈ acc ∨ ((p.1, NameKind.free) ∈ names ∧ p.2 = (cells.lookup p.1).getD 0)
  | [], acc, p, h => .inl h
  | (x, k) :: r, acc, p, h => by
    unfold closGo at h
    split at h
    · rename_i hk
      have hk : k = .free := by simpa using hk
      subst hk
      rcases closGo_mem r _ h with q | ⟨q1, q2⟩
      · cases q with
        | head => exact .inr ⟨.head _, rfl⟩
        | tail _ q => exact .inl q
      · exact .inr ⟨.tail _ q1, q2⟩
    · rcases closGo_mem r _ h with q | ⟨q1, q2⟩
      · exact .inl q
      · exact .inr ⟨.tail _ q1, q2⟩
theorem closGo_look {cells : List (Str × Addr)} : ∀ (names : List (Str × NameKind)) (acc : List (Str × Addr)) {x : Str}, (names.map (·.1)).Nodup → (x, NameKind.free) ∈ names → (closGo cells names acc).lookup x = some ((cells.lookup x).getD 0) := by
  have other : ∀ (names : List (Str × NameKind)) (acc : List (Str × Addr)) {x : Str}, x ∉ names.map (·.1) → (closGo cells names acc).lookup x = acc.lookup x := by
    intro names
    induction names with
    | nil => intro acc x _; rfl
    | cons p r ih =>
      intro acc x hx
      obtain ⟨y, k⟩ := p
      simp only [List.map_cons, List.mem_cons, not_or] at hx
      unfold closGo
      split
      · rw [ih _ hx.2, List.lookup_cons, beq_eq_false_iff_ne.mpr hx.1]
      · exact ih _ hx.2
  intro names
  induction names with
  | nil => intro acc x _ h; cases h
  | cons p r ih =>
    intro acc x hn h
    obtain ⟨y, k⟩ := p
    simp only [List.map_cons, List.nodup_cons] at hn
    unfold closGo
    cases h with
    | head => rw [if_pos (by rfl), other _ _ hn.1, List.lookup_cons]; simp
    | tail _ h => split <;> exact ih _ hn.2 h
set_option tactic.hygienic true in
theorem closGo_nodup {cells : List (Str × Addr)} (hc : (cells.map (·.2)).Nodup) : ∀ (names : List (Str × NameKind)) (acc : List (Str × Addr)), (names.map (·.1)).Nodup → (∀ y ∈ names, y.2 = .free → (cells.lookup y.1).isSome = true) →
    (acc.map (·.2)).Nodup → (∀ p ∈ acc, p.1 ∉ names.map (·.1) ∧ p ∈ cells) → ((closGo cells names acc).map (·.2)).Nodup
  | [], acc, _, _, h, _ => h
  | (x, k) :: r, acc, hn, hs, h, ha => by
    simp only [List.map_cons, List.nodup_cons] at hn
    unfold closGo
    split
    · rename_i hk
      obtain ⟨c, hcx⟩ := Option.isSome_iff_exists.mp (hs (x, k) (.head _) (by simpa using hk))
      refine closGo_nodup hc r _ hn.2 (fun y hy => hs y (.tail _ hy)) ?_ ?_
      · simp only [List.map_cons, List.nodup_cons]
        refine ⟨fun q => ?_, h⟩
        obtain ⟨p, hp, e⟩ := List.mem_map.mp q
        obtain ⟨h1, h2⟩ := ha p hp
        rw [hcx, Option.getD_some] at e
        have : p.1 = x := nodup_snd hc (show (p.1, c) ∈ cells from e ▸ h2) (lookup_mem hcx)
        exact h1 (this ▸ .head _)
      · intro p hp
        cases hp with
        | head => exact ⟨hn.1, by rw [hcx]; exact lookup_mem hcx⟩
        | tail _ hp => exact ⟨fun q => (ha p hp).1 (.tail _ q), (ha p hp).2⟩
    · exact closGo_nodup hc r _ hn.2 (fun y hy => hs y (.tail _ hy)) h fun p hp => ⟨fun q => (ha p hp).1 (.tail _ q), (ha p hp).2⟩

theorem lookup_of_nodup {α : Type} {l : List (Str × α)} (hn : (l.map (·.1)).Nodup) {x : Str} {k : α} (h : (x, k) ∈ l) : l.lookup x = some k := by
  induction l with
  | nil => cases h
  | cons p r ih =>
    obtain ⟨y, c⟩ := p
    simp only [List.map_cons, List.nodup_cons] at hn
    rw [List.lookup_cons]
    cases h with
    | head => simp
    | tail _ h =>
      have : x ≠ y := fun e => hn.1 (e ▸ List.mem_map.mpr ⟨_, h, rfl⟩)
      rw [beq_eq_false_iff_ne.mpr this]; exact ih hn.2 h
theorem relabel_free {scope : Scope} {x : Str} : scope.names.lookup x = some .free → (relabel scope env).names.lookup x = some .cell ∨ (relabel scope env).names.lookup x = some .free := by
  unfold relabel
  dsimp only
  generalize scope.names = names
  intro h
  induction names with
  | nil => simp at h
  | cons p r ih =>
    obtain ⟨y, k⟩ := p
    rw [List.map_cons]
    rw [List.lookup_cons] at h
    cases hy : x == y with
    | true =>
      rw [hy] at h; cases h
      by_cases hc : ((NameKind.free == NameKind.free) && env.scope.kind == .function && env.kindOf y == some .cell) = true
      · rw [if_pos hc, List.lookup_cons, hy]; exact .inl rfl
      · rw [if_neg hc, List.lookup_cons, hy]; exact .inr rfl
    | false =>
      rw [hy] at h
      by_cases hc : ((k == NameKind.free) && env.scope.kind == .function && env.kindOf y == some .cell) = true
      · rw [if_pos hc, List.lookup_cons, hy]; exact ih h
      · rw [if_neg hc, List.lookup_cons, hy]; exact ih h

theorem freeOk_get {scope : Scope} (hf : freeOk env scope = true) {x : Str} (h : (x, NameKind.free) ∈ scope.names) : (∃ c, env.cells.lookup x = some c) ∧ env.kindOf x ≠ some .local := by
  have := List.all_eq_true.mp hf _ h
  simp only [beq_self_eq_true, Bool.not_true, Bool.false_or, Bool.and_eq_true, Bool.not_eq_true', beq_eq_false_iff_ne] at this
  exact ⟨Option.isSome_iff_exists.mp this.1, this.2⟩

set_option tactic.hygienic true in
/-- the frame of a block within a frame: its own names, the cells that it takes -/
theorem FSt.block {cenv : Env} {C : Addr} {scope : Scope} {F : FM} {h h' : Heap} (Fs : FSt env own ρ μ F h) (G : GSt g μ F h') (hf : freeOk env scope = true) (hnd : (scope.names.map (·.1)).Nodup)
    (hk : cenv.scope.kind = .function) (hgl : cenv.globals = mainGlobals) (hbl : cenv.builtins = builtinsNs) (hloc : cenv.locals = C) (hcl : cenv.cells = closGo env.cells scope.names [])
    (hkd : ∀ x, scope.names.lookup x = some .free → cenv.kindOf x = some .cell ∨ cenv.kindOf x = some .free)
    (hC : h.get? C = none) (hns : ∃ m, h'.Ns C m) (e : ∀ b o, h.get? b = some o → h'.get? b = some o) (hFC : F C = none) (hmC : C ∉ μ.dom) : FSt cenv [C] (restr scope ρ) μ F h' := by
  have hlk : ∀ x c, (x, c) ∈ closGo env.cells scope.names [] → (x, NameKind.free) ∈ scope.names ∧ env.cells.lookup x = some c := fun x c hm => by
    rcases closGo_mem _ _ hm with q | ⟨q1, q2⟩
    · cases q
    · obtain ⟨⟨c', hc'⟩, _⟩ := freeOk_get hf q1
      have q2 : c = (env.cells.lookup x).getD 0 := q2
      rw [hc', Option.getD_some] at q2
      exact ⟨q1, q2 ▸ hc'⟩
  refine ⟨⟨hk, hgl, hbl, by rw [hloc]; exact .head _, ?_⟩, by rw [hloc]; exact hns, fun x d hx => ?_, fun p hp => ?_, fun a ha => by rw [List.mem_singleton.mp ha]; exact hFC, fun a ha => ?_, fun a ha => by rw [List.mem_singleton.mp ha]; exact hmC⟩
  · rw [hcl]
    exact closGo_nodup Fs.ok.cnd _ _ hnd (fun y hy hk => by obtain ⟨⟨c, hc⟩, _⟩ := freeOk_get hf (x := y.1) (by rw [← hk]; exact hy); rw [hc]; rfl) (by simp) (fun _ h => nomatch h)
  · unfold restr at hx
    split at hx
    · rename_i hfr
      obtain ⟨v, hv, sv⟩ := Fs.vars x d hx
      have hmem := lookup_mem hfr
      obtain ⟨⟨c, hc⟩, hnl⟩ := freeOk_get hf hmem
      refine ⟨v, .inr ⟨hkd x hfr, c, ?_, ?_⟩, sv⟩
      · rw [hcl, closGo_look _ _ hnd hmem, hc]; rfl
      · rcases hv with ⟨hk, _⟩ | ⟨_, c', hc', hcell⟩
        · exact absurd hk hnl
        · rw [hc] at hc'; cases hc'; exact hcell.keeps e
    · cases hx
  · rw [hcl] at hp
    obtain ⟨x, c⟩ := p
    obtain ⟨_, hc⟩ := hlk x c hp
    obtain ⟨v, hv⟩ := Fs.cells _ (lookup_mem hc)
    exact ⟨v, hv.keeps e⟩
  · rw [List.mem_singleton.mp ha]; obtain ⟨m, o, _, _, eo, _⟩ := hns; exact ⟨o, eo⟩

theorem GSt.freeze {F h a o} (G : GSt g μ F h) (e : h.get? a = some o) (hF : F a = none) (hm : a ∉ μ.dom) (ht : a ∉ g.tabDom) (hns : ∀ es ep, o.data ≠ .dict es ep) : GSt g μ (put F a o) h := by
  have hle := put_le (o := o) hF
  refine ⟨fun b x q => hle _ _ (G.base b x q), fun b x q => ?_, fun q hq => ?_, fun p hp => ?_, G.nd, fun c hc => (by obtain ⟨o, e⟩ := G.fzc c hc; exact ⟨o, hle _ _ e⟩), G.dj, fun x hx => ?_⟩
  rotate_right
  · obtain ⟨hk', L, m, hf, hn, hF', hm'⟩ := G.stk x hx
    refine ⟨hk', L, m, hf, hn, ?_, hm'⟩
    obtain ⟨o', es, ep, ho, hd, r⟩ := hn
    rw [put_ne (fun z : L = a => by rw [z, e] at ho; cases ho; exact hns _ _ hd)]; exact hF'
  · by_cases hb : b = a
    · subst hb; rw [put_same] at q; cases q; exact e
    · rw [put_ne hb] at q; exact G.fz _ _ q
  · obtain ⟨x, ps, b, c, d⟩ := G.tb q hq
    refine ⟨by rw [put_ne (fun z : q.2.1 = a => ht (z ▸ List.mem_map.mpr ⟨q, hq, rfl⟩))]; exact x, ps, b, c, fun pos cv z => (d pos cv z).mono hle⟩
  · obtain ⟨x, b⟩ := G.mu p hp
    exact ⟨by rw [put_ne (fun z : p.1 = a => hm (z ▸ List.mem_map.mpr ⟨p, hp, rfl⟩))]; exact x, b.move hle fun _ q => q⟩

structure CompOk (env : Env) (scope : Scope) (gens : List Comprehension) : Prop where
  free : freeOk env scope = true
  nd : (scope.names.map (·.1)).Nodup
  kind : scope.kind = .function
  nocell : ∀ y ∈ scope.names, y.2 ≠ .cell
  gens : ∀ x ∈ gens, GenOk x

theorem comp_core {elt tgt iter : Expr} {ifs : List Expr} {rest : List Comprehension} {scope : Scope} {pos : Pos} {A : Around} {F s} {use : Option (Value → Sem Unit)} {P : Value → Shared → Prop} {Q : List D → Mu → Prop} (hn : 4 ≤ n)
    (ck : CompOk env scope (⟨tgt, iter, ifs, 0⟩ :: rest)) (ok : Ok g n A) (G : GSt g μ F s.heap) (Fs : FSt env own ρ μ F s.heap)
    (h : EvI g env own n ρ μ tgt iter fun ds μ₁ => ∀ cenv C, cenv = compEnvC scope (closGo env.cells scope.names []) C env →
      CompL g cenv [C] n (CompG g cenv [C] n elt rest) tgt ifs ds (restr scope ρ) μ₁ [] fun acc _ μ' => Q acc μ')
    (fin : ∀ a C s' accD μ' F', Tr g [] μ μ' F F' s s' → GSt g μ' F' s'.heap → FSt env own ρ μ' F' s'.heap → Sees F' (.ref a) (.lst accD) → (∃ m, s'.heap.Ns C m) → s.heap.get? C = none → F' C = none → C ∉ μ'.dom → C ∉ g.tabDom → Q accD μ' →
      compPost (model g.prog g.w) A (fun _ _ => False) use P (.ref a) C (.ok .next) s') :
    wpAny (model g.prog g.w) A (comprehension (.ListComp elt (⟨tgt, iter, ifs, 0⟩ :: rest) scope pos) scope env (firstIterPos (⟨tgt, iter, ifs, 0⟩ :: rest) pos) (newList []) false (firstIter (⟨tgt, iter, ifs, 0⟩ :: rest) env) use) P (fun _ _ => False) s := by
  refine wpAny_comprehension_free (g := ⟨tgt, iter, ifs, 0⟩) (gs := rest) rfl (fun x => (ck.gens _ (.head _)).2 env x) (closureFor_eq ck.free) ck.kind (fun x hx hl => lookup_of_nodup ck.nd (by rw [← hl]; exact hx)) ?_
  show wpAny _ _ (eval iter env) _ _ _
  refine wpAny_mono (h A F s ok G Fs) (fun x s₁ h₁ => wpAny_mono h₁ ?_ fun _ _ x => x) fun _ _ x => x
  rintro it s₂ ⟨ds, μ₂, F₂, fp, t₂, G₂, AsI, hfp, It, self, hC⟩
  have Fs₂ := Fs.tr G t₂ G₂
  refine wpAny_newObj_type (wpAny_newFunctionEnv ck.nocell (fun x hx => nomatch hx) (fun h₃ hns hsb => ?_) ck.kind)
  dsimp only at hns hsb ⊢
  have hz : (s₂.heap.push (listObj ([] : List Value).toArray)).objs.size = s₂.heap.objs.size + 1 := Heap.size_push ..
  -- a: the list; C: the block's names
  have ea : (s₂.heap.push (listObj ([] : List Value).toArray)).get? s₂.heap.objs.size = some (listObj ([] : List Value).toArray) := Heap.get?_push_size _ rfl
  generalize hH : s₂.heap.push (listObj ([] : List Value).toArray) = H at hns hsb hz ea
  have keepH : ∀ b o, s₂.heap.get? b = some o → H.get? b = some o := fun b o e => by rw [← hH]; exact Heap.get?_push_of_some _ e
  generalize hCC : H.objs.size = C at hns hsb hz
  have haC : s₂.heap.objs.size ≠ C := by rw [hz]; exact Nat.ne_of_lt (Nat.lt_succ_self _)
  have fr2 : ∀ b, s₂.heap.objs.size ≤ b → s₂.heap.get? b = none := fun b hb => by
    cases q : s₂.heap.get? b with
    | none => rfl
    | some o => exact absurd (Heap.lt_size q) (Nat.not_lt.mpr hb)
  have fC : s₂.heap.get? C = none := fr2 C (by rw [hz]; exact Nat.le_succ _)
  have keep3 : ∀ b o, s₂.heap.get? b = some o → h₃.get? b = some o := fun b o e => hsb.extBut b o (fun z => by rw [z, fC] at e; cases e) (Heap.get?_push_of_some _ (keepH b o e))
  have ea3 : h₃.get? s₂.heap.objs.size = some (listObj ([] : List Value).toArray) := hsb.extBut _ _ haC (Heap.get?_push_of_some _ ea)
  have G₃ : GSt g μ₂ F₂ h₃ := G₂.ext keep3
  have fa := G₂.fresh (fr2 _ (Nat.le_refl _))
  have fCf := G₂.fresh fC
  have hcell2 : ∀ b, s₂.heap.get? b = none → ∀ p ∈ (closGo env.cells scope.names []), p.2 ≠ b := fun b hb p hp q => by
    obtain ⟨x, c⟩ := p
    rcases closGo_mem _ _ hp with k | ⟨k1, k2⟩
    · cases k
    · obtain ⟨⟨c', hc'⟩, _⟩ := freeOk_get ck.free k1
      have k2 : c = (env.cells.lookup x).getD 0 := k2
      rw [hc', Option.getD_some] at k2
      obtain ⟨v, o, e, _⟩ := Fs₂.cells _ (lookup_mem hc')
      have q : c = b := q
      rw [← k2, q, hb] at e; cases e
  let cenv := compEnvC scope (closGo env.cells scope.names []) C env
  have Fs₃ : FSt cenv [C] (restr scope ρ) μ₂ F₂ h₃ := Fs₂.block G₃ ck.free ck.nd ck.kind Fs.ok.glob Fs.ok.blt rfl rfl (fun x hx => relabel_free hx) fC ⟨_, hns⟩ keep3 fCf.1 fCf.2.1
  have aC : s₂.heap.objs.size ∉ [C] := fun q => haC (List.mem_singleton.mp q)
  have As₃ : Aside g cenv [C] μ₂ F₂ [s₂.heap.objs.size] h₃ := by
    refine ⟨fun b hb => ?_, fun b hb => ?_, fun b hb => ?_, fun b hb => ?_, fun b hb => ?_, fun b hb => ?_⟩ <;> rw [List.mem_singleton.mp hb]
    · exact fa.1
    · exact aC
    · exact fa.2.1
    · exact fa.2.2
    · exact ⟨_, ea3, nnsq rfl⟩
    · exact hcell2 _ (fr2 _ (Nat.le_refl _))
  have AsI₃ : Aside g cenv (s₂.heap.objs.size :: [C]) μ₂ F₂ fp h₃ := by
    refine ⟨AsI.F, fun b hb q => ?_, AsI.mu, AsI.tab, fun b hb => (by obtain ⟨o, e, h⟩ := AsI.live b hb; exact ⟨o, keep3 _ _ e, h⟩), fun b hb p hp q => ?_⟩
    · obtain ⟨o, e, _⟩ := AsI.live b hb
      simp only [List.mem_cons, List.not_mem_nil, or_false] at q
      rcases q with rfl | rfl
      · rw [fr2 _ (Nat.le_refl _)] at e; cases e
      · rw [fC] at e; cases e
    · obtain ⟨x, c⟩ := p
      rcases closGo_mem _ _ hp with k | ⟨k1, k2⟩
      · cases k
      · obtain ⟨⟨c', hc'⟩, _⟩ := freeOk_get ck.free k1
        have k2 : c = (env.cells.lookup x).getD 0 := k2
        rw [hc', Option.getD_some] at k2
        exact AsI.cells b hb _ (lookup_mem hc') (by rw [← k2]; exact q)
  have t₃ : Tr g (s₂.heap.objs.size :: [C]) μ₂ μ₂ F₂ F₂ s₂ { s₂ with heap := h₃, toks := s₂.toks + 0 } := Tr.of_ext keep3 rfl rfl
  have hgens : ∀ x ∈ (⟨tgt, iter, ifs, 0⟩ :: rest : List Comprehension), GenOk x := ck.gens
  have t₂' : Tr g (s₂.heap.objs.size :: [C]) μ μ₂ F F₂ s s₂ := t₂.toOwn
  have loop : ∀ {s₉ : Shared}, s₉.heap = h₃ → s₉.os = s₂.os → s₉.gens = s₂.gens → codeAny (model g.prog g.w) A (.compLoop (.ListComp elt (⟨tgt, iter, ifs, 0⟩ :: rest) scope pos) 0 it (.ref s₂.heap.objs.size) cenv)
      (CPost g cenv [C] s₂.heap.objs.size μ F s fun acc _ μ' => Q acc μ') s₉ := by
    intro s₉ e1 e2 e3
    refine comp_loop (pos := pos) (scope := scope) hgens hn rest.length 0 rfl rfl ok ⟨t₂'.trans (Tr.of_ext (fun b o e => by rw [e1]; exact keep3 b o e) e2 e3), by rw [e1]; exact G₃, by rw [e1]; exact Fs₃, by rw [e1]; exact As₃, by rw [e1]; exact ⟨_, 0, ea3, .nil⟩, by rw [e1]; exact AsI₃⟩ hfp
      (by rw [e1]; exact It.move (fun b hb o e => keep3 b o e) (fun _ _ e => e)) (hC cenv C rfl)
  refine codeAny_mono (comp_start rfl (loop rfl rfl rfl) (notedF (wpAny_mono (self A _ (ok.le hn) (fun b hb o e => keep3 b o e) (fun b o e => keep3 _ _ (G₂.fz _ _ e))) (fun it'' s'' ⟨e1, e2, e3, e4⟩ => by subst e1; exact loop e2 e3 e4) fun _ _ x => x))) ?_
  rintro r s' ⟨accD, ρ', μ', F', rfl, t', G', Fs', As', ⟨vs, k, eo, sa⟩, hQ⟩
  have hle := put_le (o := { cls := .type "list", dict := Option.none, data := .seq vs k, slots := #[] }) (As'.F _ (.head _))
  have frs : ∀ b, s₂.heap.get? b = none → s.heap.get? b = none := fun b hb => fresh_back t₂ hb
  have T : Tr g [] μ μ' F F' s s' := t'.mtLe fun b hb => .inr (by
    simp only [List.mem_cons, List.not_mem_nil, or_false] at hb
    rcases hb with rfl | rfl
    · exact frs _ (fr2 _ (Nat.le_refl _))
    · exact frs _ fC)
  have T2 : Tr g [] μ μ' F (put F' s₂.heap.objs.size { cls := .type "list", dict := Option.none, data := .seq vs k, slots := #[] }) s s' := { T with
    le := fun b o e => hle _ _ (T.le b o e)
    fr := fun b => by
      by_cases hb : b = s₂.heap.objs.size
      · subst hb; exact .inr (.inr (.inr (frs _ (fr2 _ (Nat.le_refl _)))))
      · rw [put_ne hb]; exact T.fr b }
  have G'' := G'.freeze eo (As'.F _ (.head _)) (As'.mu _ (.head _)) (As'.tab _ (.head _)) (fun _ _ z => nomatch z)
  have Fend : FSt env own ρ μ' _ s'.heap := Fs.tr G T2 G''
  have hCl : C ∈ [C] := .head _
  refine fin _ C s' accD μ' _ T2 G'' Fend (.lst put_same (sa.mono hle)) Fs'.ns (frs _ fC) ?_ (Fs'.muo C hCl) (by obtain ⟨m, hm⟩ := Fs'.ns; exact G'.nsTab hm) hQ
  rw [put_ne (Ne.symm haC)]
  exact Fs'.ownF C hCl

theorem Ev.comp {elt tgt iter : Expr} {ifs : List Expr} {rest : List Comprehension} {scope : Scope} {pos : Pos} {Q : D → Mu → Prop} (hn : 4 ≤ n) (ck : CompOk env scope (⟨tgt, iter, ifs, 0⟩ :: rest))
    (h : EvI g env own n ρ μ tgt iter fun ds μ₁ => ∀ cenv C, cenv = compEnvC scope (closGo env.cells scope.names []) C env →
      CompL g cenv [C] n (CompG g cenv [C] n elt rest) tgt ifs ds (restr scope ρ) μ₁ [] fun acc _ μ' => Q (.lst acc) μ') :
    Ev g env own n ρ μ (.ListComp elt (⟨tgt, iter, ifs, 0⟩ :: rest) scope pos) Q := fun A F s ok G Fs => by
  rw [eval_ListComp]
  refine comp_core (Q := fun acc μ' => Q (.lst acc) μ') hn ck ok G Fs h fun a C s' accD μ' F' t G' Fs' sv hns hC hFC hmC htC hQ => ?_
  obtain ⟨m, hm⟩ := hns
  refine ⟨m, hm, fun h' sb => ?_⟩
  have T : Tr g [] μ μ' F F' s { s' with heap := h' } := { t with
    ext := fun b o e h1 h2 h3 => (by obtain ⟨o', e', u⟩ := t.ext b o e h1 h2 h3; exact ⟨o', (sb.2 b (fun z => by rw [z, hC] at e; cases e)).trans e', u⟩)
    live := fun b o e => (by obtain ⟨o', e'⟩ := t.live b o e; exact ⟨o', (sb.2 b (fun z => by rw [z, hC] at e; cases e)).trans e'⟩ )}
  exact ⟨_, μ', F', T, G'.at sb hFC hmC htC (fun x hx hf => by obtain ⟨_, _, _, _, e, _⟩ := G.stkNs hx hf; rw [hC] at e; cases e), sv, hQ⟩
end

open PySem PySem.W PySem.Calls PyProof.Rows
set_option maxRecDepth 20000
set_option tactic.hygienic true in
theorem among_app {pos : Pos} {a b : Int} {c cv : Value} : ∀ (l : List Value), TriplesOk l → codeAmong pos (l ++ [rawInt a, rawInt b, c]) = some cv → codeAmong pos l = some cv ∨ cv = c
  | [], _, h => by
    unfold codeAmong at h
    simp only [List.nil_append, rawInt] at h
    split at h
    · cases h; exact .inr rfl
    · cases h
  | .int x tx :: .int y ty :: d :: rest, ht, h => by
    unfold codeAmong at h ⊢
    simp only [List.cons_append] at h
    split at h
    · rename_i hh; rw [if_pos hh]; exact .inl h
    · rename_i hh; rw [if_neg hh]; exact among_app rest ht h

section
variable {g : G} {env : Env} {own : List Addr} {n : Nat} {ρ : Str → Option D} {μ : Mu}

/-- what a lambda takes: frozen cells -/
inductive Caps (g : G) (env : Env) (ρ : Str → Option D) : List (Str × Addr) → List (Str × D) → Prop
  | nil : Caps g env ρ [] []
  | cons {x c d cl caps} : ρ x = some d → c ∈ g.fcs → env.cells.lookup x = some c → env.kindOf x ≠ some .local → Caps g env ρ cl caps → Caps g env ρ ((x, c) :: cl) ((x, d) :: caps)
theorem Caps.sees {F h} (G : GSt g μ F h) (Fs : FSt env own ρ μ F h) {cl caps} (x : Caps g env ρ cl caps) : SeesCaps F cl caps := by
  induction x with
  | nil => exact .nil
  | cons hx hc hl hk _ ih =>
    obtain ⟨v, hv, sv⟩ := Fs.vars _ _ hx
    rcases hv with ⟨k, _⟩ | ⟨_, c', hc', o, e, d⟩
    · exact absurd k hk
    · rw [hl] at hc'; cases hc'
      obtain ⟨o', e'⟩ := G.fzc _ hc
      have := G.fz _ _ e'
      rw [e] at this; cases this
      exact .cons e' d sv ih

theorem freeOk.nodup {scope : Scope} (hf : freeOk env scope = true) (hn : (scope.names.map (·.1)).Nodup) {F h} (Fs : FSt env own ρ μ F h) : ((closGo env.cells scope.names []).map (·.2)).Nodup :=
  closGo_nodup Fs.ok.cnd _ _ hn (fun y hy hk => by obtain ⟨⟨c, hc⟩, _⟩ := freeOk_get hf (x := y.1) (by rw [← hk]; exact hy); rw [hc]; rfl) (by simp) (fun _ h => nomatch h)
theorem GSt.builtinsAt {F h P ps} (G : GSt g μ F h) (hP : h.get? P = some (tabObj ps)) : h.BuiltinsAt g.mg P ∧ mainGlobals ≠ P := by
  have hgs := g.T.g.keeps G.keep
  obtain ⟨bm, ob, b1, b2, b3, b4, b5, b6⟩ := g.bm
  have hgP : mainGlobals ≠ P := fun q => by
    obtain ⟨o, es, ep, e, hd, _⟩ := hgs
    rw [q, hP] at e; cases e; cases hd
  have hbP : bm ≠ P := fun q => by
    have e := G.keep _ _ b3
    rw [q, hP] at e; cases e; cases b4
  have hbG : bm ≠ mainGlobals := fun q => by
    obtain ⟨o, es, ep, e, hd, _⟩ := g.T.g
    rw [q, e] at b3; cases b3; rw [hd] at b6; cases b6
  exact ⟨⟨bm, ob, b1, b2, hbG, hbP, G.keep _ _ b3, b4, b5, b6⟩, hgP⟩

theorem make_clo {M : Model} {A : Around} {E : Value → Shared → Prop} {s : Shared} {Q : Value → Shared → Prop} {F : FM} {name qual : Str} {params : Arguments} {body : Expr} {scope : Scope} {pos : Pos} {firstLine : Nat} {c P : Addr} {ps : Array Value}
    (hf : freeOk env scope = true) (G : GSt g μ F s.heap) (hglob : env.globals = mainGlobals) (hcode : env.code = .ref c) (C : CodeHd s.heap c P) (hP : s.heap.get? P = some (tabObj ps)) (ht : TriplesOk ps.toList) (hnf : codeAmong pos ps.toList = none)
    (h : ∀ c' P' ctv h' tk, Heap.ExtBut P s.heap h' → s.heap.objs.size ≤ c' → s.heap.objs.size ≤ P' → CodeHd h' c' P' → h'.get? P' = some (tabObj #[]) → h'.CodeRec (.ref c') qual → h'.get? P = some (tabObj (ps ++ #[rawInt pos.line, rawInt pos.col, .ref c'])) →
      Q (.ref h'.objs.size) { s with heap := h'.push (kla_obj name qual params body scope (closGo env.cells scope.names []) ((g.mg "__name__").getD .none) c' ctv), toks := tk }) :
    wpAny M A (makeFunction name qual params (.expr body) scope env [] [] [] pos firstLine) Q E s := by
  obtain ⟨⟨bm, ob, hbm, hne0, hbG, hneP, hbo, hcls, hdict, hdata⟩, hgP⟩ := G.builtinsAt hP
  have hg := g.T.g.keeps G.keep
  rw [makeFunction_eq]
  simp only [List.zip_nil_right, List.filterMap_nil, List.isEmpty_nil, if_true, pure_bind]
  unfold makeTail
  rw [closureFor_eq hf, hglob]
  refine wpAny_bind (wpAny_pure ?_)
  generalize closGo env.cells scope.names [] = clos at h ⊢
  cases clos with
  | nil =>
    simp only [List.isEmpty_nil, if_true]
    refine wpAny_bind (wpAny_pure ?_)
    refine wpAny_bind (wpAny_functionCodeX hcode (C.code hP ht) (C.tab hP) hnf fun c' h' tk hx hge hlt _ hrec htb hP' => ?_)
    have hg' := hg.extBut hx hgP
    refine wpAny_bind (wpAny_builtinsFor hg' hbm hne0 (hx _ _ hneP hbo) hcls hdict hdata ?_)
    refine wpAny_bind (wpAny_nsGet hg' ?_)
    obtain ⟨P', p1, p2, p3⟩ := hP'
    exact wpAny_bind (wpAny_pure (wpAny_newObj_type (h c' P' .none h' tk hx hge p1 (CodeHd.of p2 p3) p3.2 hrec htb.2) (by size_fits)))
  | cons q r =>
    simp only [List.isEmpty_cons, Bool.false_eq_true, if_false]
    refine wpAny_bind (wpAny_newTextTuple ?_)
    refine wpAny_bind (wpAny_functionCodeX hcode ((C.keeps fun b o e => Heap.get?_push_of_some _ e).code (Heap.get?_push_of_some _ hP) ht) ((C.keeps fun b o e => Heap.get?_push_of_some _ e).tab (Heap.get?_push_of_some _ hP)) hnf fun c' h' tk hx hge hlt _ hrec htb hP' => ?_)
    have hg' := (hg.push _).extBut hx hgP
    have hx' : Heap.ExtBut P s.heap h' := fun b o hb' e => hx b o hb' (Heap.get?_push_of_some _ e)
    have hz : ∀ oT : Obj, s.heap.objs.size ≤ (s.heap.push oT).objs.size := fun oT => by rw [Heap.size_push]; lia
    obtain ⟨P', p1, p2, p3⟩ := hP'
    refine wpAny_bind (wpAny_builtinsFor hg' hbm hne0 (hx' _ _ hneP hbo) hcls hdict hdata ?_)
    refine wpAny_bind (wpAny_nsGet hg' ?_)
    exact wpAny_bind (wpAny_pure (wpAny_newObj_type (h c' P' _ h' tk hx' (Nat.le_trans (hz _) hge) (Nat.le_trans (hz _) p1) (CodeHd.of p2 p3) p3.2 hrec htb.2) (by size_fits)))

theorem none_ge {h : Heap} {b : Addr} (hb : h.objs.size ≤ b) : h.get? b = none := Heap.get?_none_of_le hb

/-- a lambda in a function whose table we only know to be good -/
theorem Ev.lambda {params body scope pos Q c P caps} (hcode : env.code = .ref c) (htab : (c, P, env.qual ++ "<lambda>") ∈ g.tabs) (hq : ∀ q ∈ g.tabs, q.2.1 = P → q.2.2 = env.qual ++ "<lambda>") (hf : freeOk env scope = true) (hnn : (scope.names.map (·.1)).Nodup)
    (hcaps : Caps g env ρ (closGo env.cells scope.names []) caps) (h : ∀ cdv, Q (.clo (env.qual ++ "<lambda>") params body scope cdv caps) μ) (hdef : defaultsOf params env = ([], []) := by rfl) :
    Ev g env own n ρ μ (.Lambda params body scope pos) Q := fun A F s ok G Fs => by
  refine kla_eval hdef ?_
  obtain ⟨FP, ps, hP, ht, good⟩ := G.tb _ htab
  dsimp only at FP hP
  have C := (g.hd _ htab).keeps G.keep
  dsimp only at C
  have sc := hcaps.sees G Fs
  cases hf' : codeAmong pos ps.toList with
  | some cv =>
    obtain ⟨bA, hgP⟩ := G.builtinsAt hP
    refine kla_makeFunctionHit (mg := g.mg) (closureFor_eq hf) Fs.ok.glob (g.T.g.keeps G.keep) hcode C hP ht hf' bA fun ctv h' tk hk hsz => ?_
    have fc := good _ _ hf'
    have G' := G.ext hk
    have t := Tr.made (mt := []) (tk := tk) (s := { s with heap := h' }) (o := { cls := .type "function", data := .func (kla_fn "<lambda>" (env.qual ++ "<lambda>") params body scope (closGo env.cells scope.names []) ((g.mg "__name__").getD .none) cv ctv) }) G' rfl
    have hle := t.le
    refine ⟨_, μ, _, (Tr.of_ext (s' := { s with heap := h' }) hk rfl rfl).trans t, G'.made _ rfl, .clo put_same rfl (fc.mono hle) (sc.mono hle) (freeOk.nodup hf hnn Fs), h cv⟩
  | none =>
    refine make_clo hf G Fs.ok.glob hcode C hP ht hf' fun c' P' ctv h' tk hx hc' hP' CP hP0 hrec htb => ?_
    obtain ⟨cc, oc, vs, t, e2, hoc, hd, hv⟩ := id hrec
    cases e2
    have hF0 : F c' = none := (G.fresh (none_ge hc')).1
    have hle1 := put_le (o := oc) hF0
    have hcP : c' ≠ P := fun q => by rw [← q, none_ge hc'] at hP; cases hP
    have hP'P : P' ≠ P := fun q => by rw [← q, none_ge hP'] at hP; cases hP
    have hfc : FCode (put F c' oc) (.ref c') (env.qual ++ "<lambda>") := ⟨c', oc, vs, t, rfl, put_same, hd, hv⟩
    have G' : GSt g μ (put F c' oc) h' := by
      refine ⟨fun a x e => hle1 _ _ (G.base a x e), fun a x e => ?_, fun q hq' => ?_, fun p hp => ?_, G.nd, fun c hc => (by obtain ⟨o, e⟩ := G.fzc c hc; exact ⟨o, hle1 _ _ e⟩), G.dj, fun x hx' => ?_⟩
      rotate_right
      · obtain ⟨hk', L, mm, hf, hn, hF', hm'⟩ := G.stk x hx'
        obtain ⟨o', es, ep, ho, hd', r⟩ := hn
        have hLP : L ≠ P := fun z => by rw [z, hP] at ho; cases ho; cases hd'
        have hLc : L ≠ c' := fun z => by rw [z, none_ge hc'] at ho; cases ho
        exact ⟨hk', L, mm, hf, ⟨o', es, ep, hx _ _ hLP ho, hd', r⟩, by rw [put_ne hLc]; exact hF', hm'⟩
      · by_cases hb : a = c'
        · subst hb; rw [put_same] at e; cases e; exact hoc
        · rw [put_ne hb] at e
          exact hx _ _ (fun z => by rw [z, FP] at e; cases e) (G.fz _ _ e)
      · obtain ⟨a, ps', b, c1, d⟩ := G.tb q hq'
        have hne : q.2.1 ≠ c' := fun z => by rw [z, none_ge hc'] at b; cases b
        refine ⟨by rw [put_ne hne]; exact a, ?_⟩
        by_cases hqP : q.2.1 = P
        · rw [hqP, hP] at b; cases b
          refine ⟨_, by rw [hqP]; exact htb, ?_, fun pos' cv z => ?_⟩
          · rw [Array.toList_append]; exact TriplesOk_snoc _ _ _ _ ht
          · rw [Array.toList_append] at z
            rcases among_app _ ht z with k | k
            · exact (d _ _ k).mono hle1
            · rw [k, hq q hq' hqP]; exact hfc
        · exact ⟨ps', hx _ _ hqP b, c1, fun pos' cv z => (d pos' cv z).mono hle1⟩
      · obtain ⟨a, b⟩ := G.mu p hp
        have hpP : p.1 ≠ P := fun z => G.dj _ (List.mem_map_of_mem hp) (z ▸ List.mem_map.mpr ⟨_, htab, rfl⟩)
        obtain ⟨o, e⟩ := b.live
        have hne : p.1 ≠ c' := fun z => by rw [z, none_ge hc'] at e; cases e
        exact ⟨by rw [put_ne hne]; exact a, b.move hle1 fun o e => hx _ _ hpP e⟩
    have t1 : Tr g [] μ μ F (put F c' oc) s { s with heap := h' } := by
      refine ⟨fun b o e _ _ h3 => ⟨o, hx _ _ (fun z => h3 (z ▸ List.mem_map.mpr ⟨_, htab, rfl⟩)) e, .refl o⟩, fun b o e => ?_, hle1, fun a => ?_, fun _ h => .inl h, rfl, rfl⟩
      · by_cases hb : b = P
        · subst hb; exact ⟨_, htb⟩
        · exact ⟨o, hx _ _ hb e⟩
      · by_cases hb : a = c'
        · subst hb; exact .inr (.inr (.inr (none_ge hc')))
        · rw [put_ne hb]; cases hF : F a with
          | none => exact .inl rfl
          | some x => exact .inr (.inl (by simp))
    have t := Tr.made (mt := []) (tk := tk) (s := { s with heap := h' }) (o := kla_obj "<lambda>" (env.qual ++ "<lambda>") params body scope (closGo env.cells scope.names []) ((g.mg "__name__").getD .none) c' ctv) G' rfl
    exact ⟨_, μ, _, t1.trans t, G'.made _ rfl, .clo put_same rfl (hfc.mono t.le) (sc.mono (t1.trans t).le) (freeOk.nodup hf hnn Fs), h (.ref c')⟩

/-- one entry of μ turned -/
def setMu (a : Addr) (m : MO) : Mu → Mu
  | [] => []
  | (b, x) :: r => if b = a then (b, m) :: r else (b, x) :: setMu a m r
theorem setMu_hit {a : Addr} {m x : MO} {r : Mu} : setMu a m ((a, x) :: r) = (a, m) :: r := if_pos rfl
theorem setMu_miss {a b : Addr} {m x : MO} {r : Mu} (h : b ≠ a) : setMu a m ((b, x) :: r) = (b, x) :: setMu a m r := if_neg h
theorem setMu_dom {a : Addr} {m : MO} : ∀ (μ : Mu), (setMu a m μ).dom = μ.dom
  | [] => rfl
  | (b, x) :: r => by
    unfold setMu
    split
    · rfl
    · simp only [Mu.dom, List.map_cons]; exact congrArg _ (setMu_dom r)
set_option tactic.hygienic true in
theorem setMu_mem {a : Addr} {m : MO} : ∀ {μ : Mu}, μ.dom.Nodup → ∀ {p}, p ∈ setMu a m μ → (p ∈ μ ∧ p.1 ≠ a) ∨ p = (a, m)
  | [], _, p, h => nomatch h
  | (b, x) :: r, hn, p, h => by
    simp only [Mu.dom, List.map_cons, List.nodup_cons] at hn
    unfold setMu at h
    split at h
    · rename_i hb; subst hb
      cases h with
      | head => exact .inr rfl
      | tail _ h => exact .inl ⟨.tail _ h, fun z => hn.1 (z ▸ List.mem_map_of_mem h)⟩
    · rename_i hb
      cases h with
      | head => exact .inl ⟨.head _, hb⟩
      | tail _ h => exact (setMu_mem hn.2 h).imp ((by rintro ⟨a, b⟩; exact ⟨.tail _ a, b⟩)) id
set_option tactic.hygienic true in
theorem setMu_has {a : Addr} {m x : MO} : ∀ {μ : Mu}, (a, x) ∈ μ → (a, m) ∈ setMu a m μ
  | (b, y) :: r, h => by
    unfold setMu
    split
    · rename_i hb; subst hb; exact .head _
    · rename_i hb
      cases h with
      | head => exact absurd rfl hb
      | tail _ h => exact .tail _ (setMu_has h)

/-- one mutable object turns; what else there is stays -/
theorem GSt.set {F : FM} {h h' : Heap} {a : Addr} {m m' : MO} {o' : Obj} (G : GSt g μ F h) (hm : (a, m) ∈ μ) (hx : ∀ b o, b ≠ a → h.get? b = some o → h'.get? b = some o) (e : h'.get? a = some o') (k : MOk F a m' o') : GSt g (setMu a m' μ) F h' := by
  have ha : a ∈ μ.dom := List.mem_map_of_mem (f := (·.1)) hm
  have hFa := (G.mu _ hm).1
  refine ⟨G.base, fun b o q => hx _ _ (fun z => by rw [z] at q; rw [hFa] at q; cases q) (G.fz _ _ q), fun q hq => ?_, fun p hp => ?_, by rw [setMu_dom]; exact G.nd, G.fzc, by rw [setMu_dom]; exact G.dj, fun x hx' => ?_⟩
  rotate_right
  · obtain ⟨hk', L, mm, hf, hn, hF', hm'⟩ := G.stk x hx'
    refine ⟨hk', L, mm, hf, ?_, hF', by rw [setMu_dom]; exact hm'⟩
    obtain ⟨o', es, ep, ho, r⟩ := hn
    exact ⟨o', es, ep, hx _ _ (fun z => hm' (z ▸ ha)) ho, r⟩
  · obtain ⟨x, ps, b, c, d⟩ := G.tb q hq
    exact ⟨x, ps, hx _ _ (fun z => G.dj a ha (z ▸ List.mem_map_of_mem hq)) b, c, d⟩
  · rcases setMu_mem G.nd hp with ⟨h1, h2⟩ | rfl
    · exact ⟨(G.mu p h1).1, (G.mu p h1).2.move (fun _ _ x => x) fun o e => hx _ _ h2 e⟩
    · exact ⟨hFa, o', e, k⟩
theorem Tr.set {mt F s s'} {a : Addr} {m m' : MO} {o' : Obj} (hm : (a, m) ∈ μ) (hx : ∀ b o, b ≠ a → s.heap.get? b = some o → s'.heap.get? b = some o) (e : s'.heap.get? a = some o') (os : s'.os = s.os) (gens : s'.gens = s.gens) : Tr g mt μ (setMu a m' μ) F F s s' := by
  have ha : a ∈ μ.dom := List.mem_map_of_mem (f := (·.1)) hm
  refine ⟨fun b o q _ h2 _ => ⟨o, hx _ _ (fun z => h2 (z ▸ ha)) q, .refl o⟩, fun b o q => ?_, fun _ _ q => q, (Tr.refl (g := g) (mt := mt) (μ := μ) (s := s)).fr, fun b hb => .inl (by rwa [setMu_dom] at hb), os, gens⟩
  by_cases hb : b = a
  · subst hb; exact ⟨_, e⟩
  · exact ⟨o, hx _ _ hb q⟩
/-- μ may forget -/
theorem GSt.drop {F h a m} (G : GSt g ((a, m) :: μ) F h) : GSt g μ F h :=
  ⟨G.base, G.fz, G.tb, fun p hp => G.mu p (.tail _ hp), (List.nodup_cons.mp G.nd).2, G.fzc, fun a ha => G.dj a (.tail _ ha), fun x hx => (by obtain ⟨hk', L, m, hf, hn, hF', hm'⟩ := G.stk x hx; exact ⟨hk', L, m, hf, hn, hF', fun q => hm' (.tail _ q)⟩)⟩
theorem GSt.push {F h a m} (G : GSt g μ F h) (hF : F a = none) (hm : MIs F h a m) (ha : a ∉ μ.dom) (ht : a ∉ g.tabDom) : GSt g ((a, m) :: μ) F h := by
  refine ⟨G.base, G.fz, G.tb, fun p hp => ?_, List.nodup_cons.mpr ⟨ha, G.nd⟩, G.fzc, fun b hb => ?_, fun x hx => ?_⟩
  rotate_right
  · obtain ⟨hk', L, mm, hf, hn, hF', hm'⟩ := G.stk x hx
    refine ⟨hk', L, mm, hf, hn, hF', fun q => ?_⟩
    cases q with
    | head => obtain ⟨o, e, k⟩ := hm; obtain ⟨o', es, ep, ho, hd, r⟩ := hn; rw [e] at ho; cases ho; exact k.notDict _ _ hd
    | tail _ q => exact hm' q
  · cases hp with
    | head => exact ⟨hF, hm⟩
    | tail _ hp => exact G.mu p hp
  · cases hb with
    | head => exact ht
    | tail _ hb => exact G.dj b hb

/-- a lambda in a function whose table we know -/
theorem Ev.lambdaX {params body scope pos Q c P ps caps} (hcode : env.code = .ref c) (htab : (P, .tb c ps) ∈ μ) (hnf : codeAmong pos ps = none) (hf : freeOk env scope = true) (hnn : (scope.names.map (·.1)).Nodup)
    (hcaps : Caps g env ρ (closGo env.cells scope.names []) caps) (h : ∀ c' P', P' ∉ μ.dom → Q (.clo (env.qual ++ "<lambda>") params body scope (.ref c') caps) ((P', .tb c' []) :: setMu P (.tb c (ps ++ [rawInt pos.line, rawInt pos.col, .ref c'])) μ))
    (hdef : defaultsOf params env = ([], []) := by rfl) :
    Ev g env own n ρ μ (.Lambda params body scope pos) Q := fun A F s ok G Fs => by
  refine kla_eval hdef ?_
  obtain ⟨FP, oP, hP, rfl, ht, C0⟩ := G.mu _ htab
  dsimp only at FP hP
  obtain ⟨oc0, fc0, C0⟩ := C0
  have C := C0 _ (G.fz _ _ fc0)
  have sc := hcaps.sees G Fs
  refine make_clo hf G Fs.ok.glob hcode C hP (by simpa using ht) (by simpa using hnf) fun c' P' ctv h' tk hx hc' hP' CP hP0 hrec htb => ?_
  obtain ⟨cc, oc, vs, t, e2, hoc, hd, hv⟩ := id hrec
  cases e2
  have hF0 : F c' = none := (G.fresh (none_ge hc')).1
  have hle1 := put_le (o := oc) hF0
  have hcP : c' ≠ P := fun q => by rw [← q, none_ge hc'] at hP; cases hP
  have hP'P : P' ≠ P := fun q => by rw [← q, none_ge hP'] at hP; cases hP
  have hcP' : P' ≠ c' := by rcases CP with ⟨_, _, _, _, _, _, _, _, _, _, _, _, _, _, _, _, _, _, k⟩; exact k.symm
  have hfc : FCode (put F c' oc) (.ref c') (env.qual ++ "<lambda>") := ⟨c', oc, vs, t, rfl, put_same, hd, hv⟩
  have fr' := G.fresh (none_ge hP')
  have e1 : (ps.toArray ++ #[rawInt pos.line, rawInt pos.col, .ref c']) = (ps ++ [rawInt pos.line, rawInt pos.col, .ref c']).toArray := by simp
  rw [e1] at htb
  have G1 : GSt g (setMu P (.tb c (ps ++ [rawInt pos.line, rawInt pos.col, .ref c'])) μ) F h' := G.set htab (fun b o hb e => hx b o hb e) htb ⟨rfl, TriplesOk_snoc _ _ _ _ ht, oc0, fc0, C0⟩
  have hd1 : c' ∉ (setMu P (.tb c (ps ++ [rawInt pos.line, rawInt pos.col, .ref c'])) μ).dom := by rw [setMu_dom]; exact (G.fresh (none_ge hc')).2.1
  have G2 := G1.freeze hoc hF0 hd1 (G.fresh (none_ge hc')).2.2 (fun _ _ z => by rw [hd] at z; cases z)
  have hFP' : put F c' oc P' = none := by rw [put_ne hcP']; exact fr'.1
  have G3 := G2.push (a := P') (m := .tb c' []) hFP' ⟨_, hP0, rfl, trivial, oc, put_same, fun h e => by
    obtain ⟨o, vs, file, tf, flags, tg, inF, text, tt, q1, q2⟩ := CP
    rw [hoc] at q1; cases q1
    exact ⟨_, vs, file, tf, flags, tg, inF, text, tt, e, q2⟩⟩ (by rw [setMu_dom]; exact fr'.2.1) fr'.2.2
  have t1 : Tr g [] μ ((P', .tb c' []) :: setMu P (.tb c (ps ++ [rawInt pos.line, rawInt pos.col, .ref c'])) μ) F (put F c' oc) s { s with heap := h' } := by
    have t0 : Tr g [] μ (setMu P (.tb c (ps ++ [rawInt pos.line, rawInt pos.col, .ref c'])) μ) F F s { s with heap := h' } := Tr.set htab (fun b o hb e => hx b o hb e) htb rfl rfl
    refine { t0 with le := hle1, fr := fun a => ?_, mu := fun a ha => ?_ }
    · by_cases hb : a = c'
      · subst hb; exact .inr (.inr (.inr (none_ge hc')))
      · rw [put_ne hb]; exact t0.fr a
    · cases ha with
      | head => exact .inr (none_ge hP')
      | tail _ ha => exact t0.mu a ha
  have t := Tr.made (mt := []) (tk := tk) (s := { s with heap := h' }) (o := kla_obj "<lambda>" (env.qual ++ "<lambda>") params body scope (closGo env.cells scope.names []) ((g.mg "__name__").getD .none) c' ctv) G3 rfl
  exact ⟨_, _, _, t1.trans t, G3.made _ rfl, .clo put_same rfl (hfc.mono t.le) (sc.mono (t1.trans t).le) (freeOk.nodup hf hnn Fs), h c' P' fr'.2.1⟩
end

open PySem PySem.W PySem.Calls PyProof.Rows
set_option maxRecDepth 20000
section
variable {g : G} {env : Env} {own : List Addr} {n : Nat} {ρ : Str → Option D} {μ : Mu}

/-- a method of a list -/
abbrev MK2 (g : G) (n : Nat) (id : String) (d : D) (Q : D → Mu → Prop) : List D → Mu → Prop := fun es μ₂ => Calls g n (.val (.builtin id)) (d :: es) [] μ₂ Q
abbrev MK1 (g : G) (env : Env) (own : List Addr) (n : Nat) (ρ : Str → Option D) (args : List Expr) (id : String) (Q : D → Mu → Prop) : D → Mu → Prop := fun d μ₁ => (∃ ds, Rd μ₁ d ds) ∧ EvL g env own n ρ args μ₁ (MK2 g n id d Q)
theorem Ev.meth {o : Expr} {attr : Str} {apos pos : Pos} {args : List Expr} {id : String} {Q}
    (h : Ev g env own n ρ μ o (MK1 g env own n ρ args id Q))
    (slot : Slot "list" attr id) (hty : typeOf (.builtin id) = pure (.type "method_descriptor")) (hbase : attributeBase o attr env (eval o env) = eval o env := by rfl)
    (hp : args.all plainE = true := by rfl) (hline : (apos.endLine == pos.line) = true := by rfl) (hne : args ≠ [] := by simp)
    (hform : methodCallForm (args.length + 0) (backTo pos (starEach args env)) (backToKw pos (keywordEach [] env)) = true := by rfl) :
    Ev g env own n ρ μ (.Call (.Attribute o attr apos) args [] pos) Q := fun A F s ok G Fs => by
  rw [arm_eval_Call, hbase]
  refine wpAny_bind (wp_seq h ok G Fs fun fv d μ₁ F₁ s₁ t₁ G₁ Fs₁ sd ⟨⟨ds, hr⟩, h₁⟩ => ?_)
  obtain ⟨a, vs, k, rfl, ha, sa⟩ := hr.at G₁ sd
  refine wpAny_bind (wpAny_standAt ?_)
  have fin : ∀ p : Pos, wpAny (model g.prog g.w) A (callWith p (.builtin id) [.ref a] (backTo pos (starEach args env)) []) (EvPost g μ s F Q) (fun _ _ => False) s₁ := fun p => by
    refine callWith_builtin (args_plain env args hp) ?_
    have fin : wpAny (model g.prog g.w) A (spliced (backTo pos (starEach args env))) (fun vs s₂ => wpAny (model g.prog g.w) A (PySem.call (.builtin id) ([.ref a] ++ vs) []) (EvPost g μ s F Q) (fun _ _ => False) s₂) (fun _ _ => False) s₁ := by
      refine wpAny_mono (evl ok args h₁ G₁ Fs₁) ?_ fun _ _ x => x
      rintro vs s₂ ⟨es, μ₂, F₂, t₂, G₂, ses, hc⟩
      exact post_weak (t₁.trans t₂) (hc A F₂ s₂ _ (.ref a :: vs) [] ok G₂ (.val _) (.cons (sd.mono t₂.le) ses) .nil rfl)
    cases args with
    | nil => exact absurd rfl hne
    | cons e r =>
      simp only [List.all_cons, Bool.and_eq_true] at hp
      rw [plainE_star hp.1] at fin ⊢
      exact evalArgs_plain fin
  have hpos : methodCallPos true o env apos pos = pure pos := by unfold methodCallPos; simp [hline]
  unfold methodCall
  rw [show ([] : List Keyword).length = 0 from rfl, hform]
  refine wpAny_bind (wpAny_holding (getMethod_builtin ⟨_, ha, rfl⟩ PySem.F.plainAttrs_list slot hty (fun b e => by cases e; exact ⟨_, ha, rfl⟩) ?_))
  exact wpAny_bind (wpAny_of_eq hpos (fin pos))

theorem EvPost.set {F : FM} {s : Shared} {a : Addr} {m m' : MO} {o' : Obj} {h' : Heap} {tk : Tok} {v d} {Q : D → Mu → Prop} (G : GSt g μ F s.heap) (hm : (a, m) ∈ μ) (hx : Heap.SameBut a s.heap h') (e : h'.get? a = some o') (k : MOk F a m' o') (sv : Sees F v d)
    (h : Q d (setMu a m' μ)) : EvPost g μ s F Q v { s with heap := h', toks := tk } :=
  have hx' : ∀ b o, b ≠ a → s.heap.get? b = some o → h'.get? b = some o := fun b o hb e => (hx.2 b hb).trans e
  ⟨d, _, F, Tr.set (s' := { s with heap := h', toks := tk }) hm hx' e rfl rfl, G.set hm hx' e k, sv, h⟩

theorem Calls.append {a : Addr} {ds : List D} {d : D} {Q} (hm : (a, .ml ds) ∈ μ) (hl : ds.length ≤ 10000) (h : Q .none (setMu a (.ml (ds ++ [d])) μ)) : Calls g n (.val (.builtin "list.append")) [.val (.ref a), d] [] μ Q :=
  Calls.of2 fun A F s fv va vb ok G sf sa sb => by
    obtain rfl := Sees.valI sf; obtain rfl := Sees.valI sa
    obtain ⟨_, o, e, vs, k, rfl, r⟩ := G.mu _ hm
    have hz : vs.size = ds.length := r.size
    refine call_append e (fun h' k' eh sbt => EvPost.set (tk := s.toks) (m' := .ml (ds ++ [d])) G hm sbt eh ⟨_, _, rfl, ?_⟩ .none h) (by unfold sizeLine; lia)
    rw [Array.toList_push]; exact r.append (.cons sb .nil)

def insAt (k : Nat) (d : D) (ds : List D) : List D := ds.take k ++ d :: ds.drop k
theorem Calls.insertX {a : Addr} {ds : List D} {k : Nat} {x : Int} {d : D} {Q} (hx : x = (k : Int)) (hm : (a, .ml ds) ∈ μ) (hl : ds.length ≤ 10000) (hk : k ≤ ds.length) (h : Q .none (setMu a (.ml (insAt k d ds)) μ)) : Calls g n (.val (.builtin "list.insert")) [.val (.ref a), .int x, d] [] μ Q :=
  fun A F s fv vs kvs ok G sf sa sk hkn => by
    obtain rfl := Sees.valI sf
    obtain ⟨v1, vs', rfl, s1, sa⟩ := sa.consI
    obtain ⟨v2, vs', rfl, s2, sa⟩ := sa.consI
    obtain ⟨v3, vs', rfl, s3, sa⟩ := sa.consI
    obtain rfl := SeesAll.nilI sa
    obtain rfl : kvs = [] := by simpa using hkn
    obtain rfl := Sees.valI s1
    obtain ⟨t, rfl⟩ := s2.intI
    obtain ⟨_, o, e, xs, nn, rfl, r⟩ := G.mu _ hm
    have hz : xs.size = ds.length := r.size
    have hfit : ¬(!Builtin.List.listFitsIndex x) = true := by
      have : x < 2 ^ 63 := by lia
      unfold Builtin.List.listFitsIndex
      simp; lia
    have hsz : xs.size ≤ sizeLine := by unfold sizeLine; lia
    have mt := PySem.AutoListH.list_insert_list_int_val_1 a xs nn x t v3 hfit hsz
    refine call_meets PySem.F.slot_list_insert ⟨_, e, rfl⟩ PySem.F.entry_list_insert (PySem.F.args_list_insert_3 _ _ _) mt ⟨e, ?_⟩
    · refine EvPost.set (tk := s.toks) (m' := .ml (insAt k d ds)) G hm (Heap.SameBut.update ..) (Heap.get?_update_self _ e rfl) (show MOk F a (.ml (insAt k d ds)) _ from ⟨_, _, rfl, ?_⟩) .none h
      have e1 : ((xs.extract 0 k).push v3 ++ xs.extract k).toList = xs.toList.take k ++ v3 :: xs.toList.drop k := by
        simp only [Array.toList_append, Array.toList_push, Array.toList_extract, List.extract_eq_take_drop, List.drop_zero, Nat.sub_zero, List.append_assoc, List.cons_append, List.nil_append]
        rw [List.take_of_length_le (l := List.drop k xs.toList) (by simp)]
      have e2 : (if x < 0 then (x + ((xs.size : Nat) : Int)).toNat else min x.toNat xs.size) = k := by rw [if_neg (by lia)]; lia
      simp only [e2, e1]
      exact (r.take k).append (.cons s3 (r.drop k))

theorem Calls.insert {a : Addr} {ds : List D} {k : Nat} {d : D} {Q} (hm : (a, .ml ds) ∈ μ) (hl : ds.length ≤ 10000) (hk : k ≤ ds.length) (h : Q .none (setMu a (.ml (insAt k d ds)) μ)) : Calls g n (.val (.builtin "list.insert")) [.val (.ref a), .int k, d] [] μ Q :=
  Calls.insertX rfl hm hl hk h

theorem SeesCaps.get {F : FM} {cl caps} (h : SeesCaps F cl caps) {x d} : caps.lookup x = some d → ∃ c v, cl.lookup x = some c ∧ (∃ o, F c = some o ∧ o.data = .cell (some v)) ∧ Sees F v d := by
  refine h.ind (P := fun cl caps => caps.lookup x = some d → ∃ c v, cl.lookup x = some c ∧ (∃ o, F c = some o ∧ o.data = .cell (some v)) ∧ Sees F v d) (fun e => nomatch e) fun {y _ _ _ _ _ _} e1 e2 sv _ i e => ?_
  rw [List.lookup_cons] at e ⊢
  cases hy : x == y with
  | true => rw [hy] at e; cases e; exact ⟨_, _, rfl, ⟨_, e1, e2⟩, sv⟩
  | false => rw [hy] at e; exact i e
theorem SeesCaps.cell {F : FM} {cl caps} (h : SeesCaps F cl caps) : ∀ p ∈ cl, ∃ o v, F p.2 = some o ∧ o.data = .cell (some v) :=
  h.ind (P := fun cl _ => ∀ p ∈ cl, ∃ o v, F p.2 = some o ∧ o.data = .cell (some v)) (fun _ h => nomatch h) fun e1 e2 _ _ i p hp => (List.mem_cons.mp hp).elim (fun z => z ▸ ⟨_, _, e1, e2⟩) (i p)
theorem SeesCaps.names {F : FM} {cl caps} (h : SeesCaps F cl caps) : cl.map (·.1) = caps.map (·.1) := h.ind (P := fun cl caps => cl.map (·.1) = caps.map (·.1)) rfl fun _ _ _ _ i => congrArg (_ :: ·) i

theorem zip_see {F : FM} {vs : List Value} {ds : List D} (h : SeesAll F vs ds) : ∀ {nm : List Str} {x d}, (nm.zip ds).lookup x = some d → ∃ v, (x, v) ∈ nm.zip vs ∧ Sees F v d := by
  refine h.ind (P := fun vs ds => ∀ {nm : List Str} {x d}, (nm.zip ds).lookup x = some d → ∃ v, (x, v) ∈ nm.zip vs ∧ Sees F v d) (fun {nm x d} e => ?_) (fun sv _ i => ?_)
  · rw [List.zip_nil_right] at e; cases e
  · intro nm x d e
    cases nm with
    | nil => cases e
    | cons y nm =>
      rw [List.zip_cons_cons, List.lookup_cons] at e
      cases hy : x == y with
      | true => rw [hy] at e; cases e; rw [eq_of_beq hy]; exact ⟨_, .head _, sv⟩
      | false => rw [hy] at e; obtain ⟨v, h1, h2⟩ := i e; exact ⟨v, .tail _ h1, h2⟩
theorem zip_fst_sub {α β : Type} : ∀ (l : List α) (r : List β), ((l.zip r).map (·.1)).Sublist l
  | [], r => by simp
  | a :: l, [] => by simp
  | a :: l, b :: r => by simp only [List.zip_cons_cons, List.map_cons]; exact (zip_fst_sub l r).cons_cons _
theorem lookup_app {α : Type} {l r : List (Str × α)} {x : Str} : (l ++ r).lookup x = (l.lookup x).or (r.lookup x) := by
  induction l with
  | nil => simp
  | cons p l ih =>
    obtain ⟨y, d⟩ := p
    rw [List.cons_append, List.lookup_cons, List.lookup_cons]
    cases x == y with
    | true => rfl
    | false => exact ih

/-- a lambda called -/
theorem Calls.clo {qual : Str} {params : Arguments} {body : Expr} {scope : Scope} {cdv : Value} {caps : List (Str × D)} {args : List D} {nm : List Str} {Q}
    (hb : ∀ name cl pm ct (vs : List Value), vs.length = args.length → bindArgs (kla_fn name qual params body scope cl pm cdv ct) ⟨vs, []⟩ = pure (nm.zip vs))
    (hloc : ∀ y ∈ nm, scope.names.lookup y = some .local) (hnd : nm.Nodup) (hfree : ∀ p ∈ caps, scope.names.lookup p.1 = some .free)
    (hk : scope.kind = .function) (hco : scope.isCoroutine = false) (hgen : scope.isGenerator = false) (hcell : ∀ x ∈ scope.names, x.2 ≠ .cell)
    (h : ∀ env L f cl, env = envX qual scope L f cdv cl → Ev (g.push env) env [L] n (rho (nm.zip args ++ caps)) μ body Q) : Calls g (n + 1) (.clo qual params body scope cdv caps) args [] μ Q :=
  fun A F s fv vs kvs ok G sf sa sk hkn => by
    obtain rfl : kvs = [] := by simpa using hkn
    obtain @⟨a, o, name, cl, pm, ct, hF, hd, hc, sc, hcn⟩ := Sees.cloI sf
    have ho := G.fz _ _ hF
    refine wpAny_call (kla_callFunE ok.room ho hd hco hgen rfl (hc.codeRec G.fz) ?_)
    rw [hb _ _ _ _ vs sa.length]
    have hvl : ∀ x v, (x, v) ∈ nm.zip vs → x ∈ nm := fun x v hx => List.of_mem_zip hx |>.1
    refine wpAny_pure (wpAny_newFunctionEnv hcell (fun x hx => hloc _ (hvl x.1 x.2 hx)) (fun h₁ hns hsb => ?_) hk)
    have kp : ∀ b o, s.heap.get? b = some o → h₁.get? b = some o := fun b o e => hsb.extBut b o (Nat.ne_of_lt (Heap.lt_size e)) (Heap.get?_push_of_some _ e)
    refine ⟨g.T.nolimit.keeps fun b o e => kp b o (G.keep b o e), kla_codeExpr ?_⟩
    have hG : GSt g μ F h₁ := G.ext kp
    have hno : s.heap.get? s.heap.objs.size = none := none_ge (Nat.le_refl _)
    have fr := G.fresh hno
    have hFs : FSt (envX qual scope s.heap.objs.size a cdv cl) [s.heap.objs.size] (rho (nm.zip args ++ caps)) μ F h₁ := by
      refine ⟨⟨hk, rfl, rfl, .head _, hcn⟩, ⟨_, hns⟩, fun x d e => ?_, fun p hp => ?_, fun b hb => by rw [List.mem_singleton.mp hb]; exact fr.1, fun b hb => ?_, fun b hb => by rw [List.mem_singleton.mp hb]; exact fr.2.1⟩
      · unfold rho at e
        rw [lookup_app] at e
        cases h1 : (nm.zip args).lookup x with
        | some d' =>
          rw [h1] at e
          cases e
          obtain ⟨v, hv, sv⟩ := zip_see sa h1
          refine ⟨v, .inl ⟨hloc _ (hvl _ _ hv), _, hns, ?_⟩, sv⟩
          refine lookup_of_nodup ?_ (List.mem_reverse.mpr hv)
          rw [List.map_reverse]
          refine (List.reverse_perm _).nodup_iff.mpr ?_
          exact List.Sublist.nodup (zip_fst_sub _ _) hnd
        | none =>
          rw [h1] at e
          have e : caps.lookup x = some d := e
          obtain ⟨c, v, h1, ⟨o', h2, h3⟩, sv⟩ := sc.get e
          exact ⟨v, .inr ⟨.inr (hfree _ (lookup_mem e)), c, h1, o', hG.fz _ _ h2, h3⟩, sv⟩
      · obtain ⟨o', v, h2, h3⟩ := sc.cell p hp
        exact ⟨_, o', hG.fz _ _ h2, h3⟩
      · rw [List.mem_singleton.mp hb]; obtain ⟨o', _, _, e, _⟩ := hns; exact ⟨o', e⟩
    have hfr : FrL (envX qual scope s.heap.objs.size a cdv cl) μ F h₁ := ⟨by show scope.kind ≠ _; rw [hk]; decide, s.heap.objs.size, _, rfl, hns, fr.1, fr.2.1⟩
    have t0 : Tr g [] μ μ F F s { s with heap := h₁, toks := s.toks + (nm.zip vs).length } := Tr.of_ext kp rfl rfl
    refine wpAny_mono (h _ _ _ _ rfl _ F { s with heap := h₁, toks := s.toks + (nm.zip vs).length } (Ok.deeper ok) (hG.push_frame hfr) hFs) ?_ fun _ _ x => x.elim
    rintro v s₂ ⟨d, μ', F', t', a, b, c⟩
    exact EvPost.trans t0 ⟨d, μ', F', t'.pop_frame, a.pop_frame, b, c⟩
end

open PySem PySem.W PySem.Calls PyProof.Rows
set_option maxRecDepth 20000
section
variable {g : G} {env : Env} {own : List Addr} {n : Nat} {ρ : Str → Option D} {μ : Mu}
theorem kindX_of {q : Str} {scope : Scope} {L f : Addr} {cdv : Value} {cl : List (Str × Addr)} {x : Str} {k : Option NameKind} (he : env = envX q scope L f cdv cl) (e : scope.names.lookup x = k) : env.kindOf x = k := by subst he; exact e
theorem kindC_of {scope : Scope} {cl : List (Str × Addr)} {C : Addr} {env' : Env} {x : Str} {k : Option NameKind} (he : env = compEnvC scope cl C env') (e : (relabel scope env').names.lookup x = k) : env.kindOf x = k := by subst he; exact e
theorem Rd.mu {a : Addr} {ds : List D} (h : (a, MO.ml ds) ∈ μ) : Rd μ (.val (.ref a)) ds := .inr ⟨a, rfl, h⟩

theorem wp_ld {α : Type} {M : Model} {A : Around} {E : Value → Shared → Prop} {s : Shared} {Q : α → Shared → Prop} {t : Sem α} {a : Addr} {part : Option Value} {k : Obj → Sem α} {o : Obj} (e : t = Sem.load a part k) (ho : s.heap.get? a = some o) (h : wpAny M A (k o) Q E s) : wpAny M A t Q E s := by
  subst e
  exact wpAny_bind (m := loadPart a part) (f := k) (wpAny_loadPart ho h)
theorem SeesAll.inv {F vs d ds} (h : SeesAll F vs (d :: ds)) : ∃ v vs', vs = v :: vs' ∧ Sees F v d ∧ SeesAll F vs' ds := by
  cases h with | cons a b => exact ⟨_, _, rfl, a, b⟩
theorem SeesAll.inv0 {F vs} (h : SeesAll F vs []) : vs = [] := by obtain rfl := SeesAll.nilI h; rfl
theorem kvs0 {kvs : List (Str × Value)} (h : kvs.map (·.1) = ([] : List (Str × D)).map (·.1)) : kvs = [] := by simpa using h
theorem kvs1 {F} {kvs : List (Str × Value)} {x : Str} {d : D} (h : kvs.map (·.1) = [(x, d)].map (·.1)) (k : SeesAll F (kvs.map (·.2)) ([(x, d)].map (·.2))) : ∃ v, kvs = [(x, v)] ∧ Sees F v d := by
  obtain ⟨v, vs', e, s, r⟩ := SeesAll.consI k
  obtain rfl := SeesAll.nilI r
  exact ⟨v, List.zip_of_prod (xs := kvs) h e, s⟩
def BindsAt (g : G) (fa : Addr) (args : List D) (kws : List (Str × D)) (bd : List (Str × D)) : Prop := ∀ fo fd, g.K.lookup fa = some fo → fo.data = .func fd → Binds g fd args kws bd
theorem bindsAt_of {K : Frag} {fa : Addr} {fo : Obj} {fd : FuncData} {args kws bd} (hK : g.K = K) (e : K.lookup fa = some fo) (e2 : fo.data = .func fd) (h : Binds g fd args kws bd) : BindsAt g fa args kws bd := fun fo' fd' h1 h2 => by
  rw [hK, e] at h1; cases h1; rw [e2] at h2; cases h2; exact h
section
variable {fd : FuncData} {a b c d e : D} {x : Str} {bd : List (Str × D)}
theorem Binds.mk10 (h : ∀ (F : FM) (s : Shared) v1, g.K.In s.heap → Sees F v1 a → ∃ bs, BindsTo s fd ⟨[v1], []⟩ bs ∧ SeesB F bs bd) : Binds g fd [a] [] bd := fun F s vs kvs X sa sk hk => by
  obtain ⟨v1, _, rfl, s1, sa⟩ := sa.inv; obtain rfl := sa.inv0; obtain rfl := kvs0 hk; exact h F s v1 X s1
theorem Binds.mk20 (h : ∀ (F : FM) (s : Shared) v1 v2, g.K.In s.heap → Sees F v1 a → Sees F v2 b → ∃ bs, BindsTo s fd ⟨[v1, v2], []⟩ bs ∧ SeesB F bs bd) : Binds g fd [a, b] [] bd := fun F s vs kvs X sa sk hk => by
  obtain ⟨v1, _, rfl, s1, sa⟩ := sa.inv; obtain ⟨v2, _, rfl, s2, sa⟩ := sa.inv; obtain rfl := sa.inv0; obtain rfl := kvs0 hk; exact h F s v1 v2 X s1 s2
theorem Binds.mk30 (h : ∀ (F : FM) (s : Shared) v1 v2 v3, g.K.In s.heap → Sees F v1 a → Sees F v2 b → Sees F v3 c → ∃ bs, BindsTo s fd ⟨[v1, v2, v3], []⟩ bs ∧ SeesB F bs bd) : Binds g fd [a, b, c] [] bd := fun F s vs kvs X sa sk hk => by
  obtain ⟨v1, _, rfl, s1, sa⟩ := sa.inv; obtain ⟨v2, _, rfl, s2, sa⟩ := sa.inv; obtain ⟨v3, _, rfl, s3, sa⟩ := sa.inv; obtain rfl := sa.inv0; obtain rfl := kvs0 hk; exact h F s v1 v2 v3 X s1 s2 s3
theorem Binds.mk40 (h : ∀ (F : FM) (s : Shared) v1 v2 v3 v4, g.K.In s.heap → Sees F v1 a → Sees F v2 b → Sees F v3 c → Sees F v4 d → ∃ bs, BindsTo s fd ⟨[v1, v2, v3, v4], []⟩ bs ∧ SeesB F bs bd) : Binds g fd [a, b, c, d] [] bd := fun F s vs kvs X sa sk hk => by
  obtain ⟨v1, _, rfl, s1, sa⟩ := sa.inv; obtain ⟨v2, _, rfl, s2, sa⟩ := sa.inv; obtain ⟨v3, _, rfl, s3, sa⟩ := sa.inv; obtain ⟨v4, _, rfl, s4, sa⟩ := sa.inv; obtain rfl := sa.inv0; obtain rfl := kvs0 hk; exact h F s v1 v2 v3 v4 X s1 s2 s3 s4
theorem Binds.mk21 (h : ∀ (F : FM) (s : Shared) v1 v2 w, g.K.In s.heap → Sees F v1 a → Sees F v2 b → Sees F w e → ∃ bs, BindsTo s fd ⟨[v1, v2], [(x, w)]⟩ bs ∧ SeesB F bs bd) : Binds g fd [a, b] [(x, e)] bd := fun F s vs kvs X sa sk hk => by
  obtain ⟨v1, _, rfl, s1, sa⟩ := sa.inv; obtain ⟨v2, _, rfl, s2, sa⟩ := sa.inv; obtain rfl := sa.inv0; obtain ⟨w, rfl, sw⟩ := kvs1 hk sk; exact h F s v1 v2 w X s1 s2 sw
theorem Binds.mk31 (h : ∀ (F : FM) (s : Shared) v1 v2 v3 w, g.K.In s.heap → Sees F v1 a → Sees F v2 b → Sees F v3 c → Sees F w e → ∃ bs, BindsTo s fd ⟨[v1, v2, v3], [(x, w)]⟩ bs ∧ SeesB F bs bd) : Binds g fd [a, b, c] [(x, e)] bd := fun F s vs kvs X sa sk hk => by
  obtain ⟨v1, _, rfl, s1, sa⟩ := sa.inv; obtain ⟨v2, _, rfl, s2, sa⟩ := sa.inv; obtain ⟨v3, _, rfl, s3, sa⟩ := sa.inv; obtain rfl := sa.inv0; obtain ⟨w, rfl, sw⟩ := kvs1 hk sk; exact h F s v1 v2 v3 w X s1 s2 s3 sw
theorem Binds.mk41 (h : ∀ (F : FM) (s : Shared) v1 v2 v3 v4 w, g.K.In s.heap → Sees F v1 a → Sees F v2 b → Sees F v3 c → Sees F v4 d → Sees F w e → ∃ bs, BindsTo s fd ⟨[v1, v2, v3, v4], [(x, w)]⟩ bs ∧ SeesB F bs bd) : Binds g fd [a, b, c, d] [(x, e)] bd := fun F s vs kvs X sa sk hk => by
  obtain ⟨v1, _, rfl, s1, sa⟩ := sa.inv; obtain ⟨v2, _, rfl, s2, sa⟩ := sa.inv; obtain ⟨v3, _, rfl, s3, sa⟩ := sa.inv; obtain ⟨v4, _, rfl, s4, sa⟩ := sa.inv; obtain rfl := sa.inv0; obtain ⟨w, rfl, sw⟩ := kvs1 hk sk; exact h F s v1 v2 v3 v4 w X s1 s2 s3 s4 sw
end

def bisF (p : Nat → Bool) : Nat → Nat → Nat → Nat
  | 0, lo, _ => lo
  | k + 1, lo, hi => if lo < hi then (if p ((lo + hi) / 2) then bisF p k lo ((lo + hi) / 2) else bisF p k ((lo + hi) / 2 + 1) hi) else lo
def bis (p : Nat → Bool) (lo hi : Nat) : Nat := bisF p (hi - lo) lo hi
theorem mid_k {lo hi k : Nat} (h : hi - lo ≤ k + 1) (q : lo < hi) : (lo + hi) / 2 - lo ≤ k ∧ hi - ((lo + hi) / 2 + 1) ≤ k := by omega
theorem not_lt_of_sub {lo hi : Nat} (h : hi - lo ≤ 0) : ¬ lo < hi := by omega
theorem bisF_more {p : Nat → Bool} : ∀ (k m lo hi : Nat), hi - lo ≤ k → hi - lo ≤ m → bisF p k lo hi = bisF p m lo hi
  | 0, 0, lo, hi, _, _ => rfl
  | 0, m + 1, lo, hi, h, _ => (if_neg (not_lt_of_sub h)).symm
  | k + 1, 0, lo, hi, _, h => if_neg (not_lt_of_sub h)
  | k + 1, m + 1, lo, hi, h, h' => by
    rw [bisF, bisF]
    by_cases q : lo < hi
    · rw [if_pos q, if_pos q, bisF_more k m lo ((lo + hi) / 2) (mid_k h q).1 (mid_k h' q).1, bisF_more k m ((lo + hi) / 2 + 1) hi (mid_k h q).2 (mid_k h' q).2]
    · rw [if_neg q, if_neg q]
theorem bis_F {p : Nat → Bool} {k lo hi : Nat} (h : hi - lo ≤ k) : bis p lo hi = bisF p k lo hi := bisF_more _ _ _ _ (Nat.le_refl _) h
theorem bis_eq {p : Nat → Bool} {lo hi : Nat} : bis p lo hi = if lo < hi then (if p ((lo + hi) / 2) then bis p lo ((lo + hi) / 2) else bis p ((lo + hi) / 2 + 1) hi) else lo := by
  rw [bis_F (Nat.le_succ (hi - lo)), bisF]
  by_cases q : lo < hi
  · have h := mid_k (Nat.le_succ (hi - lo)) q
    rw [if_pos q, if_pos q, bis_F h.1, bis_F h.2]
  · rw [if_neg q, if_neg q]
theorem bis_rec {p : Nat → Bool} {C : Nat → Nat → Nat → Prop} (h1 : ∀ lo hi, lo < hi → p ((lo + hi) / 2) = true → C lo ((lo + hi) / 2) (bis p lo ((lo + hi) / 2)) → C lo hi (bis p lo ((lo + hi) / 2)))
    (h2 : ∀ lo hi, lo < hi → p ((lo + hi) / 2) = false → C ((lo + hi) / 2 + 1) hi (bis p ((lo + hi) / 2 + 1) hi) → C lo hi (bis p ((lo + hi) / 2 + 1) hi)) (h3 : ∀ lo hi, ¬ lo < hi → C lo hi lo) : ∀ (k lo hi : Nat), hi - lo ≤ k → C lo hi (bis p lo hi)
  | 0, lo, hi, h => by rw [bis_eq, if_neg (not_lt_of_sub h)]; exact h3 _ _ (not_lt_of_sub h)
  | k + 1, lo, hi, h => by
    rw [bis_eq]
    by_cases q : lo < hi
    · rw [if_pos q]
      cases hp : p ((lo + hi) / 2) with
      | true => exact h1 lo hi q hp (bis_rec h1 h2 h3 k _ _ (mid_k h q).1)
      | false => exact h2 lo hi q hp (bis_rec h1 h2 h3 k _ _ (mid_k h q).2)
    · rw [if_neg q]; exact h3 _ _ q
theorem mid_in {lo hi : Nat} (q : lo < hi) : lo ≤ (lo + hi) / 2 ∧ (lo + hi) / 2 < hi := by omega
theorem bis_le {p : Nat → Bool} {lo hi : Nat} : lo ≤ hi → lo ≤ bis p lo hi ∧ bis p lo hi ≤ hi := by
  refine bis_rec (C := fun lo hi r => lo ≤ hi → lo ≤ r ∧ r ≤ hi) ?_ ?_ ?_ _ lo hi (Nat.le_refl _)
  · intro lo hi h1 hp ih _; have h2 := mid_in h1; have := ih h2.1; exact ⟨this.1, Nat.le_trans this.2 (Nat.le_of_lt h2.2)⟩
  · intro lo hi h1 hp ih _; have h2 := mid_in h1; have := ih h2.2; exact ⟨Nat.le_trans (Nat.le_succ_of_le h2.1) this.1, this.2⟩
  · intro lo hi h1 h; exact ⟨Nat.le_refl _, h⟩

theorem EvL.nil {Q} (h : Q [] μ) : EvL g env own n ρ [] μ Q := h
abbrev LK2 (d : D) (Q : List D → Mu → Prop) : List D → Mu → Prop := fun ds μ₂ => Q (d :: ds) μ₂
abbrev LK1 (g : G) (env : Env) (own : List Addr) (n : Nat) (ρ : Str → Option D) (r : List Expr) (Q : List D → Mu → Prop) : D → Mu → Prop := fun d μ₁ => EvL g env own n ρ r μ₁ (LK2 d Q)
abbrev KK2 (x : Str) (d : D) (Q : List (Str × D) → Mu → Prop) : List (Str × D) → Mu → Prop := fun ks μ₂ => Q ((x, d) :: ks) μ₂
abbrev KK1 (g : G) (env : Env) (own : List Addr) (n : Nat) (ρ : Str → Option D) (x : Str) (r : List Keyword) (Q : List (Str × D) → Mu → Prop) : D → Mu → Prop := fun d μ₁ => EvK g env own n ρ r μ₁ (KK2 x d Q)
theorem EvL.cons {e r Q} (h : Ev g env own n ρ μ e (LK1 g env own n ρ r Q)) (hp : plainE e = true := by rfl) : EvL g env own n ρ (e :: r) μ Q := ⟨hp, h⟩
theorem EvK.nil {Q} (h : Q [] μ) : EvK g env own n ρ [] μ Q := h
theorem EvK.cons {x : Str} {e pos r Q} (h : Ev g env own n ρ μ e (KK1 g env own n ρ x r Q)) : EvK g env own n ρ (⟨some x, e, pos⟩ :: r) μ Q := h
theorem keep_blt {id : String} {P : Prop} (h : P) : KeepD g (.val (.builtin id)) ∧ P := ⟨KeepD.builtin, h⟩
theorem keep_type {id : String} {P : Prop} (h : P) : KeepD g (.val (.type id)) ∧ P := ⟨KeepD.type, h⟩
theorem keep_fn {K : Frag} {a : Addr} {P : Prop} (hK : g.K = K) (hk : keepIn K (.ref a) = true) (h : P) : KeepD g (.val (.ref a)) ∧ P := ⟨KeepD.fn (by rw [hK]; exact hk), h⟩
theorem keep_clo {q ps b sc cd cp} {P : Prop} (h : P) : KeepD g (.clo q ps b sc cd cp) ∧ P := ⟨KeepD.clo, h⟩
theorem keep_as {d} {P : Prop} (hk : KeepD g d) (h : P) : KeepD g d ∧ P := ⟨hk, h⟩

/-- a < b is told as r -/
def LtOk (a b : D) (r : Bool) : Prop := ∀ (g : G) (n : Nat) (μ : Mu) (Q : D → Mu → Prop), Q (.bool r) μ → Act2 g n μ (compareOp .Lt) a b Q
theorem LtOk.int {a b : Int} : LtOk (.int a) (.int b) (decide (a < b)) := fun _ _ _ _ h => Act2.lt h
/-- what a key answers -/
def KeyOk (g : G) (n : Nat) (k d e : D) : Prop := ∀ (l : List Env) (μ : Mu) (Q : D → Mu → Prop), Q e μ → Calls { g with stk := l } n k [d] [] μ Q
end

open PySem PySem.W PySem.Calls PyProof.Rows
set_option maxRecDepth 20000
section
variable {g : G} {env : Env} {own : List Addr} {n : Nat} {ρ : Str → Option D} {μ : Mu}

theorem AsgL.mono {K K' : (Str → Option D) → Prop} (k : ∀ r, K r → K' r) {es ds r} (h : AsgL env own K es ds r) : AsgL env own K' es ds r := by
  induction h with
  | nil h => exact .nil (k _ h)
  | cons b _ ih => exact .cons b ih
theorem Asg.mono {K K' : (Str → Option D) → Prop} (k : ∀ r, K r → K' r) {e d r} (h : Asg env own K e d r) : Asg env own K' e d r := by
  cases h with
  | name b h => exact .name b (k _ h)
  | tup h => exact .tup (h.mono k)
theorem Et.mono {e : Expr} {Q Q' : Bool → Mu → Prop} (h : Et g env own n ρ μ e Q) (k : ∀ d μ', Q d μ' → Q' d μ') : Et g env own n ρ μ e Q' :=
  fun A F s ok G Fs => wpAny_mono (h A F s ok G Fs) ((by rintro v s' ⟨μ', F', t, G', q⟩; exact ⟨μ', F', t, G', k _ _ q⟩)) fun _ _ x => x
theorem Ex.mono {ss : List Stmt} {Q Q' : Fl → (Str → Option D) → Mu → Prop} (h : Ex g env own n ρ μ ss Q) (k : ∀ f r μ', Q f r μ' → Q' f r μ') : Ex g env own n ρ μ ss Q' :=
  fun A F s ok G Fs => wpAny_mono (h A F s ok G Fs) ((by rintro fl s' ⟨f, r, μ', F', t, G', Fs', sf, q⟩; exact ⟨f, r, μ', F', t, G', Fs', sf, k _ _ _ q⟩)) fun _ _ x => x
theorem Calls.mono {f : D} {args kws} {Q Q' : D → Mu → Prop} (h : Calls g n f args kws μ Q) (k : ∀ d μ', Q d μ' → Q' d μ') : Calls g n f args kws μ Q' :=
  fun A F s fv vs kvs ok G sf sa sk hk => wpAny_mono (h A F s fv vs kvs ok G sf sa sk hk) (fun v s' p => EvPost.mono p k) fun _ _ x => x
theorem EvI.mono {tgt e} {Q Q' : List D → Mu → Prop} (h : EvI g env own n ρ μ tgt e Q) (k : ∀ d μ', Q d μ' → Q' d μ') : EvI g env own n ρ μ tgt e Q' :=
  fun A F s ok G Fs => wpAny_mono (h A F s ok G Fs) (fun x s₁ h₁ => wpAny_mono h₁ ((by rintro it s₂ ⟨ds, μ', F', fp, t, G', a, b, c, d, q⟩; exact ⟨ds, μ', F', fp, t, G', a, b, c, d, k _ _ q⟩)) fun _ _ x => x) fun _ _ x => x
theorem EtIfs.mono : ∀ {ifs : List Expr} {μ : Mu} {Q Q' : Bool → Mu → Prop}, EtIfs g env own n ρ ifs μ Q → (∀ d μ', Q d μ' → Q' d μ') → EtIfs g env own n ρ ifs μ Q'
  | [], μ, Q, Q', h, k => k _ _ h
  | c :: cs, μ, Q, Q', h, k => Et.mono h (by rintro b μ₁ ⟨h1, h2⟩; exact ⟨fun e => EtIfs.mono (h1 e) k, fun e => k _ _ (h2 e)⟩)

/-- a loop by an invariant over what is left -/
theorem ForL.run {tgt body Q} (I : List D → (Str → Option D) → Mu → Prop)
    (turn : ∀ d ds ρ μ, I (d :: ds) ρ μ → Asg env own (fun ρ₁ => Ex g env own n ρ₁ μ body fun f ρ₂ μ₂ => match f with
      | .next => I ds ρ₂ μ₂
      | .cont => I ds ρ₂ μ₂
      | .brk => Q .next ρ₂ μ₂
      | .ret d => Q (.ret d) ρ₂ μ₂) tgt d ρ) (fin : ∀ ρ μ, I [] ρ μ → Q .next ρ μ) : ∀ (ds : List D) {ρ μ}, I ds ρ μ → ForL g env own n tgt body ds ρ μ Q
  | [], ρ, μ, h => fin ρ μ h
  | d :: ds, ρ, μ, h => (turn d ds ρ μ h).mono fun r hr => hr.mono fun f r' μ' q => by
    cases f with
    | next => exact ForL.run I turn fin ds q
    | cont => exact ForL.run I turn fin ds q
    | brk => exact q
    | ret d => exact q

theorem upd_upd {ρ : Str → Option D} {x a b} : upd (upd ρ x a) x b = upd ρ x b := by funext y; unfold upd; split <;> rfl
theorem upd_upd2 {ρ : Str → Option D} {x y a b c d} : upd (upd (upd (upd ρ x a) y b) x c) y d = upd (upd ρ x c) y d := by
  funext z; unfold upd; by_cases h1 : z = y <;> by_cases h2 : z = x <;> simp [h1, h2]

/-- a comprehension whose elements are told one by one -/
theorem CompL.map {x : Str} {p : Pos} {elt : Expr} {K : CK} (f : D → D) (hb : Bindable env own x) : ∀ (ds : List D) (acc : List D) {ρ : Str → Option D}, acc.length + ds.length ≤ 100000 →
    (∀ d ∈ ds, ∀ Q : D → Mu → Prop, Q (f d) μ → Ev g env own n (upd ρ x d) μ elt Q) → (∀ r, K (acc ++ ds.map f) r μ) → CompL g env own n (CompG g env own n elt []) (.Name x p) [] ds ρ μ acc K
  | [], acc, ρ, hl, h, k => by have := k ρ; rwa [List.map_nil, List.append_nil] at this
  | d :: ds, acc, ρ, hl, h, k => by
    simp only [List.length_cons] at hl
    refine .name hb (show (true = true → _) ∧ (true = false → _) from ⟨fun _ => ⟨by lia, h d (.head _) _ ?_⟩, fun e => nomatch e⟩)
    refine CompL.map f hb ds _ (by simp; lia) (fun e he => by rw [upd_upd]; exact h e (.tail _ he)) (fun r => ?_)
    have := k r
    rwa [List.map_cons, ← List.singleton_append, ← List.append_assoc] at this
theorem CompL.filter {x : Str} {p : Pos} {elt test : Expr} {K : CK} (f : D → D) (c : D → Bool) (hb : Bindable env own x) : ∀ (ds : List D) (acc : List D) {ρ : Str → Option D}, acc.length + ds.length ≤ 100000 →
    (∀ d ∈ ds, ∀ Q : Bool → Mu → Prop, Q (c d) μ → Et g env own n (upd ρ x d) μ test Q) →
    (∀ d ∈ ds, c d = true → ∀ Q : D → Mu → Prop, Q (f d) μ → Ev g env own n (upd ρ x d) μ elt Q) → (∀ r, K (acc ++ (ds.filter c).map f) r μ) → CompL g env own n (CompG g env own n elt []) (.Name x p) [test] ds ρ μ acc K
  | [], acc, ρ, hl, ht, h, k => by have := k ρ; rwa [List.filter_nil, List.map_nil, List.append_nil] at this
  | d :: ds, acc, ρ, hl, ht, h, k => by
    simp only [List.length_cons] at hl
    refine .name hb (ht d (.head _) _ ⟨fun e => ?_, fun e => ?_⟩)
    · refine show (true = true → _) ∧ (true = false → _) from ⟨fun _ => ⟨by lia, h d (.head _) e _ ?_⟩, fun e => nomatch e⟩
      refine CompL.filter f c hb ds _ (by simp; lia) (fun e he => by rw [upd_upd]; exact ht e (.tail _ he)) (fun e he => by rw [upd_upd]; exact h e (.tail _ he)) (fun r => ?_)
      have := k r
      rwa [List.filter_cons_of_pos e, List.map_cons, ← List.singleton_append, ← List.append_assoc] at this
    · refine ⟨fun e => (nomatch e), fun _ => ?_⟩
      refine CompL.filter f c hb ds _ (by lia) (fun e he => by rw [upd_upd]; exact ht e (.tail _ he)) (fun e he => by rw [upd_upd]; exact h e (.tail _ he)) (fun r => ?_)
      have := k r
      rwa [List.filter_cons_of_neg (by rw [e]; exact Bool.false_ne_true)] at this
/-- two names -/
theorem CompL.map2 {x y : Str} {p q r0 : Pos} {k0 : Nat} {elt : Expr} {K : CK} (f : D → D → D) (hb : Bindable env own x) (hb2 : Bindable env own y) : ∀ (ds : List (D × D)) (acc : List D) {ρ : Str → Option D}, acc.length + ds.length ≤ 100000 →
    (∀ d ∈ ds, ∀ Q : D → Mu → Prop, Q (f d.1 d.2) μ → Ev g env own n (upd (upd ρ x d.1) y d.2) μ elt Q) → (∀ r, K (acc ++ ds.map fun d => f d.1 d.2) r μ) →
    CompL g env own n (CompG g env own n elt []) (.Tuple [.Name x p, .Name y q] k0 r0) [] (ds.map fun d => .tup [d.1, d.2]) ρ μ acc K
  | [], acc, ρ, hl, h, k => by have := k ρ; rwa [List.map_nil, List.append_nil] at this
  | d :: ds, acc, ρ, hl, h, k => by
    simp only [List.length_cons] at hl
    refine .tup (.cons hb (.cons hb2 (.nil (show (true = true → _) ∧ (true = false → _) from ⟨fun _ => ⟨by lia, h d (.head _) _ ?_⟩, fun e => nomatch e⟩))))
    refine CompL.map2 f hb hb2 ds _ (by simp; lia) (fun e he => by rw [upd_upd2]; exact h e (.tail _ he)) (fun r => ?_)
    have := k r
    rwa [List.map_cons, ← List.singleton_append, ← List.append_assoc] at this
theorem enumD_map : ∀ (ds : List D) (i : Int), enumD i ds = (ds.zipIdx.map fun (p : D × Nat) => ((D.int (i + p.2), p.1) : D × D)).map fun d => .tup [d.1, d.2] := by
  intro ds
  induction ds with
  | nil => intro i; rfl
  | cons d ds ih =>
    intro i
    rw [enumD, ih, List.zipIdx_cons, List.map_cons, List.map_cons]
    congr 1
    · simp
    · rw [List.zipIdx_succ]
      simp only [List.map_map]
      refine List.map_congr_left fun p hp => ?_
      simp only [Function.comp]
      congr 3; push_cast; lia
theorem zipD_map (xs ys : List D) : zipD xs ys = (xs.zip ys).map fun d => .tup [d.1, d.2] := by
  unfold zipD; rw [List.zip, List.map_zipWith]
end

open PySem PySem.W PySem.Calls PyProof.Rows
set_option maxRecDepth 20000
section
variable {g : G} {env : Env} {own : List Addr} {n : Nat} {ρ : Str → Option D} {μ : Mu}

theorem EvPost.keep {F : FM} {s : Shared} {h' : Heap} {tk : Tok} {v d} {Q : D → Mu → Prop} (G : GSt g μ F s.heap) (hk : ∀ b o, s.heap.get? b = some o → h'.get? b = some o) (sv : Sees F v d) (h : Q d μ) : EvPost g μ s F Q v { s with heap := h', toks := tk } :=
  ⟨d, μ, F, Tr.of_ext hk rfl rfl, G.ext hk, sv, h⟩
theorem EvPost.keepNew {F : FM} {s : Shared} {h' : Heap} {tk : Tok} {a : Addr} {vs : Array Value} {k : Nat} {ds} {Q : D → Mu → Prop} (G : GSt g μ F s.heap) (hk : ∀ b o, s.heap.get? b = some o → h'.get? b = some o)
    (ea : h'.get? a = some { cls := .type "list", dict := Option.none, data := .seq vs k, slots := #[] }) (fr : s.heap.get? a = none) (sa : SeesAll F vs.toList ds) (h : Q (.lst ds) μ) : EvPost g μ s F Q (.ref a) { s with heap := h', toks := tk } := by
  obtain ⟨h1, h2, h3⟩ := G.fresh fr
  have hle := put_le (o := { cls := .type "list", dict := Option.none, data := .seq vs k, slots := #[] }) h1
  refine ⟨_, μ, _, { Tr.of_ext (g := g) (mt := []) (μ := μ) (F := F) (s' := { s with heap := h', toks := tk }) hk rfl rfl with le := hle, fr := fun b => ?_ }, (G.ext hk).freeze ea h1 h2 h3 (fun _ _ z => nomatch z), .lst put_same (sa.mono hle), h⟩
  by_cases hb : b = a
  · subst hb; exact .inr (.inr (.inr fr))
  · rw [put_ne hb]; cases hF : F b with
    | none => exact .inl rfl
    | some x => exact .inr (.inl (by simp))
theorem EvPost.keepMut {F : FM} {s : Shared} {h' : Heap} {tk : Tok} {a : Addr} {vs : Array Value} {k : Nat} {ds} {Q : D → Mu → Prop} (G : GSt g μ F s.heap) (hk : ∀ b o, s.heap.get? b = some o → h'.get? b = some o)
    (ea : h'.get? a = some { cls := .type "list", dict := Option.none, data := .seq vs k, slots := #[] }) (fr : s.heap.get? a = none) (sa : SeesAll F vs.toList ds) (h : a ∉ μ.dom → Q (.val (.ref a)) ((a, .ml ds) :: μ)) : EvPost g μ s F Q (.ref a) { s with heap := h', toks := tk } := by
  obtain ⟨h1, h2, h3⟩ := G.fresh fr
  refine ⟨_, _, F, { Tr.of_ext (g := g) (mt := []) (μ := μ) (F := F) (s' := { s with heap := h', toks := tk }) hk rfl rfl with mu := fun b hb => ?_ }, (G.ext hk).push (m := .ml ds) h1 ⟨_, ea, vs, k, rfl, sa⟩ h2 h3, .val _, h h2⟩
  cases hb with
  | head => exact .inr fr
  | tail _ hb => exact .inl hb

/-! range, list -/
theorem Calls.range1 {k : Int} {Q} (h : Q (.rng 0 k 1) μ) : Calls g n (.val (.type "range")) [.int k] [] μ Q := Calls.of1 fun A F s fv va ok G sf sa => by
  obtain rfl := Sees.valI sf; obtain ⟨_, rfl⟩ := Sees.intI sa
  exact call_range_1 (EvPost.made G rfl rfl (.rng put_same) h)
theorem Calls.range2 {a b : Int} {Q} (h : Q (.rng a b 1) μ) : Calls g n (.val (.type "range")) [.int a, .int b] [] μ Q := Calls.of2 fun A F s fv va vb ok G sf sa sb => by
  obtain rfl := Sees.valI sf; obtain ⟨_, rfl⟩ := Sees.intI sa; obtain ⟨_, rfl⟩ := Sees.intI sb
  exact call_range_2 (EvPost.made G rfl rfl (.rng put_same) h)
theorem rangeD_get : ∀ (m : Nat) (a c : Int) (j : Nat), j < m → (rangeD a c m)[j]? = some (.int (a + j * c))
  | 0, a, c, j, h => by lia
  | m + 1, a, c, 0, h => by simp [rangeD]
  | m + 1, a, c, j + 1, h => by
    rw [rangeD, List.getElem?_cons_succ, rangeD_get m _ c j (by lia)]
    congr 2; push_cast; rw [Int.add_mul]; lia
theorem rangeD_len : ∀ (m : Nat) (a c : Int), (rangeD a c m).length = m
  | 0, a, c => rfl
  | m + 1, a, c => by rw [rangeD, List.length_cons, rangeD_len m]
theorem seesAll_of {F : FM} : ∀ {vs : List Value} {ds : List D}, vs.length = ds.length → (∀ (j : Nat) (v : Value) (d : D), vs[j]? = some v → ds[j]? = some d → Sees F v d) → SeesAll F vs ds
  | [], [], _, _ => .nil
  | [], _ :: _, h, _ => by simp at h
  | _ :: _, [], h, _ => by simp at h
  | v :: vs, d :: ds, h, k => .cons (k 0 v d rfl rfl) (seesAll_of (by simpa using h) fun j w e a b => k (j + 1) w e (by simpa using a) (by simpa using b))
theorem Calls.listRange {a b c : Int} {m : Nat} {Q} (hs : Builtin.Range.small a b c = true) (hm : Builtin.Range.rangeSize a b c = (m : Nat)) (hl : m ≤ 100000) (h : Q (.lst (rangeD a c m)) μ) : Calls g n (.val (.type "list")) [.rng a b c] [] μ Q :=
  Calls.of1 fun A F s fv va ok G sf sa => by
    obtain rfl := Sees.valI sf
    obtain @⟨_, _, _, _, e⟩ := Sees.rngI sa
    refine call_list_range ok.hand (G.fz _ _ e) hs hm (by lia) fun h' tk acc' c' hk ea it => EvPost.keepNew G hk ea (none_ge (Nat.le_refl _)) (seesAll_of ?_ fun j v d h1 h2 => ?_) h
    · rw [rangeD_len]; simpa using it.1
    · have hj : j < m := by
        have := (List.getElem?_eq_some_iff.mp h2).1; rwa [rangeD_len] at this
      rw [rangeD_get m a c j hj] at h2; cases h2
      obtain ⟨t, rfl⟩ := it.2 j v (by simpa using h1)
      exact .int _ _
theorem Calls.listSeq {x : D} {ds : List D} {Q} (hx : Rd μ x ds) (hl : ds.length ≤ 100000) (h : Q (.lst ds) μ) : Calls g n (.val (.type "list")) [x] [] μ Q :=
  Calls.of1 fun A F s fv va ok G sf sa => by
    obtain rfl := Sees.valI sf
    obtain ⟨a, vs, k, rfl, ha, sds⟩ := hx.at G sa
    have hz : vs.size = ds.length := sds.size
    exact call_list_seq a (.inl rfl) ha rfl rfl (fun h' c' hk ea => EvPost.keepNew (tk := s.toks) G hk ea (none_ge (Nat.le_refl _)) sds h) (by unfold sizeLine; lia)
theorem Calls.listMut {x : D} {ds : List D} {Q} (hx : Rd μ x ds) (hl : ds.length ≤ 100000) (h : ∀ a, a ∉ μ.dom → Q (.val (.ref a)) ((a, .ml ds) :: μ)) : Calls g n (.val (.type "list")) [x] [] μ Q :=
  Calls.of1 fun A F s fv va ok G sf sa => by
    obtain rfl := Sees.valI sf
    obtain ⟨a, vs, k, rfl, ha, sds⟩ := hx.at G sa
    have hz : vs.size = ds.length := sds.size
    exact call_list_seq a (.inl rfl) ha rfl rfl (fun h' c' hk ea => EvPost.keepMut (tk := s.toks) G hk ea (none_ge (Nat.le_refl _)) sds (h _)) (by unfold sizeLine; lia)

/-! max, min of two; sum -/
theorem Calls.max2 {a b : Int} {Q} (h : Q (.int (max a b)) μ) : Calls g n (.val (.builtin "max")) [.int a, .int b] [] μ Q := Calls.of2 fun A F s fv va vb ok G sf sa sb => by
  obtain rfl := Sees.valI sf
  obtain ⟨t, rfl⟩ := Sees.intI sa; obtain ⟨u, rfl⟩ := Sees.intI sb
  refine max_two_ints ok.hand fun h' tk hk => EvPost.keep G hk ?_ h
  split
  · rw [Int.max_eq_right (by lia)]; exact .int _ _
  · rw [Int.max_eq_left (by lia)]; exact .int _ _
theorem Calls.min2 {a b : Int} {Q} (h : Q (.int (min a b)) μ) : Calls g n (.val (.builtin "min")) [.int a, .int b] [] μ Q := Calls.of2 fun A F s fv va vb ok G sf sa sb => by
  obtain rfl := Sees.valI sf
  obtain ⟨t, rfl⟩ := Sees.intI sa; obtain ⟨u, rfl⟩ := Sees.intI sb
  refine min_two_ints ok.hand fun h' tk hk => EvPost.keep G hk ?_ h
  split
  · rw [Int.min_eq_right (by lia)]; exact .int _ _
  · rw [Int.min_eq_left (by lia)]; exact .int _ _
theorem sees_ints {F : FM} {ns : List Int} : ∀ {vs : List Value}, SeesAll F vs (ns.map .int) → ∃ l : List (Int × Tok), vs = l.map (fun p => Value.int p.1 p.2) ∧ l.map (·.1) = ns := by
  induction ns with
  | nil => intro vs h; exact ⟨[], SeesAll.nilI h, rfl⟩
  | cons x ns ih =>
    intro vs h
    obtain ⟨v, vs', rfl, s1, s2⟩ := SeesAll.consI h
    obtain ⟨l, rfl, e⟩ := ih s2
    obtain ⟨t, rfl⟩ := Sees.intI s1
    exact ⟨(x, t) :: l, rfl, congrArg (x :: ·) e⟩
theorem sees_intItems {F : FM} {vs : Array Value} {ns : List Int} (h : SeesAll F vs.toList (ns.map .int)) : ∃ xs : Array (Int × Tok), vs = intItems xs ∧ xs.toList.map (·.1) = ns := by
  obtain ⟨l, e, hl⟩ := sees_ints h
  refine ⟨l.toArray, ?_, hl⟩
  unfold intItems
  apply Array.ext'
  rw [e, Array.toList_map]
theorem numAt_eq' {xs : Array (Int × Tok)} {ns : List Int} (h : xs.toList.map (·.1) = ns) (i : Nat) : numAt xs i = ns.getD i 0 := by
  subst h
  unfold numAt
  rw [List.getD_eq_getElem?_getD, List.getElem?_map, Array.getElem?_toList]
theorem preSum_take (ns : List Int) : ∀ k, preSum (fun i => ns.getD i 0) k = (ns.take k).sum
  | 0 => by simp [preSum]
  | k + 1 => by
    rw [preSum, preSum_take ns k]
    by_cases hk : k < ns.length
    · rw [List.take_succ_eq_append_getElem hk, List.sum_append]; simp [List.getD_eq_getElem?_getD, hk]
    · rw [List.take_of_length_le (by lia), List.take_of_length_le (by lia), List.getD_eq_getElem?_getD, List.getElem?_eq_none (by lia)]; simp
theorem Calls.sum {x : D} {ns : List Int} {Q} (hx : Rd μ x (ns.map .int)) (hfit : ∀ j, j < ns.length → InLong (ns.getD j 0) ∧ InLong (ns.take (j + 1)).sum) (h : Q (.int ns.sum) μ) : Calls g n (.val (.builtin "sum")) [x] [] μ Q :=
  Calls.of1 fun A F s fv va ok G sf sa => by
    obtain rfl := Sees.valI sf
    obtain ⟨a, vs, rfl, hL, sds⟩ := hx.isList G sa
    obtain ⟨xs, rfl, hxs⟩ := sees_intItems sds
    have hf : numAt xs = fun i => ns.getD i 0 := funext (numAt_eq' hxs)
    have hz : xs.size = ns.length := by rw [← hxs, List.length_map, Array.length_toList]
    refine sum_intList ok.hand hL (fun j hj => ?_) fun h' tk t' hk => EvPost.keep G hk ?_ h
    · rw [hf, preSum_take]; exact hfit j (by lia)
    · rw [hf, preSum_take, hz, List.take_of_length_le (Nat.le_refl _)]; exact .int _ _
end

open PySem PySem.W PySem.Calls PyProof.Rows
set_option maxRecDepth 20000
section
variable {g : G} {env : Env} {own : List Addr} {n : Nat} {ρ : Str → Option D} {μ : Mu}

/-! a mutable list, seen as what it holds from here on -/
def Re (a : Addr) (ds : List D) (d d' : D) : Prop := ∀ (F : FM) v vs k, F a = some { cls := .type "list", dict := Option.none, data := .seq vs k, slots := #[] } → SeesAll F vs.toList ds → Sees F v d → Sees F v d'
theorem Re.hit {a ds} : Re a ds (.val (.ref a)) (.lst ds) := fun F v vs k e sa sv => by obtain rfl := Sees.valI sv; exact .lst e sa
theorem Re.same {a ds d} : Re a ds d d := fun F v vs k e sa sv => sv
inductive ReL (a : Addr) (ds : List D) : List D → List D → Prop
  | nil : ReL a ds [] []
  | cons {d d' l l'} : Re a ds d d' → ReL a ds l l' → ReL a ds (d :: l) (d' :: l')
theorem ReL.sees {a ds F vs k} (e : F a = some { cls := .type "list", dict := Option.none, data := .seq vs k, slots := #[] }) (sa : SeesAll F (vs : Array Value).toList ds) {l l'} (h : ReL a ds l l') : ∀ {ws}, SeesAll F ws l → SeesAll F ws l' := by
  induction h with
  | nil => exact id
  | cons r _ ih =>
    intro ws h
    obtain ⟨v, vs', rfl, s1, s2⟩ := SeesAll.consI h
    exact .cons (r _ _ _ _ e sa s1) (ih s2)
theorem Re.lst {a ds l l'} (h : ReL a ds l l') : Re a ds (.lst l) (.lst l') := fun F v vs k e sa sv => by
  obtain ⟨e', s'⟩ := Sees.lstI sv; exact .lst e' (h.sees e sa s')
theorem Re.tup {a ds l l'} (h : ReL a ds l l') : Re a ds (.tup l) (.tup l') := fun F v vs k e sa sv => by
  obtain ⟨e', s'⟩ := Sees.tupI sv; exact .tup e' (h.sees e sa s')

theorem Ex.freeze {a ds ss} {ρ' : Str → Option D} {Q} (hρ : ∀ x d', ρ' x = some d' → ∃ d, ρ x = some d ∧ Re a ds d d') (h : Ex g env own n ρ' μ ss Q) : Ex g env own n ρ ((a, .ml ds) :: μ) ss Q := fun A F s ok G Fs => by
  obtain ⟨hF, o, e, vs, k, rfl, sa⟩ := G.mu _ (.head _)
  dsimp only at hF e
  have hnd := List.nodup_cons.mp G.nd
  have hle := put_le (o := { cls := .type "list", dict := Option.none, data := .seq vs k, slots := #[] }) hF
  have G' := G.drop.freeze e hF hnd.1 (G.dj a (.head _)) (fun _ _ z => nomatch z)
  have Fs' : FSt env own ρ' μ (put F a { cls := .type "list", dict := Option.none, data := .seq vs k, slots := #[] }) s.heap := by
    refine ⟨Fs.ok, Fs.ns, fun x d' hx => ?_, Fs.cells, fun b hb => ?_, Fs.live, fun b hb q => Fs.muo b hb (.tail _ q)⟩
    · obtain ⟨d, hd, re⟩ := hρ x d' hx
      obtain ⟨v, hv, sv⟩ := Fs.vars x d hd
      exact ⟨v, hv, re _ _ _ _ put_same (sa.mono hle) (sv.mono hle)⟩
    · rw [put_ne (fun z : b = a => Fs.muo b hb (by rw [z]; exact .head _))]; exact Fs.ownF b hb
  refine wpAny_mono (h A _ s ok G' Fs') (fun fl s' ⟨f, r, μ', F', t, G₂, Fs₂, sf, q⟩ => ⟨f, r, μ', F', ?_, G₂, Fs₂, sf, q⟩) fun _ _ x => x
  refine ⟨fun b o h0 h1 h2 h3 => t.ext b o h0 h1 (fun z => h2 (.tail _ z)) h3, t.live, fun b o q => t.le b o (hle b o q), fun b => ?_, fun b hb => (t.mu b hb).imp (fun z => .tail _ z) id, t.os, t.gens⟩
  by_cases hb : b = a
  · subst hb; exact .inr (.inr (.inl (.head _)))
  · rcases t.fr b with h | h | h | h
    · exact .inl h
    · rw [put_ne hb] at h; exact .inr (.inl h)
    · exact .inr (.inr (.inl (.tail _ h)))
    · exact .inr (.inr (.inr h))
/-- the entry may lie deeper: bring it to the front -/
theorem Ex.perm {μ' : Mu} {ss Q} (hp : μ'.Perm μ) (h : Ex g env own n ρ μ' ss Q) : Ex g env own n ρ μ ss Q := fun A F s ok G Fs => by
  have hm : ∀ a, a ∈ μ'.dom ↔ a ∈ μ.dom := fun a => (hp.map _).mem_iff
  have G' : GSt g μ' F s.heap := ⟨G.base, G.fz, G.tb, fun p hp' => G.mu p (hp.mem_iff.mp hp'), (hp.map _).nodup_iff.mpr G.nd, G.fzc, fun a ha => G.dj a ((hm a).mp ha), fun x hx => (by obtain ⟨hk', L, m, hf, hn, hF', hm'⟩ := G.stk x hx; exact ⟨hk', L, m, hf, hn, hF', fun q => hm' ((hm _).mp q)⟩)⟩
  have Fs' : FSt env own ρ μ' F s.heap := ⟨Fs.ok, Fs.ns, Fs.vars, Fs.cells, Fs.ownF, Fs.live, fun a ha q => Fs.muo a ha ((hm a).mp q)⟩
  refine wpAny_mono (h A F s ok G' Fs') (fun fl s' ⟨f, r, μ', F', t, G₂, Fs₂, sf, q⟩ => ⟨f, r, μ', F', ?_, G₂, Fs₂, sf, q⟩) fun _ _ x => x
  exact ⟨fun b o h0 h1 h2 h3 => t.ext b o h0 h1 (fun z => h2 ((hm b).mp z)) h3, t.live, t.le, fun b => (t.fr b).imp id (Or.imp id (Or.imp (hm b).mp id)), fun b hb => (t.mu b hb).imp (hm b).mp id, t.os, t.gens⟩

/-! assignments -/
abbrev AsgTK (env : Env) (own : List Addr) (ρ : Str → Option D) (t : Expr) (Q : XQ) : D → Mu → Prop := fun d μ₁ => Asg env own (fun r => Q .next r μ₁) t d ρ
theorem Ex1.assignT {elts k tp e pos Q} (h : Ev g env own n ρ μ e (AsgTK env own ρ (.Tuple elts k tp) Q))
    (hs : swapsWithSole [.Tuple elts k tp] e pos.line env = pure false := by rfl) (hw : swappedStores [.Tuple elts k tp] e env = pure Option.none := by rfl) : Ex1 g env own n ρ μ (.Assign [.Tuple elts k tp] e pos) Q := fun A F s ok G Fs =>
  Assign_Tuple (hs := hs) (hw := hw) (wp_seq h ok G Fs fun v d μ₁ F₁ s₁ t G₁ Fs₁ sv h₁ => wpAny_mono (wp_asg ok.hand h₁ sv G₁ Fs₁) ((by rintro _ s₂ ⟨r, t₂, G₂, Fs₂, q⟩; exact ⟨.next, r, μ₁, F₁, t.toOwn.trans t₂, G₂, Fs₂, trivial, q⟩)) fun _ _ x => x)

theorem wp_bind {A : Around} {x v d K F s} (G : GSt g μ F s.heap) (Fs : FSt env own ρ μ F s.heap) (sv : Sees F v d) (hb : Bindable env own x) (h : K (upd ρ x d)) :
    wpAny (model g.prog g.w) A (bindName env x v) (APost g env own μ s F K) (fun _ _ => False) s :=
  bindName_ (st_store G Fs sv hb fun s' t G' Fs' _ => ⟨_, t, G', Fs', h⟩)
def updL (ρ : Str → Option D) : List Str → List D → (Str → Option D)
  | x :: xs, d :: ds => updL (upd ρ x d) xs ds
  | _, _ => ρ
theorem wp_binds {A : Around} {K} : ∀ {names : List Str} {vs : List Value} {ds : List D} {ρ F s}, SeesAll F vs ds → (∀ x ∈ names, Bindable env own x) → GSt g μ F s.heap → FSt env own ρ μ F s.heap → K (updL ρ names ds) →
    wpAny (model g.prog g.w) A (assignInOrder (names.map fun n => bindName env n) vs) (APost g env own μ s F K) (fun _ _ => False) s
  | [], vs, ds, ρ, F, s, sa, hb, G, Fs, h => wpAny_pure ⟨_, .refl, G, Fs, by cases ds <;> exact h⟩
  | x :: xs, _, _, ρ, F, s, .nil, hb, G, Fs, h => wpAny_pure ⟨_, .refl, G, Fs, h⟩
  | x :: xs, _, _, ρ, F, s, .cons sv sa, hb, G, Fs, h => by
    rw [List.map_cons]
    unfold assignInOrder
    refine wpAny_bind (wpAny_holding (wpAny_mono (wp_bind (K := fun r => r = upd ρ x _) G Fs sv (hb x (.head _)) rfl) ?_ fun _ _ x => x))
    rintro _ s₁ ⟨r, t₁, G₁, Fs₁, hr⟩
    subst hr
    exact wpAny_mono (wp_binds sa (fun y hy => hb y (.tail _ hy)) G₁ Fs₁ h) ((by rintro _ s₂ ⟨r, t₂, G₂, Fs₂, q⟩; exact ⟨r, t₁.trans t₂, G₂, Fs₂, q⟩)) fun _ _ x => x
abbrev AsgSK (ρ : Str → Option D) (names : List Str) (Q : XQ) : D → Mu → Prop := fun d μ₁ => ∃ ds, d = .tup ds ∧ ds.length = names.length ∧ Q .next (updL ρ names.reverse ds.reverse) μ₁
theorem Ex1.assignS {elts k tp e pos Q} {names : List Str} (h : Ev g env own n ρ μ e (AsgSK ρ names Q))
    (hb : ∀ x ∈ names, Bindable env own x) (hw : swappedStores [.Tuple elts k tp] e env = pure (some names))
    (hs : swapsWithSole [.Tuple elts k tp] e pos.line env = pure false := by rfl) : Ex1 g env own n ρ μ (.Assign [.Tuple elts k tp] e pos) Q := fun A F s ok G Fs =>
  Assign_Tuple_swapped (names := names) (hs := hs) (hw := hw) (wp_seq h ok G Fs fun v d μ₁ F₁ s₁ t G₁ Fs₁ sv h₁ => by
    obtain ⟨ds, rfl, hl, hq⟩ := h₁
    obtain @⟨a, vs, k0, e0, sds⟩ := Sees.tupI sv
    have hT : s₁.heap.IsTuple a vs := ⟨_, G₁.fz _ _ e0, rfl, _, rfl⟩
    have hz : vs.size = names.length := by rw [← hl]; exact sds.size
    rw [← hz]
    refine wpAny_unpackItems_tuple ok.hand hT fun h' hx => ?_
    have hk : ∀ b o, s₁.heap.get? b = some o → h'.get? b = some o := fun b o e => hx b o (Nat.ne_of_lt (Heap.lt_size e)) e
    have t1 : Tr g [] μ₁ μ₁ F₁ F₁ s₁ { s₁ with heap := h' } := Tr.of_ext hk rfl rfl
    refine wpAny_mono (wp_binds (s := { s₁ with heap := h' }) (K := fun r => Q .next r μ₁) sds.reverse (fun x hx => hb x (List.mem_reverse.mp hx)) (G₁.ext hk) (Fs₁.tr G₁ t1 (G₁.ext hk)) hq) ?_ fun _ _ x => x
    rintro _ s₂ ⟨r, t₂, G₂, Fs₂, q⟩
    exact ⟨.next, r, μ₁, F₁, (t.trans t1).toOwn.trans t₂, G₂, Fs₂, trivial, q⟩)

theorem FSt.at {F h h' C} (Fs : FSt env own ρ μ F h) (sb : Heap.SameBut C h h') (h1 : env.locals ≠ C) (h2 : ∀ p ∈ env.cells, p.2 ≠ C) (h3 : ∀ a ∈ own, a ≠ C) : FSt env own ρ μ F h' := by
  have k : ∀ b o, b ≠ C → h.get? b = some o → h'.get? b = some o := fun b o hb e => (sb.2 b hb).trans e
  refine ⟨Fs.ok, ?_, fun x d e => ?_, fun p hp => ?_, Fs.ownF, fun a ha => (by obtain ⟨o, e⟩ := Fs.live a ha; exact ⟨o, k _ _ (h3 a ha) e⟩), Fs.muo⟩
  · obtain ⟨m, o, es, ep, e, r⟩ := Fs.ns; exact ⟨m, o, es, ep, k _ _ h1 e, r⟩
  · obtain ⟨v, hv, sv⟩ := Fs.vars x d e; exact ⟨v, hv.keeps (fun o => k _ o h1) (fun p hp o => k _ o (h2 p hp)), sv⟩
  · obtain ⟨v, o, e, d⟩ := Fs.cells p hp; exact ⟨v, o, k _ _ (h2 p hp) e, d⟩

/-- a comprehension stored at once -/
theorem Ex1.assignComp {x : Str} {p : Pos} {elt tgt iter : Expr} {ifs : List Expr} {rest : List Comprehension} {scope : Scope} {cpos pos : Pos} {Q} (hn : 4 ≤ n) (ck : CompOk env scope (⟨tgt, iter, ifs, 0⟩ :: rest)) (hb : Bindable env own x)
    (hs : swapsWith (.ListComp elt (⟨tgt, iter, ifs, 0⟩ :: rest) scope cpos) (some (.Name x p)) pos.line env = pure true)
    (h : EvI g env own n ρ μ tgt iter fun ds μ₁ => ∀ cenv C, cenv = compEnvC scope (closGo env.cells scope.names []) C env →
      CompL g cenv [C] n (CompG g cenv [C] n elt rest) tgt ifs ds (restr scope ρ) μ₁ [] fun acc _ μ' => Q .next (upd ρ x (.lst acc)) μ') :
    Ex1 g env own n ρ μ (.Assign [.Name x p] (.ListComp elt (⟨tgt, iter, ifs, 0⟩ :: rest) scope cpos) pos) Q := fun A F s ok G Fs => by
  rw [exec_Assign_Name_used _ _ _ _ hs]
  refine wpAny_bind (wpAny_standAt (wpAny_bind ?_))
  show wpAny _ A (do let _ ← comprehension (.ListComp elt (⟨tgt, iter, ifs, 0⟩ :: rest) scope cpos) scope env (firstIterPos (⟨tgt, iter, ifs, 0⟩ :: rest) cpos) (newList []) false (firstIter (⟨tgt, iter, ifs, 0⟩ :: rest) env) (some (PySem.assign (.Name x p) env))) _ _ s
  refine wpAny_bind (wpAny_mono (comp_core (P := fun _ s' => ExPost g env own μ s F Q .next s') (Q := fun acc μ' => Q .next (upd ρ x (.lst acc)) μ') hn ck ok G Fs h fun a C s' accD μ' F' t G' Fs' sv hns hC hFC hmC htC hQ => ?_) (fun _ s' q => wpAny_pure (wpAny_pure q)) fun _ _ x => x)
  have hlC : env.locals ≠ C := fun z => by obtain ⟨m, o, es, ep, e, _⟩ := Fs.ns; rw [z, hC] at e; cases e
  have hcC : ∀ p ∈ env.cells, p.2 ≠ C := fun p hp z => by obtain ⟨v, o, e, _⟩ := Fs.cells p hp; rw [z, hC] at e; cases e
  have hoC : ∀ b ∈ own, b ≠ C := fun b hb z => by obtain ⟨o, e⟩ := Fs.live b hb; rw [z, hC] at e; cases e
  show wpAny _ A (PySem.assign (.Name x p) env (.ref a)) _ _ s'
  refine wpAny_mono (wp_assignName (K := fun r => r = upd ρ x (.lst accD)) G' Fs' sv hb rfl) ?_ fun _ _ x => x
  rintro _ s₂ ⟨r, t₂, G₂, Fs₂, hr⟩
  subst hr
  obtain ⟨m, hm⟩ := hns
  refine ⟨m, t₂.ns hm (fun q => hoC C q rfl) hmC htC, fun h' sb => ?_⟩
  have t3 := t.toOwn.trans t₂
  refine ⟨.next, _, μ', F', { t3 with
    ext := fun b o e h1 h2 h3 => (by obtain ⟨o', e', u⟩ := t3.ext b o e h1 h2 h3; exact ⟨o', (sb.2 b (fun z => by rw [z, hC] at e; cases e)).trans e', u⟩)
    live := fun b o e => (by obtain ⟨o', e'⟩ := t3.live b o e; exact ⟨o', (sb.2 b (fun z => by rw [z, hC] at e; cases e)).trans e'⟩ )}, G₂.at sb hFC hmC htC (fun x hx hf => by obtain ⟨_, _, _, _, e, _⟩ := G.stkNs hx hf; rw [hC] at e; cases e), Fs₂.at sb hlC hcC hoC, trivial, hQ⟩
end

open PySem PySem.W PySem.Calls PyProof.Rows
set_option maxRecDepth 20000
theorem mem_hd {α : Type} {a : α} {l : List α} : a ∈ a :: l := .head _
theorem mem_tl {α : Type} {a b : α} {l : List α} (h : a ∈ l) : a ∈ b :: l := .tail _ h
theorem fm_congr {α β : Type} {f g : α → Option β} : ∀ {l : List α}, (∀ x ∈ l, f x = g x) → l.filterMap f = l.filterMap g
  | [], _ => rfl
  | x :: l, h => by rw [List.filterMap_cons, List.filterMap_cons, h x (.head _), fm_congr fun y hy => h y (.tail _ hy)]
theorem range_pick {α : Type} : ∀ (l : List α), (List.range l.length).filterMap (l[·]?) = l
  | [] => rfl
  | x :: l => by
    rw [List.length_cons, List.range_succ_eq_map, List.filterMap_cons]
    simp only [List.getElem?_cons_zero, List.filterMap_map]
    congr 1
    exact (fm_congr fun k hk => by simp).trans (range_pick l)
theorem dpick_rev (ds : List D) : dpick ds Option.none Option.none (some (-1)) = ds.reverse := by
  unfold dpick sliceBounds sliceRange
  simp only [Option.getD_some, show ¬ ((-1 : Int) > 0) by decide, if_false]
  have hc : (if (ds.length : Int) - 1 > -1 then ((ds.length : Int) - 1 - -1 - -1 - 1) / (- -1) else 0).toNat = ds.length := by
    split
    · have : ((ds.length : Int) - 1 - -1 - -1 - 1) = ds.length := by lia
      rw [this]; simp
    · lia
  rw [hc, List.filterMap_map]
  refine (fm_congr fun k hk => ?_).trans ((congrArg (fun n => (List.range n).filterMap (ds.reverse[·]?)) (by simp)).trans (range_pick ds.reverse))
  rw [List.mem_range] at hk
  show ds[((ds.length : Int) - 1 + -1 * (k : Int)).toNat]? = ds.reverse[k]?
  rw [List.getElem?_reverse hk]
  congr 1; lia
theorem dpick_run (ds : List D) (a b : Nat) (hab : a ≤ b) (hb : b ≤ ds.length) : (sliceRange a b 1).filterMap (ds[·]?) = (ds.drop a).take (b - a) := by
  rw [sliceRange_one, List.filterMap_map]
  have hl : ((ds.drop a).take (b - a)).length = b - a := by simp; lia
  refine (fm_congr fun k hk => ?_).trans ((congrArg (fun n => (List.range n).filterMap (((ds.drop a).take (b - a))[·]?)) hl.symm).trans (range_pick _))
  rw [List.mem_range] at hk
  show ds[a + k]? = ((ds.drop a).take (b - a))[k]?
  rw [List.getElem?_take, if_pos hk, List.getElem?_drop]
theorem dpick_upto (ds : List D) (k : Nat) : dpick ds Option.none (some (k : Int)) Option.none = ds.take k := by
  unfold dpick sliceBounds
  simp only [Option.getD_none, show ((1 : Int) > 0) by decide, if_true]
  have e : max (0 : Int) (min (if (k : Int) < 0 then (k : Int) + ds.length else k) ds.length) = ((min k ds.length : Nat) : Int) := by
    rw [if_neg (by lia)]; lia
  rw [e]
  refine (dpick_run ds 0 _ (by lia) (by lia)).trans ?_
  rw [List.drop_zero, Nat.sub_zero]
  by_cases h : k ≤ ds.length
  · rw [Nat.min_eq_left h]
  · rw [List.take_of_length_le (by lia), List.take_of_length_le (by lia)]
theorem dpick_from (ds : List D) (k : Nat) : dpick ds (some (k : Int)) Option.none Option.none = ds.drop k := by
  unfold dpick sliceBounds
  simp only [Option.getD_none, show ((1 : Int) > 0) by decide, if_true]
  have e : max (0 : Int) (min (if (k : Int) < 0 then (k : Int) + ds.length else k) ds.length) = ((min k ds.length : Nat) : Int) := by
    rw [if_neg (by lia)]; lia
  rw [e]
  refine (dpick_run ds _ ds.length (by lia) (by lia)).trans ?_
  by_cases h : k ≤ ds.length
  · rw [Nat.min_eq_left h, List.take_of_length_le (by simp)]
  · rw [List.drop_of_length_le (by lia), List.drop_of_length_le (by lia), List.take_nil]
section
variable {g : G} {env : Env} {own : List Addr} {n : Nat} {ρ : Str → Option D} {μ : Mu}
theorem Act2.sliceM {o ds lo hi st value slice Q} (hr : Rd μ o ds) (h0 : st ≠ some 0) (hz : ds.length ≤ 100000) (h : ∀ a, a ∉ μ.dom → Q (.val (.ref a)) ((a, .ml (dpick ds lo hi st)) :: μ))
    (hs : ∃ ops : Value → Value → List Value, ∀ o i, subscripted slice false o i = operate (ops o i) (getItem o i)) : Act2 g n μ (subscriptTail value slice) o (.slc lo hi st) Q := fun A F s va vb ok G sa sb => by
  obtain ⟨l, vs, k, rfl, hl, sds⟩ := hr.at G sa
  obtain ⟨ops, hs⟩ := hs
  have z := sds.size
  obtain @⟨_, _, _, _, e, p1, p2, p3⟩ := Sees.slcI sb
  have hL : s.heap.IsList l vs := ⟨_, hl, rfl, _, rfl⟩
  refine tail_any hL.typeIs slot_list_getitem.lookup (wpAny_getItem_list_slice hL ⟨_, G.fz _ _ e, rfl, rfl⟩ p1 p2 p3 h0 (EvPost.newmut (tk := s.toks) G rfl (sds.pick lo hi st) h) (by unfold sizeLine; lia)) (hs _ _)

theorem Rd.weak {d ds p} (h : Rd μ d ds) : Rd (p :: μ) d ds := h.imp id (by rintro ⟨a, e, m⟩; exact ⟨a, e, .tail _ m⟩)
theorem len_and {l : List D} {P : Prop} (h : l.length ≤ 1000) (k : P) : l.length ≤ 1000 ∧ P := ⟨h, k⟩
set_option tactic.hygienic true in
theorem reUpd {ρ : Str → Option D} {x : Str} {a : Addr} {ds : List D} {d0 d1 : D} (h : ρ x = Option.some d0) (re : Re a ds d0 d1) : ∀ y d', upd ρ x d1 y = Option.some d' → ∃ d, ρ y = Option.some d ∧ Re a ds d d' := fun y d' e => by
  unfold upd at e
  split at e
  · rename_i hy; subst hy; cases e; exact ⟨d0, h, re⟩
  · exact ⟨d', e, .same⟩
theorem EvP.none {Q} (h : Q Option.none μ) : EvP g env own n ρ μ Option.none Q := h
theorem EvP.some {e Q} (h : Ev g env own n ρ μ e (PK Q)) : EvP g env own n ρ μ (Option.some e) Q := h

theorem intsAre_of {F : FM} {ns : List Int} : ∀ {vs : List Value}, SeesAll F vs (ns.map .int) → IntsAre vs ns := by
  induction ns with
  | nil => intro vs h; obtain rfl := SeesAll.nilI h; exact .nil
  | cons x ns ih =>
    intro vs h
    obtain ⟨v, vs', rfl, s1, s2⟩ := SeesAll.consI h
    obtain ⟨t, rfl⟩ := Sees.intI s1
    exact .cons _ _ (ih s2)
theorem Calls.count {x : D} {ns : List Int} {k : Int} {Q} (hx : Rd μ x (ns.map .int)) (h : Q (.int (ns.count k : Nat)) μ) : Calls g n (.val (.builtin "list.count")) [x, .int k] [] μ Q :=
  Calls.of2 fun A F s fv va vb ok G sf sa sb => by
    obtain rfl := Sees.valI sf
    obtain ⟨a, vs, rfl, hL, sds⟩ := hx.isList G sa
    obtain ⟨t, rfl⟩ := Sees.intI sb
    refine count_list_ints (vs := vs.toList) (by simpa using hL) (intsAre_of sds) (EvPost.here G rfl rfl rfl (.int _ _) h)
end

open PySem PySem.W PySem.Calls PyProof.Rows
set_option maxRecDepth 20000
section
variable {g : G} {env : Env} {own : List Addr} {n : Nat} {ρ : Str → Option D} {μ : Mu}
theorem Act2.isBool {a b : Bool} {Q} (h : Q (.bool (a == b)) μ) : Act2 g n μ (compareOp .Is) (.bool a) (.bool b) Q := fun A F s va vb ok G sa sb => by
  obtain rfl := Sees.boolI sa; obtain rfl := Sees.boolI sb; exact is_bool (EvPost.here G rfl rfl rfl (.bool _) h)
theorem is_int_bool {M : Model} {A : Around} {E : Value → Shared → Prop} {s : Shared} {Q : Value → Shared → Prop} {i : Int} {t : Tok} {d : Bool} (h : Q (.bool false) s) : wpAny M A (compareOp .Is (.int i t) (.bool d)) Q E s :=
  wpAny_pure (a := Value.bool (Value.int i t == Value.bool d)) (by
    have e : (Value.int i t == Value.bool d) = false := by cases h : (Value.int i t == Value.bool d) with
      | false => rfl
      | true => exact absurd (eq_of_beq h) (by intro q; cases q)
    rw [e]; exact h)
theorem Act2.isBoolInt {a : Int} {b : Bool} {Q} (h : Q (.bool false) μ) : Act2 g n μ (compareOp .Is) (.int a) (.bool b) Q := fun A F s va vb ok G sa sb => by
  obtain ⟨_, rfl⟩ := Sees.intI sa; obtain rfl := Sees.boolI sb; exact is_int_bool (EvPost.here G rfl rfl rfl (.bool _) h)
/-- a bool of the first decides -/
theorem Ev.and1 {e pos Q} (h : Ev g env own n ρ μ e Q) : Ev g env own n ρ μ (.BoolOp .And [e] pos) Q := fun A F s ok G Fs => BoolOp_one (h A F s ok G Fs)
theorem Ev.and {e₁ e₂ rest pos Q} (h : Ev g env own n ρ μ e₁ fun d μ₁ => ∃ b, d = .bool b ∧ (b = true → Ev g env own n ρ μ₁ (.BoolOp .And (e₂ :: rest) pos) Q) ∧ (b = false → Q (.bool false) μ₁)) :
    Ev g env own n ρ μ (.BoolOp .And (e₁ :: e₂ :: rest) pos) Q := fun A F s ok G Fs =>
  BoolOp_and (wp_seq h ok G Fs fun v d μ₁ F₁ s₁ t₁ G₁ Fs₁ sv ⟨b, hd, h1, h2⟩ => by
    subst hd
    obtain rfl := Sees.boolI sv
    refine wpAny_mono (show wpAny _ _ (truthy (.bool b)) (fun c s₂ => c = b ∧ s₂ = s₁) _ _ from wpAny_pure ⟨rfl, rfl⟩) ?_ fun _ _ x => x
    rintro c s₂ ⟨e1, e2⟩
    subst e1 e2
    cases c with
    | true => exact post_weak t₁ (h1 rfl A F₁ s₂ ok G₁ Fs₁)
    | false => exact ⟨_, μ₁, F₁, t₁, G₁, .bool _, h2 rfl⟩)
end
theorem gives_lt_bool_int (p : Bool) (b : Int) (u : Tok) : Gives (Builtin.«int.__lt__» ⟨[.bool p, .int b u], []⟩) (.val (.bool (decide ((if p = true then (1:Int) else 0) < b)))) := .of_eq rfl
theorem gives_gt_bool_int (p : Bool) (b : Int) (u : Tok) : Gives (Builtin.«int.__gt__» ⟨[.bool p, .int b u], []⟩) (.val (.bool (decide ((if p = true then (1:Int) else 0) > b)))) := .of_eq rfl
def numB (b : Bool) : Int := if b = true then 1 else 0
theorem LtOk.bi {a : Bool} {b : Int} : LtOk (.bool a) (.int b) (decide (numB a < b)) := fun g n μ Q h A F s va vb ok G sa sb => by
  obtain rfl := Sees.boolI sa; obtain ⟨u, rfl⟩ := Sees.intI sb
  show wpAny _ A (richCompare .Lt (.bool a) (.int b u)) _ _ s
  exact SeqAt.rc_left_or rfl (typeIs_int s b u) (by decide) PySem.F.sub_int_bool PySem.F.slot_bool_lt
    (call_gives PySem.F.slot_bool_lt rfl PySem.F.entry_int_lt (PySem.F.args_int_lt_2 _ _) (gives_lt_bool_int a b u) ⟨nofun, EvPost.here G rfl rfl rfl (.bool _) h⟩) (.inl rfl)
theorem LtOk.ib {a : Int} {b : Bool} : LtOk (.int a) (.bool b) (decide (a < numB b)) := fun g n μ Q h A F s va vb ok G sa sb => by
  obtain rfl := Sees.boolI sb; obtain ⟨t, rfl⟩ := Sees.intI sa
  show wpAny _ A (richCompare .Lt (.int a t) (.bool b)) _ _ s
  exact SeqAt.rc_sub_first_or (typeIs_int s a t) rfl (by decide) PySem.F.sub_bool_int PySem.F.slot_bool_gt_refl
    (call_gives PySem.F.slot_bool_gt_refl rfl PySem.F.entry_int_gt (PySem.F.args_int_gt_2 _ _) (gives_gt_bool_int b a t) ⟨nofun, EvPost.here G rfl rfl rfl (.bool _) h⟩) (.inl rfl)
theorem LtOk.bb {a b : Bool} : LtOk (.bool a) (.bool b) (decide (numB a < numB b)) := fun g n μ Q h A F s va vb ok G sa sb => by
  obtain rfl := Sees.boolI sa; obtain rfl := Sees.boolI sb
  exact lt_bool (EvPost.here G rfl rfl rfl (.bool _) h)

open PySem PySem.W PySem.Calls PyProof.Rows
set_option maxRecDepth 20000
theorem sees_of_ints {F : FM} {vs : List Value} {ns : List Int} (h : IntsAre vs ns) : SeesAll F vs (ns.map .int) := by
  induction h with
  | nil => exact .nil
  | cons x t _ ih => exact .cons (.int x t) ih
section
variable {g : G} {env : Env} {own : List Addr} {n : Nat} {ρ : Str → Option D} {μ : Mu}
theorem Calls.sortedInts {x : D} {ns : List Int} {Q} (hx : Rd μ x (ns.map .int)) (h64 : ns.length < 64) (h : ∀ ns' : List Int, ns'.Perm ns → ns'.Pairwise (· ≤ ·) → Q (.lst (ns'.map .int)) μ) : Calls g n (.val (.builtin "sorted")) [x] [] μ Q :=
  Calls.of1 fun A F s fv va ok G sf sa => by
    obtain rfl := Sees.valI sf
    obtain ⟨a, vs, rfl, hL, sds⟩ := hx.isList G sa
    have hz : vs.toList.length = ns.length := by have := sds.length; simpa using this
    refine sorted_ints (vs := vs.toList) (by simpa using hL) (intsAre_of sds) (by lia) fun out ns' a1 a2 a3 => ?_
    obtain ⟨e, he⟩ := sortedAll_at s.heap vs.toList out
    exact EvPost.keepNew (tk := s.toks) G (fun _ _ => sortedAll_old) he (none_ge (Nat.le_succ _)) (sees_of_ints a1) (h ns' a2 a3)
end

open PySem PySem.W PySem.Calls PyProof.Rows
set_option maxRecDepth 20000

/-- what an exception's flight leaves: all but the frames' own objects, as the heap B holds it -/
def Cov (g : G) (B : Heap) (μ' : Mu) (F' : FM) (s s' : Shared) : Prop :=
  (∀ a o, F' a = some o → B.get? a = some o) ∧ (∀ a o, a ∈ μ'.dom ∨ a ∈ g.tabDom → s'.heap.get? a = some o → B.get? a = some o) ∧
  (∀ b o, (∃ o₀, s.heap.get? b = some o₀) → s'.heap.get? b = some o → ¬ IsNs o → B.get? b = some o)
inductive ErrPost (g : G) (mt : List Addr) (msg : Str) (μ : Mu) (s : Shared) (F : FM) (P : Mu → Prop) (e : Value) (s' : Shared) : Prop
  | mk (ea ta : Addr) (tk : Tok) (B : Heap) (μ' : Mu) (F' : FM) (he : e = .ref ea) (fl : Heap.FlyingW B g.stk ea (.type "ValueError") (.ref ta) s'.heap) (tu : s'.heap.TupAt ta [.str msg tk] ∧ B.get? ta = none) (t : Tr g mt μ μ' F F' s s') (G : GSt g μ' F' s'.heap) (c : Cov g B μ' F' s s') (p : P μ')
inductive MadePost (g : G) (mt : List Addr) (msg : Str) (μ : Mu) (s : Shared) (F : FM) (P : Mu → Prop) (e : Value) (s' : Shared) : Prop
  | mk (ea : Addr) (tk : Tok) (μ' : Mu) (F' : FM) (h0 : Heap) (he : e = .ref ea) (m : Heap.MadeExcOf h0 s'.heap ea (.type "ValueError") [.str msg tk]) (t : Tr g mt μ μ' F F' s { s' with heap := h0 }) (G : GSt g μ' F' h0) (p : P μ')
def RPost (g : G) (mt : List Addr) (msg : Str) (μ : Mu) (s : Shared) (F : FM) (P : Mu → Prop) (e : Value) (s' : Shared) : Prop :=
  ErrPost g mt msg μ s F P e s' ∨ MadePost g mt msg μ s F P e s'

theorem GSt.slots {g : G} {μ F h h'} (G : GSt g μ F h) (hF : ∀ a o, F a = some o → h'.get? a = some o) (hm : ∀ a o, a ∈ μ.dom ∨ a ∈ g.tabDom → h.get? a = some o → h'.get? a = some o) (hn : ∀ a m, h.Ns a m → h'.Ns a m) : GSt g μ F h' :=
  ⟨G.base, hF, fun q hq => (by obtain ⟨a, ps, b, c, d⟩ := G.tb q hq; exact ⟨a, ps, hm _ _ (.inr (List.mem_map_of_mem (f := (·.2.1)) hq)) b, c, d⟩),
    fun p hp => (by obtain ⟨a, b⟩ := G.mu p hp; exact ⟨a, b.move (fun _ _ x => x) fun o e => hm _ _ (.inl (List.mem_map_of_mem (f := (·.1)) hp)) e⟩), G.nd, G.fzc, G.dj,
    fun x hx => (by obtain ⟨hk, L, m, hf, hn', hF', hm'⟩ := G.stk x hx; exact ⟨hk, L, m, hf, hn _ _ hn', hF', hm'⟩)⟩

theorem GSt.domLive {g : G} {μ F h} (G : GSt g μ F h) {a} (ha : a ∈ μ.dom ∨ a ∈ g.tabDom) : ∃ o, h.get? a = some o := by
  rcases ha with ha | ha
  · obtain ⟨p, hp, rfl⟩ := List.mem_map.mp ha; exact (G.mu p hp).2.live
  · obtain ⟨q, hq, rfl⟩ := List.mem_map.mp ha; obtain ⟨_, ps, b, _⟩ := G.tb q hq; exact ⟨_, b⟩

theorem IsNs.slots {o : Obj} {sl} (h : IsNs o) : IsNs { o with slots := sl } := h
theorem not_fields {o : Obj} (h : IsNs o) : ∀ vs, o.data ≠ .fields vs := fun vs q => by obtain ⟨es, ep, z⟩ := h; rw [q] at z; cases z

theorem err_step {g : G} {mt μ μ' F F' s s' B h'} (t : Tr g mt μ μ' F F' s s') (G : GSt g μ' F' s'.heap) (c : Cov g B μ' F' s s') (st : B.StaysIn h') (up : s'.heap.UpToSlots h') :
    Tr g mt μ μ' F F' s { s' with heap := h' } ∧ GSt g μ' F' h' ∧ Cov g B μ' F' s { s' with heap := h' } := by
  have go : ∀ b, (∃ o, s.heap.get? b = some o) → ∀ o', s'.heap.get? b = some o' → ∃ o'', h'.get? b = some o'' ∧ Up o' o'' := fun b hb o' e' => by
    by_cases hn : IsNs o'
    · obtain ⟨sl, hs⟩ := up b o' e' (not_fields hn); exact ⟨_, hs, .slots hn sl⟩
    · exact ⟨o', st _ _ (c.2.2 b o' hb e' hn), .refl o'⟩
  refine ⟨{ t with ext := fun b o e h1 h2 h3 => ?_, live := fun b o e => ?_ }, G.slots (fun a o e => st _ _ (c.1 a o e)) (fun a o ha e => st _ _ (c.2.1 a o ha e)) (fun a m hm => up.ns hm), c.1, fun a o ha e => ?_, fun b o hb e hn => ?_⟩
  · obtain ⟨o', e', u⟩ := t.ext b o e h1 h2 h3
    obtain ⟨o'', e'', u'⟩ := go b ⟨o, e⟩ o' e'
    exact ⟨o'', e'', u.trans u'⟩
  · obtain ⟨o', e'⟩ := t.live b o e
    obtain ⟨o'', e'', _⟩ := go b ⟨o, e⟩ o' e'
    exact ⟨o'', e''⟩
  · obtain ⟨o', e'⟩ := G.domLive ha
    have hB := c.2.1 a o' ha e'
    have := st _ _ hB
    rw [show h'.get? a = some o from e] at this
    cases this; exact hB
  · obtain ⟨o₀, e₀⟩ := hb
    obtain ⟨o', e'⟩ := t.live b o₀ e₀
    by_cases hn' : IsNs o'
    · obtain ⟨sl, hs⟩ := up b o' e' (not_fields hn')
      rw [show h'.get? b = some o from e] at hs
      cases hs; exact absurd hn'.slots hn
    · have hB := c.2.2 b o' ⟨o₀, e₀⟩ e' hn'
      have := st _ _ hB
      rw [show h'.get? b = some o from e] at this
      cases this; exact hB

theorem funFrames_of {μ F h} {as : List Addr} : ∀ {l : List Env}, (∀ e ∈ l, FrL e μ F h) → (∀ e ∈ l, ∀ a, e.frame = some a → a ∈ as) → h.FunFrames (hideAll h as) l
  | [], _, _ => trivial
  | e :: l, H, K => by
    obtain ⟨hk, L, m, hf, ⟨o, es, ep, ho, hd, _⟩, _⟩ := H e (.head _)
    exact ⟨hk, ⟨L, o, hf, hideAll_none _ (K e (.head _) L hf), ho, fun vs q => by rw [hd] at q; cases q⟩, funFrames_of (fun e' he => H e' (.tail _ he)) fun e' he => K e' (.tail _ he)⟩

section
variable {g : G} {env : Env} {own : List Addr} {n : Nat} {ρ : Str → Option D} {μ : Mu}

theorem ErrPost.trans {mt μ₁ s s₁ F F₁ msg P e s'} (t : Tr g mt μ μ₁ F F₁ s s₁) (h : ErrPost g mt msg μ₁ s₁ F₁ P e s') : ErrPost g mt msg μ s F P e s' :=
  let ⟨ea, ta, tk, B, μ', F', e, fl, tp, t', G, c, p⟩ := h
  ⟨ea, ta, tk, B, μ', F', e, fl, tp, t.trans t', G, ⟨c.1, c.2.1, (by rintro b o ⟨o₀, e₀⟩; exact c.2.2 b o (t.live b o₀ e₀))⟩, p⟩
theorem RPost.trans {mt μ₁ s s₁ F F₁ msg P e s'} (t : Tr g mt μ μ₁ F F₁ s s₁) (h : RPost g mt msg μ₁ s₁ F₁ P e s') : RPost g mt msg μ s F P e s' :=
  h.imp (·.trans t) (by rintro ⟨ea, tk, μ', F', h0, e, m, t', G, p⟩; exact ⟨ea, tk, μ', F', h0, e, m, t.trans t', G, p⟩)
theorem RPost.toOwn {mt s F msg P e s'} (h : RPost g [] msg μ s F P e s') : RPost g mt msg μ s F P e s' :=
  h.imp ((by rintro ⟨ea, ta, tk, B, μ', F', e, fl, tp, t', G, c, p⟩; exact ⟨ea, ta, tk, B, μ', F', e, fl, tp, t'.toOwn, G, c, p⟩)) (by rintro ⟨ea, tk, μ', F', h0, e, m, t', G, p⟩; exact ⟨ea, tk, μ', F', h0, e, m, t'.toOwn, G, p⟩)

theorem leave {M : Model} {A : Around} {E : Value → Shared → Prop} {mt s F msg P e s'} (hfr : A.frames = some (env :: g.stk)) (fresh : ∀ a ∈ mt, s.heap.get? a = none) (r : RPost (g.push env) mt msg μ s F P e s') :
    wpAny M A (leaving env e) (fun _ s'' => ErrPost g [] msg μ s F P e s'') E s' := by
  have down : ∀ {μ' F' s''}, Tr (g.push env) mt μ μ' F F' s s'' → Tr g [] μ μ' F F' s s'' := fun t => t.pop_frame.mtLe fun a ha => .inr (fresh a ha)
  rcases r with ⟨ea, ta, tk, B, μ', F', rfl, fl, tp, t, G, c, p⟩ | ⟨ea, tk, μ', F', h0, rfl, m, t, G, p⟩
  · obtain ⟨L, hf⟩ : ∃ L, env.frame = some L := by obtain ⟨_, _, ⟨_, ⟨L, _, hf, _⟩, _⟩, _⟩ := fl; exact ⟨L, hf⟩
    refine wpAny_leaves_onW hfr hf fl fun h' fl' up => ?_
    obtain ⟨t', G', c'⟩ := err_step t G c fl'.1 up
    exact ⟨ea, ta, tk, B, μ', F', rfl, fl', ⟨tp.1.of_slots up, tp.2⟩, down t', G'.pop_frame, c', p⟩
  · obtain ⟨_, L, _, hf, _⟩ := G.stk env (.head _)
    have inn : ∀ e ∈ env :: g.stk, ∀ a, e.frame = some a → a ∈ (env :: g.stk).filterMap (·.frame) := fun e he a ha => List.mem_filterMap.mpr ⟨e, he, ha⟩
    have out : ∀ a, a ∈ (env :: g.stk).filterMap (·.frame) → (∃ m, h0.Ns a m) ∧ F' a = none ∧ a ∉ μ'.dom := fun a ha => by
      obtain ⟨e, he, hf⟩ := List.mem_filterMap.mp ha
      obtain ⟨_, L, m, hf', hn, h1, h2⟩ := G.stk e he
      rw [hf] at hf'; cases hf'; exact ⟨⟨m, hn⟩, h1, h2⟩
    have c : Cov (g.push env) (hideAll h0 ((env :: g.stk).filterMap (·.frame))) μ' F' s { s' with heap := h0 } := by
      refine ⟨fun a o e => hideAll_get _ (G.fz a o e) fun q => ?_, fun a o ha e => hideAll_get _ e fun q => ?_, fun b o hb e hn => hideAll_get _ e fun q => ?_⟩
      · rw [(out a q).2.1] at e; cases e
      · rcases ha with ha | ha
        · exact (out a q).2.2 ha
        · obtain ⟨m, hm⟩ := (out a q).1; exact G.nsTab hm ha
      · obtain ⟨m, o', es, ep, ho, hd, _⟩ := (out b q).1
        rw [show h0.get? b = some o from e] at ho; cases ho; exact hn ⟨es, ep, hd⟩
    refine wpAny_leaves_madeW (h := h0) hfr hf (fun b o q => of_hideAll _ q) (funFrames_of (μ := μ') (F := F') G.stk inn) m fun h' t' fl tup tn up => ?_
    obtain ⟨t'', G', c'⟩ := err_step (s' := { s' with heap := h0 }) (h' := h') t G c fl.1 ((Heap.UpToSlots.of_keeps m.keeps).trans up)
    exact ⟨ea, t', tk, _, μ', F', rfl, fl, ⟨tup, tn⟩, down t'', G'.pop_frame, c', p⟩

variable (g env own n ρ μ)
def RaisesE (e : Expr) (msg : Str) (P : Mu → Prop) : Prop :=
  ∀ A F s, Ok g n A → GSt g μ F s.heap → FSt env own ρ μ F s.heap → wpAny (model g.prog g.w) A (eval e env) (fun _ _ => False) (ErrPost g [] msg μ s F P) s
def Raises (ss : List Stmt) (msg : Str) (P : Mu → Prop) : Prop :=
  ∀ A F s, Ok g n A → GSt g μ F s.heap → FSt env own ρ μ F s.heap → wpAny (model g.prog g.w) A (execs ss env) (fun _ _ => False) (RPost g own msg μ s F P) s
def Raises1 (st : Stmt) (msg : Str) (P : Mu → Prop) : Prop :=
  ∀ A F s, Ok g n A → GSt g μ F s.heap → FSt env own ρ μ F s.heap → wpAny (model g.prog g.w) A (exec st env) (fun _ _ => False) (RPost g own msg μ s F P) s
def CallsR (f : D) (args : List D) (kws : List (Str × D)) (msg : Str) (P : Mu → Prop) : Prop :=
  ∀ A F s fv vs kvs, Ok g n A → GSt g μ F s.heap → Sees F fv f → SeesAll F vs args → SeesAll F (kvs.map (·.2)) (kws.map (·.2)) → kvs.map (·.1) = kws.map (·.1) →
    wpAny (model g.prog g.w) A (call fv vs kvs) (fun _ _ => False) (ErrPost g [] msg μ s F P) s
variable {g env own n ρ μ}

theorem Raises.here {st rest msg P} (h : Raises1 g env own n ρ μ st msg P) : Raises g env own n ρ μ (st :: rest) msg P := fun A F s ok G Fs =>
  wpAny_execs_cons (wpAny_mono (h A F s ok G Fs) (fun _ _ x => x.elim) fun _ _ x => x)
theorem Raises.later {st rest msg P} (h : Ex1 g env own n ρ μ st fun f ρ₁ μ₁ => (f = .next → Raises g env own n ρ₁ μ₁ rest msg P) ∧ (f ≠ .next → False)) : Raises g env own n ρ μ (st :: rest) msg P := fun A F s ok G Fs =>
  wpAny_execs_cons (wpAny_mono (h A F s ok G Fs) (by
    rintro fl s₁ ⟨f, ρ₁, μ₁, F₁, t, G₁, Fs₁, sf, h₁, h₂⟩
    cases fl <;> cases f <;> first | exact sf.elim | exact wpAny_mono (h₁ rfl A F₁ s₁ ok G₁ Fs₁) (fun _ _ x => x.elim) (fun _ _ x => x.trans t) | exact (h₂ (by intro x; cases x)).elim) fun _ _ x => x.elim)
theorem Raises1.ite {t b o pos msg P} (h : Et g env own n ρ μ t fun c μ₁ => (c = true → Raises g env own n ρ μ₁ b msg P) ∧ (c = false → Raises g env own n ρ μ₁ o msg P)) : Raises1 g env own n ρ μ (.If t b o pos) msg P := fun A F s ok G Fs =>
  wpAny_If (wt_seq h ok G Fs fun c μ₁ F₁ s₁ t₁ G₁ Fs₁ h₁ => by
    cases c with
    | true => exact wpAny_mono (h₁.1 rfl A F₁ s₁ ok G₁ Fs₁) (fun _ _ x => x.elim) fun _ _ x => x.trans t₁.toOwn
    | false => exact wpAny_mono (h₁.2 rfl A F₁ s₁ ok G₁ Fs₁) (fun _ _ x => x.elim) fun _ _ x => x.trans t₁.toOwn)
theorem Raises1.assign {x p e pos msg P} (h : RaisesE g env own n ρ μ e msg P) (hs : swapsWith e (some (.Name x p)) pos.line env = pure false := by rfl) : Raises1 g env own n ρ μ (.Assign [.Name x p] e pos) msg P := fun A F s ok G Fs =>
  wpAny_Assign_Name (hs := hs) (wpAny_mono (h A F s ok G Fs) (fun _ _ x => x.elim) fun _ _ x => RPost.toOwn (.inl x))
theorem Raises1.expr {e pos msg P} (h : RaisesE g env own n ρ μ e msg P) (hs : swapsWith e none pos.line env = pure false := by rfl) : Raises1 g env own n ρ μ (.Expr e pos) msg P := fun A F s ok G Fs =>
  wpAny_Expr (hs := hs) (hi := by unfold interactive; rw [Fs.ok.kind]; rfl) (wpAny_mono (h A F s ok G Fs) (fun _ _ x => x.elim) fun _ _ x => RPost.toOwn (.inl x))
theorem Raises1.ret {e pos msg P} (h : RaisesE g env own n ρ μ e msg P) : Raises1 g env own n ρ μ (.Return (some e) pos) msg P := fun A F s ok G Fs =>
  wpAny_Return_some (wpAny_mono (h A F s ok G Fs) (fun _ _ x => x.elim) fun _ _ x => RPost.toOwn (.inl x))
theorem RaisesE.call {func args kws pos msg P} (h : Ev g env own n ρ μ func fun f μ₁ => KeepD g f ∧ EvL g env own n ρ args μ₁ fun ds μ₂ => EvK g env own n ρ kws μ₂ fun ks μ₃ => CallsR g n μ₃ f ds ks msg P)
    (he : eval (.Call func args kws pos) env = (do callWith pos (← eval func env) [] (backTo pos (starEach args env)) (backToKw pos (keywordEach kws env))) := by rfl)
    (hp : args.all plainE = true := by rfl) (hs : kws.all (·.arg.isSome) = true := by rfl) : RaisesE g env own n ρ μ (.Call func args kws pos) msg P := fun A F s ok G Fs => by
  rw [he]
  exact wpAny_bind (wp_seq h ok G Fs fun fv f μ₁ F₁ s₁ t₁ G₁ Fs₁ sf h₁ => callWith_P h₁.1 hp hs ok G₁ Fs₁ sf h₁.2 fun vs kvs ds ks μ₂ F₂ s₂ t G₂ Fs₂ sf₂ sds sks hn hc =>
    wpAny_mono (hc A F₂ s₂ fv vs kvs ok G₂ sf₂ sds sks hn) (fun _ _ x => x) fun _ _ x => x.trans (t₁.trans t))
theorem Raises1.raise {np cpos pos cp msg k} {P : Mu → Prop} (hx : env.kindOf "ValueError" = some .globalImplicit) (e : nsIn g.K mainGlobals "ValueError" = some none) (h : P μ) :
    Raises1 g env own n ρ μ (.Raise (some (.Call (.Name "ValueError" np) [.Constant (.str msg) k cp] [] cpos)) none pos) msg P := fun A F s ok G Fs => by
  refine Raise_madeB PySem.F.excCall_ValueError PySem.F.excRaise_ValueError ok.hand ?_
  refine Name_function_global Fs.ok.kind hx (loadGlobal_builtin (by rw [Fs.ok.glob]; exact g.T.g.keeps G.keep) (mg_none_of g.X g.T.g e) (by rw [Fs.ok.blt]; exact g.T.b.keeps G.keep) ((g.T.builtins _ (by decide)).trans PyProof.Rows.Boot.«ValueError») ⟨rfl, ?_⟩) (by decide)
  refine wpAny_items_cons (wpAny_Constant_str (wpAny_items_nil ⟨by show 1 ≤ sizeLine; decide, fun h' ea hm => ?_⟩))
  exact .inr ⟨ea, _, μ, F, s.heap, rfl, hm.of, Tr.of_ext (fun _ _ e => e) rfl rfl, G, h⟩
end

open PySem PySem.W PySem.Calls PyProof.Rows
set_option maxRecDepth 20000
section
variable {g : G} {env : Env} {own : List Addr} {n : Nat} {ρ : Str → Option D} {μ : Mu}
theorem CallsR.enter {fa : Addr} {fo : Obj} {fd : FuncData} {body : List Stmt} {args kws bd msg P} (hK : g.K.lookup fa = some fo) (hfo : fo.data = .func fd) (hbody : fd.body = .stmts body) (hclo : fd.closure = [])
    (hglob : fd.globals = mainGlobals) (hblt : fd.builtins = builtinsNs) (hcode : codeIn g.K fd.code fd.qualname = true) (hco : fd.scope.isCoroutine = false) (hgen : fd.scope.isGenerator = false) (hk : fd.scope.kind = .function)
    (hb : Binds g fd args kws bd) {nm : List Str} (hnm : bd.map (·.1) = nm)
    (hnames : (nm.all fun y => fd.scope.names.lookup y == some .local || fd.scope.names.lookup y == some .cell) = true) (hnd : nm.Nodup)
    (hcn : ((cellsFrom 0 fd.scope.names []).map (·.1)).Nodup)
    (h : ∀ env own L, env = callEnvC fd L fa → own = ownOf fd L → Raises (g.push env) env own n (rho bd) μ body msg P) : CallsR g (n + 1) μ (.val (.ref fa)) args kws msg P := fun A F s fv vs kvs ok G sf sa sk hkn => by
  obtain rfl := Sees.valI sf
  subst hnm
  have hX : g.K.In s.heap := g.X.keeps G.keep
  obtain ⟨bs, hbs, sb⟩ := hb F s vs kvs hX sa sk hkn
  have hbn := sb.names
  refine wpAny_call (codeAny_call_function ok.room (hX _ _ hK) hfo hco hgen hbody (codeRec_of hX hcode) ?_)
  rw [hclo]
  have hlook : ∀ x v, (x, v) ∈ bs → fd.scope.names.lookup x = some .local ∨ fd.scope.names.lookup x = some .cell := fun x v hx => by
    have : x ∈ bd.map (·.1) := hbn ▸ List.mem_map.mpr ⟨_, hx, rfl⟩
    obtain ⟨y, hy, rfl⟩ := List.mem_map.mp this
    have := List.all_eq_true.mp hnames _ (List.mem_map_of_mem hy)
    rcases Bool.or_eq_true_iff.mp this with q | q
    · exact .inl (by simpa using q)
    · exact .inr (by simpa using q)
  refine hbs _ _ _ _ (wpAny_newFunctionEnv_cells hk (fun x hx => ?_) fun env' he s₁ x => ?_)
  · rcases hlook _ _ hx with q | q
    · exact .inl q
    · exact .inr ⟨q, cellsFrom_some _ _ _ (.inl q)⟩
  have hE : env' = callEnvC fd s.heap.objs.size fa := he
  subst hE
  refine ⟨(g.T.nolimit.keeps fun b o e => x.toInCall.keep b o (G.keep b o e)), codeAny_func ?_⟩
  obtain ⟨h₁, tk, rfl, _⟩ := x.done
  have kp := x.toInCall.keep
  have hG : GSt g μ F h₁ := G.ext kp
  have hsz : ∀ a o, s.heap.get? a = some o → a < s.heap.objs.size := fun a o e => Heap.lt_size e
  have hno : ∀ a ∈ ownOf fd s.heap.objs.size, s.heap.get? a = none := fun a ha => by
    cases hq : s.heap.get? a with
    | none => rfl
    | some o =>
      have hlt := hsz _ _ hq
      cases ha with
      | head => exact absurd hlt (Nat.lt_irrefl _)
      | tail _ ha =>
        obtain ⟨p, hp, rfl⟩ := List.mem_map.mp ha
        have := x.above p.1 p.2 hp
        exact absurd (Nat.lt_trans this hlt) (Nat.lt_irrefl _)
  have hnl : ∀ x c, (x, c) ∈ (callEnvC fd s.heap.objs.size fa).cells → (callEnvC fd s.heap.objs.size fa).cells.lookup x = some c := fun y c hm =>
    lookup_of_mem_nodup (cellsFrom_names fd.scope.names 0 (s.heap.objs.size + 1) [] [] rfl ▸ hcn) hm
  have hFs : FSt (callEnvC fd s.heap.objs.size fa) (ownOf fd s.heap.objs.size) (rho bd) μ F h₁ := by
    refine ⟨⟨hk, hglob, hblt, .head _, kw_lookup_nodup x.apart⟩, ⟨_, x.toInCall.ns⟩, fun y d e => ?_, fun p hp => ⟨_, x.cell _ _ (hnl p.1 p.2 hp)⟩, fun a ha => ?_, fun a ha => ?_, fun a ha q => ?_⟩
    · obtain ⟨v, hv, sv⟩ := sb.get e
      refine ⟨v, ?_, sv⟩
      rcases hlook _ _ hv with q | q
      · exact .inl ⟨q, _, x.toInCall.ns, bindL_get _ _ hv (hbn ▸ hnd) q⟩
      · have hs := cellsFrom_some (x := y) fd.scope.names (s.heap.objs.size + 1) [] (.inl q)
        obtain ⟨c, hc⟩ := Option.isSome_iff_exists.mp hs
        refine .inr ⟨.inl q, c, hc, ?_⟩
        have := x.cell y c hc
        rwa [bindC_get _ _ hv (hbn ▸ hnd) (by show fd.scope.names.lookup y ≠ _; rw [q]; decide)] at this
    · cases hq : F a with
      | none => rfl
      | some o => have := G.fz _ _ hq; rw [hno a ha] at this; cases this
    · cases ha with
      | head => obtain ⟨o, _, _, e, _⟩ := x.toInCall.ns; exact ⟨o, e⟩
      | tail _ ha => obtain ⟨p, hp, rfl⟩ := List.mem_map.mp ha; obtain ⟨o, e, _⟩ := x.cell _ _ (hnl p.1 p.2 hp); exact ⟨o, e⟩
    · obtain ⟨p, hp, rfl⟩ := List.mem_map.mp q
      obtain ⟨_, b⟩ := G.mu p hp
      obtain ⟨o, e1⟩ := b.live
      rw [hno _ ha] at e1; cases e1
  have hfr : FrL (callEnvC fd s.heap.objs.size fa) μ F h₁ := ⟨by show fd.scope.kind ≠ _; rw [hk]; decide, s.heap.objs.size, _, rfl, x.toInCall.ns, hFs.ownF _ (.head _), hFs.muo _ (.head _)⟩
  have t0 : Tr g (ownOf fd s.heap.objs.size) μ μ F F s { s with heap := h₁, toks := tk } := Tr.of_ext kp rfl rfl
  refine wpAny_mono (h _ _ _ rfl rfl _ F { s with heap := h₁, toks := tk } (Ok.deeper ok) (hG.push_frame hfr) hFs) (fun _ _ x => x.elim) fun e s₂ r => ?_
  exact leave (Ok.deeper (env := callEnvC fd s.heap.objs.size fa) ok).frames hno (r.trans t0.push_frame)
/-- a lambda called -/
theorem CallsR.clo {qual : Str} {params : Arguments} {body : Expr} {scope : Scope} {cdv : Value} {caps : List (Str × D)} {args : List D} {nm : List Str} {msg P}
    (hb : ∀ name cl pm ct (vs : List Value), vs.length = args.length → bindArgs (kla_fn name qual params body scope cl pm cdv ct) ⟨vs, []⟩ = pure (nm.zip vs))
    (hloc : ∀ y ∈ nm, scope.names.lookup y = some .local) (hnd : nm.Nodup) (hfree : ∀ p ∈ caps, scope.names.lookup p.1 = some .free)
    (hk : scope.kind = .function) (hco : scope.isCoroutine = false) (hgen : scope.isGenerator = false) (hcell : ∀ x ∈ scope.names, x.2 ≠ .cell)
    (h : ∀ env L f cl, env = envX qual scope L f cdv cl → RaisesE (g.push env) env [L] n (rho (nm.zip args ++ caps)) μ body msg P) : CallsR g (n + 1) μ (.clo qual params body scope cdv caps) args [] msg P :=
  fun A F s fv vs kvs ok G sf sa sk hkn => by
    obtain rfl : kvs = [] := by simpa using hkn
    obtain @⟨a, o, name, cl, pm, ct, hF, hd, hc, sc, hcn⟩ := Sees.cloI sf
    have ho := G.fz _ _ hF
    refine wpAny_call (kla_callFunE ok.room ho hd hco hgen rfl (hc.codeRec G.fz) ?_)
    rw [hb _ _ _ _ vs sa.length]
    have hvl : ∀ x v, (x, v) ∈ nm.zip vs → x ∈ nm := fun x v hx => List.of_mem_zip hx |>.1
    refine wpAny_pure (wpAny_newFunctionEnv hcell (fun x hx => hloc _ (hvl x.1 x.2 hx)) (fun h₁ hns hsb => ?_) hk)
    have kp : ∀ b o, s.heap.get? b = some o → h₁.get? b = some o := fun b o e => hsb.extBut b o (Nat.ne_of_lt (Heap.lt_size e)) (Heap.get?_push_of_some _ e)
    refine ⟨g.T.nolimit.keeps fun b o e => kp b o (G.keep b o e), kla_codeExpr ?_⟩
    have hG : GSt g μ F h₁ := G.ext kp
    have hno : s.heap.get? s.heap.objs.size = none := none_ge (Nat.le_refl _)
    have fr := G.fresh hno
    have hFs : FSt (envX qual scope s.heap.objs.size a cdv cl) [s.heap.objs.size] (rho (nm.zip args ++ caps)) μ F h₁ := by
      refine ⟨⟨hk, rfl, rfl, .head _, hcn⟩, ⟨_, hns⟩, fun x d e => ?_, fun p hp => ?_, fun b hb => by rw [List.mem_singleton.mp hb]; exact fr.1, fun b hb => ?_, fun b hb => by rw [List.mem_singleton.mp hb]; exact fr.2.1⟩
      · unfold rho at e
        rw [lookup_app] at e
        cases h1 : (nm.zip args).lookup x with
        | some d' =>
          rw [h1] at e
          cases e
          obtain ⟨v, hv, sv⟩ := zip_see sa h1
          refine ⟨v, .inl ⟨hloc _ (hvl _ _ hv), _, hns, ?_⟩, sv⟩
          refine lookup_of_nodup ?_ (List.mem_reverse.mpr hv)
          rw [List.map_reverse]
          refine (List.reverse_perm _).nodup_iff.mpr ?_
          exact List.Sublist.nodup (zip_fst_sub _ _) hnd
        | none =>
          rw [h1] at e
          have e : caps.lookup x = some d := e
          obtain ⟨c, v, h1, ⟨o', h2, h3⟩, sv⟩ := sc.get e
          exact ⟨v, .inr ⟨.inr (hfree _ (lookup_mem e)), c, h1, o', hG.fz _ _ h2, h3⟩, sv⟩
      · obtain ⟨o', v, h2, h3⟩ := sc.cell p hp
        exact ⟨_, o', hG.fz _ _ h2, h3⟩
      · rw [List.mem_singleton.mp hb]; obtain ⟨o', _, _, e, _⟩ := hns; exact ⟨o', e⟩
    have hfr : FrL (envX qual scope s.heap.objs.size a cdv cl) μ F h₁ := ⟨by show scope.kind ≠ _; rw [hk]; decide, s.heap.objs.size, _, rfl, hns, fr.1, fr.2.1⟩
    have t0 : Tr g [] μ μ F F s { s with heap := h₁, toks := s.toks + (nm.zip vs).length } := Tr.of_ext kp rfl rfl
    refine wpAny_mono (h _ _ _ _ rfl _ F { s with heap := h₁, toks := s.toks + (nm.zip vs).length } (Ok.deeper ok) (hG.push_frame hfr) hFs) (fun _ _ x => x.elim) fun e s₂ r => ?_
    exact leave (Ok.deeper (env := envX qual scope s.heap.objs.size a cdv cl) ok).frames (fun _ h => absurd h (by simp)) (.inl (r.trans t0.push_frame))
end

open PySem PySem.W PySem.Calls PyProof.Rows
set_option maxRecDepth 20000
def OkM (g : G) (n : Nat) (A : Around) : Prop := A.depth + n ≤ 990 ∧ A.units + 8 * n ≤ 9800 ∧ A.frames = some g.stk
def forget (x : Str) (ρ : Str → Option D) : Str → Option D := fun y => if y = x then none else ρ y
section
variable {g : G} {env : Env} {own : List Addr} {n : Nat} {ρ : Str → Option D} {μ : Mu}

set_option tactic.hygienic true in
/-- the name of an exception goes -/
theorem st_forget {A : Around} {F : FM} {s : Shared} {x : Str} {pos : Pos} {Q : Unit → Shared → Prop} {E : Value → Shared → Prop} (G : GSt g μ F s.heap) (Fs : FSt env own ρ μ F s.heap) (hk : env.kindOf x = some .local)
    (h : ∀ s', Tr g own μ μ F F s s' → GSt g μ F s'.heap → FSt env own (forget x ρ) μ F s'.heap → Q () s') : wpAny (model g.prog g.w) A (do bindName env x .none; unbindBehindTheSuite env x pos) Q E s := by
  obtain ⟨m, hm⟩ := Fs.ns
  refine wpAny_nameGoes_keeps hk hm (by rw [Fs.ok.kind]; rfl) fun h' v hn sb => h _ ?_ ?_ ?_
  · exact ⟨fun b o e h1 _ _ => ⟨o, (sb.2 b (fun z => h1 (z ▸ Fs.ok.lown))).trans e, .refl o⟩, fun b o e => by
      by_cases hb : b = env.locals
      · subst hb; obtain ⟨o', _, _, e', _⟩ := hn; exact ⟨o', e'⟩
      · exact ⟨o, (sb.2 b hb).trans e⟩, fun _ _ e => e, (Tr.refl (g := g) (mt := own) (μ := μ) (s := s)).fr, fun _ q => .inl q, rfl, rfl⟩
  · exact G.at sb (Fs.ownF _ Fs.ok.lown) (Fs.muo _ Fs.ok.lown) (G.nsTab hm) fun _ _ _ => ⟨_, hn⟩
  · refine ⟨Fs.ok, ⟨_, hn⟩, fun y d' e => ?_, fun p hp => ?_, Fs.ownF, fun a ha => ?_, Fs.muo⟩
    · unfold forget at e
      split at e
      · cases e
      · rename_i hy
        obtain ⟨v', hv', hs'⟩ := Fs.vars y d' e
        refine ⟨v', ?_, hs'⟩
        rcases hv' with ⟨k', m', hm', e'⟩ | ⟨k', c', hc', hcell⟩
        · refine .inl ⟨k', _, hn, ?_⟩
          simp only [hy, if_false]
          obtain ⟨o1, es1, ep1, f1, f2, f3, f4⟩ := hm
          obtain ⟨o2, es2, ep2, g1, g2, g3, g4⟩ := hm'
          rw [f1] at g1; cases g1; rw [f2] at g2; cases g2
          rw [← f4 y, g4 y]; exact e'
        · refine .inr ⟨k', c', hc', hcell.sameBut sb fun z => ?_⟩
          subst z
          obtain ⟨o1, e1, d1⟩ := hcell; obtain ⟨o2, _, _, e2, d2, _⟩ := hm; rw [e1] at e2; cases e2; rw [d1] at d2; cases d2
    · obtain ⟨v', hc'⟩ := Fs.cells p hp
      refine ⟨v', hc'.sameBut sb fun z => ?_⟩
      obtain ⟨o1, e1, d1⟩ := hc'; obtain ⟨o2, _, _, e2, d2, _⟩ := hm; rw [z] at e1; rw [e1] at e2; cases e2; rw [d1] at d2; cases d2
    · by_cases hb : a = env.locals
      · subst hb; obtain ⟨o', _, _, e', _⟩ := hn; exact ⟨o', e'⟩
      · obtain ⟨o, e⟩ := Fs.live a ha; exact ⟨o, (sb.2 a hb).trans e⟩

/-- what a handler's suite does with the exception's words -/
def SuiteOk (g : G) (env : Env) (own : List Addr) (n : Nat) (x : Str) (ρ : Str → Option D) (μ : Mu) (suite : List Stmt) (msg : Str) (Q : Fl → (Str → Option D) → Mu → Prop) : Prop :=
  ∀ A F s ea ta tk, OkM g n A → GSt g μ F s.heap → FSt env own (upd ρ x (.val (.ref ea))) μ F s.heap → s.heap.ExcAt ea "ValueError" (.ref ta) → s.heap.TupAt ta [.str msg tk] →
    wpAny (model g.prog g.w) A (execs suite env) (ExPost g env own μ s F fun f ρ' μ' => Q f (forget x ρ') μ') (fun _ _ => False) s

theorem ErrPost.caught {msg P e s F s'} {b₀ : Stmt} {suite np x hp} {Q : Fl → (Str → Option D) → Mu → Prop} {A : Around} (ok : Ok (g.push env) n A) (G : GSt (g.push env) μ F s.heap) (Fs : FSt env own ρ μ F s.heap)
    (hloc : env.kindOf x = some .local) (hV : env.kindOf "ValueError" = some .globalImplicit) (isk : nsIn g.K mainGlobals "ValueError" = some none)
    (hs : ∀ μ', P μ' → SuiteOk (g.push env) env own n x ρ μ' (b₀ :: suite) msg Q) (r : ErrPost (g.push env) [] msg μ s F P e s') :
    wpAny (model g.prog g.w) A (noteFrame e env) (fun _ s₂ => wpAny (model g.prog g.w) A (setFlight e none) (fun _ s₃ => wpAny (model g.prog g.w) A
      (handleBy e env [.ExceptHandler (some (.Name "ValueError" np)) (some x) (b₀ :: suite) hp]) (ExPost (g.push env) env own μ s F Q) (fun _ _ => False) s₃) (fun _ _ => False) s₂) (fun _ _ => False) s' := by
  obtain ⟨ea, ta, tk, B, μ', F', rfl, fl, ⟨tup, tn⟩, t, G', c, p⟩ := r
  obtain ⟨L, hf⟩ : ∃ L, env.frame = some L := by obtain ⟨_, _, ⟨_, ⟨L, _, hf, _⟩, _⟩, _⟩ := fl; exact ⟨L, hf⟩
  refine wpAny_looks_onW ok.frames hf fl fun h₄ held₄ up₄ => ?_
  refine wpAny_landsW held₄ fun h₅ held up₅ => ?_
  obtain ⟨t₅, G₅, c₅⟩ := err_step t G' c held.1 (up₄.trans up₅)
  obtain ⟨ob, hob, hobc⟩ := held.there
  refine wpAny_handleBy_builtin_as (X := "ValueError") (T := "ValueError") (b := true) PySem.F.isExc_ValueError PySem.F.notTuple_ValueError (by rw [isSubtype_type]; kernel_rfl) ?_
  have Kp := G₅.keep
  refine Name_function_global Fs.ok.kind hV (loadGlobal_builtin (by rw [Fs.ok.glob]; exact g.T.g.keeps Kp) (mg_none_of g.X g.T.g isk) (by rw [Fs.ok.blt]; exact g.T.b.keeps Kp) ((g.T.builtins _ (by decide)).trans PyProof.Rows.Boot.«ValueError») ⟨rfl, ⟨ob, hob, hobc⟩, ?_⟩) (by decide)
  rw [if_pos rfl]
  refine lands_againW held fun h₆ fl₆ up₆ => ?_
  obtain ⟨t₆, G₆, c₆⟩ := err_step t₅ G₅ c₅ fl₆.1 up₆
  have Fs₆ := Fs.tr G t₆ G₆
  obtain ⟨oe, ws, hoe, hoec, hoed, hoe0⟩ := fl₆.first
  obtain ⟨ot, nt, hot, hotc, hotd⟩ := (tup.of_slots (up₄.trans up₅)).of_slots up₆
  have outs : ∀ b o, h₆.get? b = some o → ¬ IsNs o → B.get? b = none → b ∉ own ∧ b ∉ μ'.dom ∧ b ∉ g.tabDom := fun b o e hn hB => by
    refine ⟨fun q => ?_, fun q => ?_, fun q => ?_⟩
    · have := c₆.2.2 b o (Fs.live b q) e hn; rw [hB] at this; cases this
    · have := c₆.2.1 b o (.inl q) e; rw [hB] at this; cases this
    · have := c₆.2.1 b o (.inr q) e; rw [hB] at this; cases this
  obtain ⟨e1, e2, e3⟩ := outs ea oe hoe (nns hoed) fl₆.2.1
  obtain ⟨f1, f2, f3⟩ := outs ta ot hot (nnsq hotd) tn
  refine st_store (g := g.push env) (d := .val (.ref ea)) G₆ Fs₆ (.val _) (bindable_local hloc) fun s₇ t₇ G₇ Fs₇ _ => ?_
  have x1 := t₇.at (nns hoed) hoe e1 e2 e3
  have x2 := t₇.at (nnsq hotd) hot f1 f2 f3
  have okm : OkM (g.push env) n (A.mark (some (.ref ea))) := ⟨ok.1, ok.2.1, ok.frames⟩
  refine wpAny_mono (hs μ' p _ F' s₇ ea ta tk okm G₇ Fs₇ ⟨oe, ws, x1, hoec, hoed, hoe0⟩ ⟨ot, nt, x2, hotc, hotd⟩) ?_ fun _ _ x => x.elim
  rintro fl s₈ ⟨f, ρ', μ'', F'', t₈, G₈, Fs₈, sf, hq⟩
  refine st_forget (g := g.push env) G₈ Fs₈ hloc fun s₉ t₉ G₉ Fs₉ => ?_
  exact ⟨f, _, μ'', F'', ((t₆.toOwn.trans t₇).trans t₈).trans t₉, G₉, Fs₉, sf, hq⟩

theorem Ex1.tryE {e ep np x hp pos msg P} {b₀ : Stmt} {suite} {Q : Fl → (Str → Option D) → Mu → Prop} (hb : RaisesE (g.push env) env own n ρ μ e msg P) (hloc : env.kindOf x = some .local) (hV : env.kindOf "ValueError" = some .globalImplicit)
    (isk : nsIn g.K mainGlobals "ValueError" = some none) (hs : ∀ μ', P μ' → SuiteOk (g.push env) env own n x ρ μ' (b₀ :: suite) msg Q) (hsw : swapsWith e none ep.line env = pure false := by rfl) :
    Ex1 (g.push env) env own n ρ μ (.Try [.Expr e ep] [.ExceptHandler (some (.Name "ValueError" np)) (some x) (b₀ :: suite) hp] [] [] pos) Q := fun A F s ok G Fs => by
  refine wpAny_Try_except (wpAny_execs_cons (wpAny_Expr (hs := hsw) (hi := by unfold interactive; rw [Fs.ok.kind]; rfl) (wpAny_mono (hb A F s ok G Fs) (fun _ _ x => x.elim) fun e s₁ r => ?_)))
  exact r.caught ok G Fs hloc hV isk hs
/-- str of the exception -/
theorem ev_str {A : Around} {F s ea ta tk msg} {E : Value → Shared → Prop} {x np sp cp} {P : Value → Shared → Prop} (okm : OkM g n A) (hn : 1 ≤ n) (G : GSt g μ F s.heap) (Fs : FSt env own ρ μ F s.heap) (hx : env.kindOf x = some .local) (hρ : ρ x = some (.val (.ref ea)))
    (hV : env.kindOf "str" = some .globalImplicit) (isk : nsIn g.K mainGlobals "str" = some none) (he : s.heap.ExcAt ea "ValueError" (.ref ta)) (ht : s.heap.TupAt ta [.str msg tk]) (hd : (x == ("__debug__" : Str)) = false)
    (h : P (.str msg tk) s) : wpAny (model g.prog g.w) A (eval (.Call (.Name "str" sp) [.Name x np] [] cp) env) P E s := by
  have e1 : eval (.Call (.Name "str" sp) [.Name x np] [] cp) env = (do callWith cp (← eval (.Name "str" sp) env) [] (backTo cp (starEach [.Name x np] env)) (backToKw cp (keywordEach [] env))) := rfl
  rw [e1]
  refine wpAny_bind ?_
  refine Name_function_global Fs.ok.kind hV (loadGlobal_builtin (v := .type "str") (by rw [Fs.ok.glob]; exact g.T.g.keeps G.keep) (mg_none_of g.X g.T.g isk) (by rw [Fs.ok.blt]; exact g.T.b.keeps G.keep) ((g.T.builtins _ (by decide)).trans (by boot_fast)) ?_) (by decide)
  refine callWith_of (P := fun _ => True) rfl (fun h _ => ⟨.machine, .inr (.inl rfl), .now⟩) ?_
  suffices fin : wpAny (model g.prog g.w) A (spliced (backTo cp (starEach [.Name x np] env))) (fun vs s' => True ∧ wpAny (model g.prog g.w) A (call (.type "str") ([] ++ vs) []) P E s') E s from evalArgs_plain fin
  refine wpAny_items_cons ?_
  obtain ⟨v, hv, sv⟩ := Fs.vars x _ hρ
  obtain rfl := Sees.valI sv
  rcases hv with ⟨_, m, hm, e⟩ | ⟨k, _⟩
  · refine wpAny_Name (wpAny_loadName_local Fs.ok.kind hx hm e (wpAny_items_nil ⟨trivial, ?_⟩)) hd
    refine PySem.P.str_of_exc_one PySem.F.excStr_ValueError ?_ he ht h
    have := okm.2.1; unfold cLine; lia
  · rw [hx] at k; rcases k with k | k <;> cases k
theorem loc_at {A : Around} {F s x np} {v : Value} {E : Value → Shared → Prop} {P : Value → Shared → Prop} (Fs : FSt env own ρ μ F s.heap) (hx : env.kindOf x = some .local) (hρ : ρ x = some (.val v)) (hd : (x == ("__debug__" : Str)) = false)
    (h : P v s) : wpAny (model g.prog g.w) A (eval (.Name x np) env) P E s := by
  obtain ⟨v', hv, sv⟩ := Fs.vars x _ hρ
  obtain rfl := Sees.valI sv
  rcases hv with ⟨_, m, hm, e⟩ | ⟨k, _⟩
  · exact wpAny_Name (wpAny_loadName_local Fs.ok.kind hx hm e h) hd
  · rw [hx] at k; rcases k with k | k <;> cases k

theorem SuiteOk.ret {x msg np sp cp p} {Q : Fl → (Str → Option D) → Mu → Prop} (hn : 1 ≤ n) (hx : env.kindOf x = some .local) (hV : env.kindOf "str" = some .globalImplicit) (isk : nsIn g.K mainGlobals "str" = some none)
    (h : ∀ ρ', Q (.ret (.str msg)) ρ' μ) (hd : (x == ("__debug__" : Str)) = false := by decide) :
    SuiteOk g env own n x ρ μ [.Return (some (.Call (.Name "str" sp) [.Name x np] [] cp)) p] msg Q := fun A F s ea ta tk okm G Fs he ht => by
  refine wpAny_execs_cons (wpAny_Return_some ?_)
  refine ev_str okm hn G Fs hx (by simp [upd]) hV isk he ht hd ?_
  exact ⟨.ret (.str msg), _, μ, F, .refl, G, Fs, .str _ _, h _⟩

theorem SuiteOk.append {x y msg np sp cp p ap yp mp} {a : Addr} {ds : List D} {Q : Fl → (Str → Option D) → Mu → Prop} (hn : 1 ≤ n) (hx : env.kindOf x = some .local) (hy : env.kindOf y = some .local) (hV : env.kindOf "str" = some .globalImplicit) (isk : nsIn g.K mainGlobals "str" = some none)
    (hyx : y ≠ x) (hρ : ρ y = some (.val (.ref a))) (hm : (a, .ml ds) ∈ μ) (hl : ds.length ≤ 10000)
    (h : ∀ ρ', (∀ z, z ≠ x → ρ' z = ρ z) → Q .next ρ' (setMu a (.ml (ds ++ [.str msg])) μ)) (hline : (ap.endLine == cp.line) = true := by rfl)
    (hsw : swapsWith (.Call (.Attribute (.Name y yp) "append" ap) [.Call (.Name "str" sp) [.Name x np] [] mp] [] cp) none p.line env = pure false := by rfl)
    (hform : methodCallForm 1 (backTo cp (starEach [.Call (.Name "str" sp) [.Name x np] [] mp] env)) (backToKw cp (keywordEach [] env)) = true := by rfl)
    (hbase : attributeBase (.Name y yp) "append" env (eval (.Name y yp) env) = eval (.Name y yp) env := by rfl)
    (hd : (x == ("__debug__" : Str)) = false := by decide) (hd2 : (y == ("__debug__" : Str)) = false := by decide) :
    SuiteOk g env own n x ρ μ [.Expr (.Call (.Attribute (.Name y yp) "append" ap) [.Call (.Name "str" sp) [.Name x np] [] mp] [] cp) p] msg Q := fun A F s ea ta tk okm G Fs he ht => by
  refine wpAny_execs_cons (wpAny_Expr (hs := hsw) (hi := by unfold interactive; rw [Fs.ok.kind]; rfl) ?_)
  rw [arm_eval_Call, hbase]
  refine wpAny_bind (loc_at Fs hy (v := .ref a) (by rw [upd, if_neg hyx]; exact hρ) hd2 ?_)
  obtain ⟨hFa, o, ha, vs, k, rfl, sa⟩ := G.mu _ hm
  have ha : s.heap.get? a = some _ := ha
  refine wpAny_bind (wpAny_standAt ?_)
  have fin : ∀ pp : Pos, wpAny (model g.prog g.w) A (callWith pp (.builtin "list.append") [.ref a] (backTo cp (starEach [.Call (.Name "str" sp) [.Name x np] [] mp] env)) [])
      (fun v s' => match v with | .ref _ => False | _ => (match Flow.next with | .next => wpAny (model g.prog g.w) A (execs [] env) (ExPost g env own μ s F fun f ρ' μ' => Q f (forget x ρ') μ') (fun _ _ => False) s' | f => ExPost g env own μ s F (fun f ρ' μ' => Q f (forget x ρ') μ') f s')) (fun _ _ => False) s := fun pp => by
    refine callWith_builtin rfl ?_
    suffices fin : wpAny (model g.prog g.w) A (spliced (backTo cp (starEach [.Call (.Name "str" sp) [.Name x np] [] mp] env))) (fun vs s' => wpAny (model g.prog g.w) A (call (.builtin "list.append") ([.ref a] ++ vs) []) _ (fun _ _ => False) s') (fun _ _ => False) s from evalArgs_plain fin
    refine wpAny_items_cons ?_
    refine ev_str okm hn G Fs hx (by simp [upd]) hV isk he ht hd ?_
    refine wpAny_items_nil ?_
    have hz : vs.size = ds.length := sa.size
    refine call_append ha (fun h' k' eh sbt => ?_) (by unfold sizeLine; lia)
    have hx' : ∀ b o, b ≠ a → s.heap.get? b = some o → h'.get? b = some o := fun b o hb e => (sbt.2 b hb).trans e
    have km : MOk F a (.ml (ds ++ [.str msg])) { cls := .type "list", dict := Option.none, data := .seq (vs.push (.str msg tk)) k', slots := #[] } := ⟨_, _, rfl, by rw [Array.toList_push]; exact sa.append (.cons (.str msg tk) .nil)⟩
    have t : Tr g [] μ (setMu a (.ml (ds ++ [.str msg])) μ) F F s { s with heap := h' } := Tr.set hm hx' eh rfl rfl
    have G' : GSt g (setMu a (.ml (ds ++ [.str msg])) μ) F h' := G.set hm hx' eh km
    exact wpAny_execs_nil ⟨.next, _, _, F, t.toOwn, G', Fs.tr G t G', trivial, h _ fun z hz => by simp [forget, upd, hz]⟩
  have hpos : methodCallPos true (.Name y yp) env ap cp = pure cp := by unfold methodCallPos; simp [hline]
  unfold methodCall
  rw [show ([] : List Keyword).length = 0 from rfl]
  rw [show methodCallForm (List.length [Expr.Call (.Name "str" sp) [.Name x np] [] mp] + 0) (backTo cp (starEach [.Call (.Name "str" sp) [.Name x np] [] mp] env)) (backToKw cp (keywordEach [] env)) = true from hform]
  refine wpAny_bind (wpAny_holding (getMethod_builtin ⟨_, ha, rfl⟩ PySem.F.plainAttrs_list PySem.F.slot_list_append PySem.F.type_list_append (fun b e => by cases e; exact ⟨_, ha, rfl⟩) ?_))
  exact wpAny_bind (wpAny_of_eq hpos (fin cp))
end

open PySem PySem.W PySem.Calls PyProof.Rows
set_option maxRecDepth 20000
inductive ExBP (g : G) (μ₀ : Mu) (s₀ : Shared) (F₀ : FM) (Q : Fl → Mu → Prop) (fl : Flow) (s' : Shared) : Prop
  | mk (f : Fl) (μ' : Mu) (F' : FM) (t : Tr g [] μ₀ μ' F₀ F' s₀ s') (G : GSt g μ' F' s'.heap) (sf : FlSees F' fl f) (q : Q f μ')
/-- a body's statements up to the end of the call; the frame itself is of no more use then -/
def ExB (g : G) (env : Env) (own : List Addr) (n : Nat) (ρ : Str → Option D) (μ : Mu) (ss : List Stmt) (Q : Fl → Mu → Prop) : Prop :=
  ∀ A F s μ₀ F₀ s₀, Ok g n A → GSt g μ F s.heap → FSt env own ρ μ F s.heap → Tr g own μ₀ μ F₀ F s₀ s → (∀ a ∈ own, s₀.heap.get? a = none) →
    wpAny (model g.prog g.w) A (execs ss env) (ExBP g μ₀ s₀ F₀ Q) (fun _ _ => False) s
/-- a cell is stored to no more -/
abbrev G.cellF (g : G) (c : Addr) : G := { g with fcs := c :: g.fcs }
section
variable {g : G} {env : Env} {own : List Addr} {n : Nat} {ρ : Str → Option D} {μ : Mu}
theorem ExB.of {ss} {Q : Fl → Mu → Prop} (h : Ex g env own n ρ μ ss fun f _ μ' => Q f μ') : ExB g env own n ρ μ ss Q := fun A F s μ₀ F₀ s₀ ok G Fs t hno =>
  wpAny_mono (h A F s ok G Fs) ((by rintro fl s' ⟨f, ρ', μ', F', t', G', Fs', sf, hq⟩; exact ⟨f, μ', F', (t.trans t').mtLe fun a ha => .inr (hno a ha), G', sf, hq⟩)) fun _ _ x => x
theorem ExB.cons {st rest} {Q : Fl → Mu → Prop} (h : Ex1 g env own n ρ μ st fun f ρ₁ μ₁ => (f = .next → ExB g env own n ρ₁ μ₁ rest Q) ∧ (f ≠ .next → Q f μ₁)) : ExB g env own n ρ μ (st :: rest) Q := fun A F s μ₀ F₀ s₀ ok G Fs t hno =>
  wpAny_execs_cons (wpAny_mono (h A F s ok G Fs) (by
    rintro fl s₁ ⟨f, ρ₁, μ₁, F₁, t₁, G₁, Fs₁, sf, h₁⟩
    cases fl <;> cases f <;> first | exact sf.elim | exact h₁.1 rfl A F₁ s₁ μ₀ F₀ s₀ ok G₁ Fs₁ (t.trans t₁) hno | exact ⟨_, μ₁, F₁, (t.trans t₁).mtLe fun a ha => .inr (hno a ha), G₁, sf, h₁.2 (by intro x; cases x)⟩) fun _ _ x => x)
theorem ExB.seq {st rest} {Q : Fl → Mu → Prop} (R : (Str → Option D) → Mu → Prop) (h : Ex1 g env own n ρ μ st fun f ρ' μ' => f = .next ∧ R ρ' μ') (k : ∀ ρ' μ', R ρ' μ' → ExB g env own n ρ' μ' rest Q) : ExB g env own n ρ μ (st :: rest) Q := by
  refine ExB.cons fun A F s ok G Fs => wpAny_mono (h A F s ok G Fs) ((by rintro fl s' ⟨f, ρ', μ', F', t, G', Fs', sf, e, r⟩; exact ⟨f, ρ', μ', F', t, G', Fs', sf, fun _ => k _ _ r, fun q => absurd e q⟩)) fun _ _ x => x
theorem ExB.freezeCell {ss x d} {Q : Fl → Mu → Prop} (hx : ρ x = some d) (hk : env.kindOf x = some .cell) (h : ∀ c, env.cells.lookup x = some c → c ∈ own → ExB (g.cellF c) env (own.filter (· ≠ c)) n ρ μ ss Q) (ho : ∀ c, env.cells.lookup x = some c → c ∈ own) :
    ExB g env own n ρ μ ss Q := fun A F s μ₀ F₀ s₀ ok G Fs t hno => by
  obtain ⟨v, hv, sv⟩ := Fs.vars x d hx
  obtain ⟨c, hl, hcell⟩ : ∃ c, env.cells.lookup x = some c ∧ s.heap.IsCell c (some v) := by
    rcases hv with ⟨k, _⟩ | ⟨_, c, hl, hc⟩
    · rw [hk] at k; cases k
    · exact ⟨c, hl, hc⟩
  have hc := ho c hl
  obtain ⟨o, eo, ed⟩ := id hcell
  have hF := Fs.ownF c hc
  have hle := put_le (o := o) hF
  have cf := G.cellFree hcell
  have G1 := G.freeze eo hF (Fs.muo c hc) cf.2 (fun _ _ z => by rw [ed] at z; cases z)
  have G' : GSt (g.cellF c) μ (put F c o) s.heap := ⟨G1.base, G1.fz, G1.tb, G1.mu, G1.nd, fun b hb => by
    cases hb with
    | head => exact ⟨o, put_same⟩
    | tail _ hb => exact G1.fzc b hb, G1.dj, G1.stk⟩
  have hlc : env.locals ≠ c := fun z => by
    obtain ⟨m, o2, _, _, e2, d2, _⟩ := Fs.ns; rw [z, eo] at e2; cases e2; rw [ed] at d2; cases d2
  have mem : ∀ a, a ∈ own.filter (· ≠ c) ↔ a ∈ own ∧ a ≠ c := fun a => by simp
  have Fs' : FSt env (own.filter (· ≠ c)) ρ μ (put F c o) s.heap := by
    refine ⟨⟨Fs.ok.kind, Fs.ok.glob, Fs.ok.blt, (mem _).mpr ⟨Fs.ok.lown, hlc⟩, Fs.ok.cnd⟩, Fs.ns, fun y d' e => ?_, Fs.cells, fun a ha => ?_, fun a ha => Fs.live a ((mem a).mp ha).1, fun a ha => Fs.muo a ((mem a).mp ha).1⟩
    · obtain ⟨v', hv', sv'⟩ := Fs.vars y d' e; exact ⟨v', hv', sv'.mono hle⟩
    · rw [put_ne ((mem a).mp ha).2]; exact Fs.ownF a ((mem a).mp ha).1
  have t' : Tr (g.cellF c) (own.filter (· ≠ c)) μ₀ μ F₀ (put F c o) s₀ s := by
    refine ⟨fun b o e h1 h2 h3 => t.ext b o e (fun q => ?_) h2 h3, t.live, fun b o e => hle _ _ (t.le b o e), fun b => ?_, t.mu, t.os, t.gens⟩
    · rw [hno b q] at e; cases e
    · by_cases hb : b = c
      · subst hb; exact .inr (.inr (.inr (hno _ hc)))
      · rw [put_ne hb]; exact t.fr b
  refine wpAny_mono (h c hl hc A _ s μ₀ F₀ s₀ ok G' Fs' t' fun a ha => hno a ((mem a).mp ha).1) (fun fl s' ⟨f, μ', F', t'', G'', sf, hq⟩ => ⟨f, μ', F', ⟨t''.ext, t''.live, t''.le, t''.fr, t''.mu, t''.os, t''.gens⟩, ?_, sf, hq⟩) fun _ _ x => x
  exact ⟨G''.base, G''.fz, G''.tb, G''.mu, G''.nd, fun b hb => G''.fzc b (.tail _ hb), G''.dj, G''.stk⟩
theorem Calls.enterB {fa : Addr} {fo : Obj} {fd : FuncData} {body : List Stmt} {args kws bd Q} (hK : g.K.lookup fa = some fo) (hfo : fo.data = .func fd) (hbody : fd.body = .stmts body) (hclo : fd.closure = [])
    (hglob : fd.globals = mainGlobals) (hblt : fd.builtins = builtinsNs) (hcode : codeIn g.K fd.code fd.qualname = true) (hco : fd.scope.isCoroutine = false) (hgen : fd.scope.isGenerator = false) (hk : fd.scope.kind = .function)
    (hb : Binds g fd args kws bd) {nm : List Str} (hnm : bd.map (·.1) = nm)
    (hnames : (nm.all fun y => fd.scope.names.lookup y == some .local || fd.scope.names.lookup y == some .cell) = true) (hnd : nm.Nodup)
    (hcn : ((cellsFrom 0 fd.scope.names []).map (·.1)).Nodup)
    (h : ∀ env own L, env = callEnvC fd L fa → own = ownOf fd L → ExB (g.push env) env own n (rho bd) μ body fun f μ' => match f with
      | .ret d => Q d μ'
      | .next => Q .none μ'
      | _ => False) : Calls g (n + 1) (.val (.ref fa)) args kws μ Q := fun A F s fv vs kvs ok G sf sa sk hkn => by
  obtain rfl := Sees.valI sf
  subst hnm
  have hX : g.K.In s.heap := g.X.keeps G.keep
  obtain ⟨bs, hbs, sb⟩ := hb F s vs kvs hX sa sk hkn
  have hbn := sb.names
  refine wpAny_call (codeAny_call_function ok.room (hX _ _ hK) hfo hco hgen hbody (codeRec_of hX hcode) ?_)
  rw [hclo]
  have hlook : ∀ x v, (x, v) ∈ bs → fd.scope.names.lookup x = some .local ∨ fd.scope.names.lookup x = some .cell := fun x v hx => by
    have : x ∈ bd.map (·.1) := hbn ▸ List.mem_map.mpr ⟨_, hx, rfl⟩
    obtain ⟨y, hy, rfl⟩ := List.mem_map.mp this
    have := List.all_eq_true.mp hnames _ (List.mem_map_of_mem hy)
    rcases Bool.or_eq_true_iff.mp this with q | q
    · exact .inl (by simpa using q)
    · exact .inr (by simpa using q)
  refine hbs _ _ _ _ (wpAny_newFunctionEnv_cells hk (fun x hx => ?_) fun env' he s₁ x => ?_)
  · rcases hlook _ _ hx with q | q
    · exact .inl q
    · exact .inr ⟨q, cellsFrom_some _ _ _ (.inl q)⟩
  have hE : env' = callEnvC fd s.heap.objs.size fa := he
  subst hE
  refine ⟨(g.T.nolimit.keeps fun b o e => x.toInCall.keep b o (G.keep b o e)), codeAny_func ?_⟩
  obtain ⟨h₁, tk, rfl, _⟩ := x.done
  have kp := x.toInCall.keep
  have hG : GSt g μ F h₁ := G.ext kp
  have hsz : ∀ a o, s.heap.get? a = some o → a < s.heap.objs.size := fun a o e => Heap.lt_size e
  have hno : ∀ a ∈ ownOf fd s.heap.objs.size, s.heap.get? a = none := fun a ha => by
    cases hq : s.heap.get? a with
    | none => rfl
    | some o =>
      have hlt := hsz _ _ hq
      cases ha with
      | head => exact absurd hlt (Nat.lt_irrefl _)
      | tail _ ha =>
        obtain ⟨p, hp, rfl⟩ := List.mem_map.mp ha
        have := x.above p.1 p.2 hp
        exact absurd (Nat.lt_trans this hlt) (Nat.lt_irrefl _)
  have hnl : ∀ x c, (x, c) ∈ (callEnvC fd s.heap.objs.size fa).cells → (callEnvC fd s.heap.objs.size fa).cells.lookup x = some c := fun y c hm =>
    lookup_of_mem_nodup (cellsFrom_names fd.scope.names 0 (s.heap.objs.size + 1) [] [] rfl ▸ hcn) hm
  have hFs : FSt (callEnvC fd s.heap.objs.size fa) (ownOf fd s.heap.objs.size) (rho bd) μ F h₁ := by
    refine ⟨⟨hk, hglob, hblt, .head _, kw_lookup_nodup x.apart⟩, ⟨_, x.toInCall.ns⟩, fun y d e => ?_, fun p hp => ⟨_, x.cell _ _ (hnl p.1 p.2 hp)⟩, fun a ha => ?_, fun a ha => ?_, fun a ha q => ?_⟩
    · obtain ⟨v, hv, sv⟩ := sb.get e
      refine ⟨v, ?_, sv⟩
      rcases hlook _ _ hv with q | q
      · exact .inl ⟨q, _, x.toInCall.ns, bindL_get _ _ hv (hbn ▸ hnd) q⟩
      · have hs := cellsFrom_some (x := y) fd.scope.names (s.heap.objs.size + 1) [] (.inl q)
        obtain ⟨c, hc⟩ := Option.isSome_iff_exists.mp hs
        refine .inr ⟨.inl q, c, hc, ?_⟩
        have := x.cell y c hc
        rwa [bindC_get _ _ hv (hbn ▸ hnd) (by show fd.scope.names.lookup y ≠ _; rw [q]; decide)] at this
    · cases hq : F a with
      | none => rfl
      | some o => have := G.fz _ _ hq; rw [hno a ha] at this; cases this
    · cases ha with
      | head => obtain ⟨o, _, _, e, _⟩ := x.toInCall.ns; exact ⟨o, e⟩
      | tail _ ha => obtain ⟨p, hp, rfl⟩ := List.mem_map.mp ha; obtain ⟨o, e, _⟩ := x.cell _ _ (hnl p.1 p.2 hp); exact ⟨o, e⟩
    · obtain ⟨p, hp, rfl⟩ := List.mem_map.mp q
      obtain ⟨_, b⟩ := G.mu p hp
      obtain ⟨o, e1⟩ := b.live
      rw [hno _ ha] at e1; cases e1
  have hfr : FrL (callEnvC fd s.heap.objs.size fa) μ F h₁ := ⟨by show fd.scope.kind ≠ _; rw [hk]; decide, s.heap.objs.size, _, rfl, x.toInCall.ns, hFs.ownF _ (.head _), hFs.muo _ (.head _)⟩
  have t0 : Tr g (ownOf fd s.heap.objs.size) μ μ F F s { s with heap := h₁, toks := tk } := Tr.of_ext kp rfl rfl
  refine wpAny_mono (h _ _ _ rfl rfl _ F { s with heap := h₁, toks := tk } μ F s (Ok.deeper ok) (hG.push_frame hfr) hFs t0.push_frame hno) ?_ fun _ _ x => x.elim
  rintro fl s₂ ⟨f, μ', F', t, G', sf, hq⟩
  have G' := G'.pop_frame
  have t1 : Tr g [] μ μ' F F' s s₂ := t.pop_frame
  cases fl <;> cases f <;> first
    | exact sf.elim
    | exact hq.elim
    | exact ⟨_, μ', F', t1, G', sf, hq⟩
    | exact ⟨_, μ', F', t1, G', .none, hq⟩
end

open PySem PySem.W PySem.Calls PyProof.Rows
set_option maxRecDepth 20000
theorem setMu_keep {a : Addr} {m : MO} : ∀ {μ : Mu} {p : Addr × MO}, p ∈ μ → p.1 ≠ a → p ∈ setMu a m μ
  | (b, x) :: r, p, h, hn => by
    by_cases hb : b = a
    · subst hb
      rw [setMu_hit]
      cases h with
      | head => exact absurd rfl hn
      | tail _ h => exact .tail _ h
    · rw [setMu_miss hb]
      cases h with
      | head => exact .head _
      | tail _ h => exact .tail _ (setMu_keep h hn)
section
variable {g : G} {env : Env} {own : List Addr} {n : Nat} {ρ : Str → Option D} {μ : Mu}
theorem ForL.gen {tgt body ds Q} (P : Mu → Prop) (hP : P μ) (h : ∀ M, P M → ForL g env own n tgt body ds ρ M Q) : ForL g env own n tgt body ds ρ μ Q := h μ hP
theorem Ex.gen {ss Q} (P : Mu → Prop) (hP : P μ) (h : ∀ M, P M → Ex g env own n ρ M ss Q) : Ex g env own n ρ μ ss Q := h μ hP
theorem mem_dom {p : Addr × MO} (h : p ∈ μ) : p.1 ∈ μ.dom := List.mem_map_of_mem (f := (·.1)) h
theorem ne_fresh {P : Addr} (hP : P ∉ μ.dom) {p : Addr × MO} (h : p ∈ μ) : p.1 ≠ P := fun z => hP (z ▸ mem_dom h)
theorem ForL.nil {tgt body Q} (h : Q .next ρ μ) : ForL g env own n tgt body [] ρ μ Q := h
theorem ForL.cons {tgt body d ds Q} (h : Asg env own (fun ρ₁ => Ex g env own n ρ₁ μ body fun f ρ₂ μ₂ => match f with
      | .next => ForL g env own n tgt body ds ρ₂ μ₂ Q
      | .cont => ForL g env own n tgt body ds ρ₂ μ₂ Q
      | .brk => Q .next ρ₂ μ₂
      | .ret d => Q (.ret d) ρ₂ μ₂) tgt d ρ) : ForL g env own n tgt body (d :: ds) ρ μ Q := h
theorem Ex.freezeMem {a ds ss} {ρ' : Str → Option D} {Q} (hm : (a, .ml ds) ∈ μ) (hρ : ∀ x d', ρ' x = some d' → ∃ d, ρ x = some d ∧ Re a ds d d') (h : ∀ μ', ((a, .ml ds) :: μ').Perm μ → Ex g env own n ρ' μ' ss Q) : Ex g env own n ρ μ ss Q := by
  obtain ⟨s, t, rfl⟩ := List.append_of_mem hm
  exact Ex.perm List.perm_middle.symm (Ex.freeze hρ (h _ List.perm_middle.symm))
theorem ExB.freezeMem {a ds ss} {ρ' : Str → Option D} {Q : Fl → Mu → Prop} (hm : (a, .ml ds) ∈ μ) (hρ : ∀ x d', ρ' x = some d' → ∃ d, ρ x = some d ∧ Re a ds d d') (h : ∀ μ', ((a, .ml ds) :: μ').Perm μ → Ex g env own n ρ' μ' ss fun f _ μ' => Q f μ') : ExB g env own n ρ μ ss Q :=
  ExB.of (Ex.freezeMem hm hρ h)
end

open PySem PySem.W PySem.Calls PyProof.Rows
set_option maxRecDepth 20000
/-! the sort's tree of questions, for keys that are all unlike -/
section
variable {O : KeyOrd} {K : Nat → O.α} {n : Nat} {cmp : Nat → Nat → (Bool → Shared → Prop) → Shared → Prop} {s : Shared}

def PO (n : Nat) (p : Array Nat) : Prop := p.toList.Perm (List.range n)
theorem PO.size {p : Array Nat} (h : PO n p) : p.size = n := by have := h.length_eq; simpa using this
theorem PO.get {p : Array Nat} (h : PO n p) {i : Nat} (hi : i < n) : p.getD i 0 < n := by
  have hs := h.size
  have hi' : i < p.size := by lia
  have e : p.getD i 0 = p[i] := by simp [Array.getD, hi']
  rw [e]
  have : p[i] ∈ p.toList := by simp
  simpa using h.mem_iff.mp this
theorem PO.inj {p : Array Nat} (h : PO n p) {i j : Nat} (hi : i < n) (hj : j < n) (e : p.getD i 0 = p.getD j 0) : i = j := by
  have hs := h.size
  have hi' : i < p.toList.length := by simp; lia
  have hj' : j < p.toList.length := by simp; lia
  have nd : p.toList.Nodup := h.nodup_iff.mpr List.nodup_range
  have e1 : p.getD i 0 = p.toList[i] := by have : i < p.size := by lia
                                           simp [Array.getD, this]
  have e2 : p.getD j 0 = p.toList[j] := by have : j < p.size := by lia
                                           simp [Array.getD, this]
  exact (List.getElem_inj nd).mp (by rw [← e1, ← e2, e])
theorem PO.perm {p q : Array Nat} (h : PO n p) (k : q.Perm p) : PO n q := (Array.perm_iff_toList_perm.mp k).trans h

def lt' (K : Nat → O.α) (p : Array Nat) (i j : Nat) : Prop := O.blt (K (p.getD i 0)) (K (p.getD j 0)) = true
def SO (K : Nat → O.α) (p : Array Nat) (m : Nat) : Prop := ∀ i j, i < j → j < m → lt' K p i j
def DE (K : Nat → O.α) (p : Array Nat) (m : Nat) : Prop := ∀ i j, i < j → j < m → lt' K p j i
theorem lt'.trans {p : Array Nat} {i j k : Nat} (a : lt' K p i j) (b : lt' K p j k) : lt' K p i k := O.trans _ _ _ a b

theorem SO.snoc {p : Array Nat} {m : Nat} (h : SO K p m) (hm : 1 ≤ m) (k : lt' K p (m - 1) m) : SO K p (m + 1) := fun i j hij hj => by
  by_cases e : j = m
  · subst e
    by_cases e2 : i = j - 1
    · subst e2; exact k
    · exact (h i (j - 1) (by lia) (by lia)).trans k
  · exact h i j hij (by lia)
theorem DE.snoc {p : Array Nat} {m : Nat} (h : DE K p m) (hm : 1 ≤ m) (k : lt' K p m (m - 1)) : DE K p (m + 1) := fun i j hij hj => by
  by_cases e : j = m
  · subst e
    by_cases e2 : i = j - 1
    · subst e2; exact k
    · exact k.trans (h i (j - 1) (by lia) (by lia))
  · exact h i j hij (by lia)

variable (hc : ∀ i j C, i < n → j < n → C (O.blt (K i) (K j)) s → cmp i j C s) (hinj : ∀ i j, i < n → j < n → K i = K j → i = j)
include hinj
theorem other {p : Array Nat} (hP : PO n p) {i j : Nat} (hi : i < n) (hj : j < n) (hne : i ≠ j) (h : O.blt (K (p.getD i 0)) (K (p.getD j 0)) = false) : lt' K p j i := by
  unfold lt'
  cases h2 : O.blt (K (p.getD j 0)) (K (p.getD i 0)) with
  | true => rfl
  | false => exact absurd (hP.inj hi hj (hinj _ _ (hP.get hi) (hP.get hj) (O.total _ _ h h2))) hne
include hc

theorem asc_wp {p : Array Nat} (hP : PO n p) : ∀ f m {Q : Nat → Shared → Prop}, 1 ≤ m → m + f = n → SO K p m → (∀ m', m ≤ m' → m' ≤ n → SO K p m' → (m' = n ∨ lt' K p m' (m' - 1)) → Q m' s) → (kas_asc p f m).kasWp cmp Q s
  | 0, m, Q, hm, hf, hS, h => h m (Nat.le_refl _) (by lia) hS (.inl (by lia))
  | f + 1, m, Q, hm, hf, hS, h => by
    refine hc _ _ _ (hP.get (by lia)) (hP.get (by lia)) ?_
    cases hb : O.blt (K (p.getD m 0)) (K (p.getD (m - 1) 0)) with
    | true => exact h m (Nat.le_refl _) (by lia) hS (.inr hb)
    | false =>
      show (kas_asc p f (m + 1)).kasWp cmp Q s
      exact asc_wp hP f (m + 1) (by lia) (by lia) (hS.snoc hm (other hinj hP (by lia) (by lia) (by lia) hb)) fun m' h1 h2 h3 h4 => h m' (by lia) h2 h3 h4

theorem desc_wp {p : Array Nat} (hP : PO n p) : ∀ f m {Q : Array Nat × Nat × Nat → Shared → Prop}, 2 ≤ m → m + f = n → DE K p m → (∀ m', 2 ≤ m' → m' ≤ n → DE K p m' → Q (p, m', 0) s) → (kas_desc f p m 0).kasWp cmp Q s
  | 0, m, Q, hm, hf, hS, h => h m hm (by lia) hS
  | f + 1, m, Q, hm, hf, hS, h => by
    refine hc _ _ _ (hP.get (by lia)) (hP.get (by lia)) ?_
    cases hb : O.blt (K (p.getD m 0)) (K (p.getD (m - 1) 0)) with
    | true =>
      show (kas_desc f p (m + 1) 0).kasWp cmp Q s
      exact desc_wp hP f (m + 1) (by lia) (by lia) (hS.snoc (by lia) hb) h
    | false =>
      have o := other hinj hP (by lia) (by lia) (by lia) hb
      refine hc _ _ _ (hP.get (by lia)) (hP.get (by lia)) ?_
      rw [show O.blt (K (p.getD (m - 1) 0)) (K (p.getD m 0)) = true from o]
      exact h m hm (by lia) hS

omit hc hinj in
theorem rev_get {p : Array Nat} {m : Nat} (hm : m ≤ p.size) (k : Nat) : (kas_rev p 0 m).getD k 0 = if k < m then p.getD (m - 1 - k) 0 else p.getD k 0 := by
  have e := getElem?_mirror_all (xs := p) (i := 0) (j := m) hm k
  unfold kas_rev
  rw [Array.getD_eq_getD_getElem?, e]
  by_cases h : k < m
  · simp [h, Array.getD_eq_getD_getElem?]
  · simp [h, Array.getD_eq_getD_getElem?]

omit hc hinj in
theorem SO.rev {p : Array Nat} {m : Nat} (hm : m ≤ p.size) (h : DE K p m) : SO K (kas_rev p 0 m) m := fun i j hij hj => by
  unfold lt'
  rw [rev_get hm, rev_get hm, if_pos (by lia), if_pos hj]
  exact h (m - 1 - j) (m - 1 - i) (by lia) (by lia)

theorem tail3_wp {p : Array Nat} (hP : PO n p) {m : Nat} {Q : Nat × Array Nat → Shared → Prop} (hm : 2 ≤ m) (hn : m ≤ n) (hD : DE K p m) (h : ∀ m' p', PO n p' → 1 ≤ m' → m' ≤ n → SO K p' m' → Q (m', p') s) : (kas_tail3 m n p).kasWp cmp Q s := by
  unfold kas_tail3
  rw [KasT.kasWp_bind]
  have hP' : PO n (kas_rev p 0 m) := hP.perm (mirror_perm _ _ _ _)
  refine asc_wp hc hinj hP' (n - m) m (by lia) (by lia) (SO.rev (by rw [hP.size]; exact hn) hD) fun m' h1 h2 h3 _ => ?_
  exact h m' _ hP' (by lia) h2 h3

theorem descPart_wp {p : Array Nat} (hP : PO n p) {Q : Nat × Array Nat → Shared → Prop} (h2 : 2 ≤ n) (hD : lt' K p 1 0) (h : ∀ m' p', PO n p' → 1 ≤ m' → m' ≤ n → SO K p' m' → Q (m', p') s) : (kas_descPart 1 n p).kasWp cmp Q s := by
  unfold kas_descPart
  rw [KasT.kasWp_bind]
  refine desc_wp hc hinj hP (n - (1 + 1)) (1 + 1) (by lia) (by lia) (fun i j hij hj => ?_) fun m' h1 h2 h3 => ?_
  · obtain rfl : i = 0 := by lia
    obtain rfl : j = 1 := by lia
    exact hD
  · exact tail3_wp hc hinj hP h1 h2 h3 h

theorem count_wp {p : Array Nat} (hP : PO n p) {Q : Nat × Array Nat → Shared → Prop} (h2 : 2 ≤ n) (h : ∀ m' p', PO n p' → 1 ≤ m' → m' ≤ n → SO K p' m' → Q (m', p') s) : (kas_count n p).kasWp cmp Q s := by
  unfold kas_count
  rw [KasT.kasWp_bind]
  refine asc_wp hc hinj hP (n - 1) 1 (by lia) (by lia) (fun i j hij hj => by lia) fun m h1 h3 hS hw => ?_
  by_cases e : m = n
  · subst e
    simp only [beq_self_eq_true, if_true]
    exact h m p hP h1 h3 hS
  · have e1 : (m == n) = false := by simpa using e
    rw [e1]
    simp only [Bool.false_eq_true, if_false]
    by_cases e2 : m > 1
    · rw [if_pos e2]
      refine hc _ _ _ (hP.get (by lia)) (hP.get (by lia)) ?_
      rw [show O.blt (K (p.getD 0 0)) (K (p.getD (m - 1) 0)) = true from hS 0 (m - 1) (by lia) (by lia)]
      exact h m p hP h1 h3 hS
    · rw [if_neg e2]
      obtain rfl : m = 1 := by lia
      exact descPart_wp hc hinj hP h2 (hw.resolve_left e) h

theorem place_wp {p : Array Nat} (hP : PO n p) {k : Nat} (hk : k < n) (hS : SO K p k) {Q : Nat → Shared → Prop} : ∀ f l r, l ≤ r → r ≤ k → r - l ≤ f → (∀ i, i < l → lt' K p i k) → (∀ i, r ≤ i → i < k → lt' K p k i) →
    (∀ l, l ≤ k → (∀ i, i < l → lt' K p i k) → (∀ i, l ≤ i → i < k → lt' K p k i) → Q l s) → (kas_place p k f l r).kasWp cmp Q s
  | 0, l, r, h1, h2, h3, h4, h5, h => h l (by lia) h4 fun i hi => h5 i (by lia)
  | f + 1, l, r, h1, h2, h3, h4, h5, h => by
    unfold kas_place
    by_cases e : l ≥ r
    · rw [if_pos e]; exact h l (by lia) h4 fun i hi => h5 i (by lia)
    · rw [if_neg e]
      have hm : (l + r) / 2 < k := by lia
      refine hc _ _ _ (hP.get hk) (hP.get (by lia)) ?_
      cases hb : O.blt (K (p.getD k 0)) (K (p.getD ((l + r) / 2) 0)) with
      | true =>
        show (kas_place p k f l ((l + r) / 2)).kasWp cmp Q s
        refine place_wp hP hk hS f l ((l + r) / 2) (by lia) (by lia) (by lia) h4 (fun i hi hik => ?_) h
        by_cases e : i = (l + r) / 2
        · subst e; exact hb
        · exact lt'.trans (K := K) hb (hS _ i (by lia) hik)
      | false =>
        have o := other hinj hP hk (by lia) (by lia) hb
        show (kas_place p k f ((l + r) / 2 + 1) r).kasWp cmp Q s
        refine place_wp hP hk hS f ((l + r) / 2 + 1) r (by lia) h2 (by lia) (fun i hi => ?_) h5 h
        by_cases e : i = (l + r) / 2
        · subst e; exact o
        · exact (hS i _ (by lia) hm).trans o

omit hc hinj in
theorem bub_get {p : Array Nat} {k l : Nat} (hk : k < p.size) (hl : l ≤ k) (i : Nat) : (bubble p k (k - l)).getD i 0 = if i = l then p.getD k 0 else if l < i ∧ i ≤ k then p.getD (i - 1) 0 else p.getD i 0 := by
  have e := getElem?_bubble hk (k - l) (by lia) i
  have gd : ∀ (q : Array Nat) i, q.getD i 0 = (q[i]?).getD 0 := fun q i => Array.getD_eq_getD_getElem? ..
  rw [gd, gd, gd, gd, e, show k - (k - l) = l by lia]
  split
  · rfl
  · split <;> rfl

theorem bin_wp : ∀ f {p : Array Nat} {k : Nat} {Q : Array Nat → Shared → Prop}, PO n p → k + f = n → SO K p k → (∀ p', PO n p' → SO K p' n → Q p' s) → (kas_bin f p k).kasWp cmp Q s
  | 0, p, k, Q, hP, hk, hS, h => h p hP (by obtain rfl : k = n := by lia
                                            exact hS)
  | f + 1, p, k, Q, hP, hk, hS, h => by
    unfold kas_bin
    rw [KasT.kasWp_bind]
    refine place_wp hc hinj hP (by lia) hS k 0 k (by lia) (Nat.le_refl _) (by lia) (fun i hi => by lia) (fun i h1 h2 => by lia) fun l hl a b => ?_
    have hz : k < p.size := by rw [hP.size]; lia
    refine bin_wp f (hP.perm (bubble_perm _ _ _)) (by lia) (fun i j hij hj => ?_) h
    unfold lt'
    rw [bub_get hz hl, bub_get hz hl]
    by_cases e1 : i = l
    · subst e1
      rw [if_pos rfl, if_neg (by lia), if_pos (by lia)]
      exact b (j - 1) (by lia) (by lia)
    · rw [if_neg e1]
      by_cases e2 : j = l
      · subst e2
        rw [if_pos rfl, if_neg (by lia)]
        exact a i hij
      · rw [if_neg e2]
        by_cases e3 : l < j ∧ j ≤ k
        · rw [if_pos e3]
          by_cases e4 : l < i ∧ i ≤ k
          · rw [if_pos e4]; exact hS (i - 1) (j - 1) (by lia) (by lia)
          · rw [if_neg e4]; exact hS i (j - 1) (by lia) (by lia)
        · rw [if_neg e3, if_neg (by lia)]; exact hS i j hij (by lia)

theorem sort_wp {Q : Array Nat → Shared → Prop} (h2 : 2 ≤ n) (h : ∀ p', PO n p' → SO K p' n → Q p' s) : (kas_sort n).kasWp cmp Q s := by
  unfold kas_sort
  rw [KasT.kasWp_bind]
  refine count_wp hc hinj (p := (List.range n).toArray) (List.Perm.refl _) h2 fun m p hP h1 hn hS => ?_
  by_cases e : m < n
  · simp only [e, if_true]
    refine bin_wp hc hinj (n - max m 1) hP (by lia) (by rw [show max m 1 = m by lia]; exact hS) h
  · simp only [e, if_false]
    obtain rfl : m = n := by lia
    exact h p hP hS
end

open PySem PySem.W PySem.Calls PyProof.Rows
set_option maxRecDepth 20000
/-! a bridge to the kit's lemmas that speak of a frame's object and of a list of news -/
def newsOf (h : Heap) (ex : List Addr) : List (Addr × Obj) := (List.range h.objs.size).filterMap fun b => if b ∈ ex then none else (h.get? b).map fun o => (b, o)
theorem mem_newsOf {h : Heap} {ex : List Addr} {b : Addr} {o : Obj} (hb : b ∉ ex) (e : h.get? b = some o) : (b, o) ∈ newsOf h ex :=
  List.mem_filterMap.mpr ⟨b, List.mem_range.mpr (Heap.lt_size e), by rw [if_neg hb, e]; rfl⟩
set_option tactic.hygienic true in
theorem of_newsOf {h : Heap} {ex : List Addr} {p : Addr × Obj} (hp : p ∈ newsOf h ex) : p.1 ∉ ex ∧ h.get? p.1 = some p.2 := by
  obtain ⟨b, _, e⟩ := List.mem_filterMap.mp hp
  split at e
  · cases e
  · rename_i hb
    cases hq : h.get? b with
    | none => rw [hq] at e; cases e
    | some o => rw [hq] at e; cases e; exact ⟨hb, hq⟩
def E0 : Heap := { objs := #[] }
theorem E0_get (b : Addr) : E0.get? b = none := rfl
theorem frE0 {h : Heap} {L : Addr} {m} (hn : h.Ns L m) : Fr E0 L h m := ⟨hn, fun b o e => (by rw [E0_get] at e; cases e), Nat.zero_le _⟩
theorem newsE0 {h : Heap} {L : Addr} {ex} : News E0 L h (newsOf h (L :: ex)) := fun p hp => by
  obtain ⟨a, b⟩ := of_newsOf hp
  exact ⟨b, fun q => a (q ▸ .head _), E0_get _⟩

/-- all stands but L, whose names stand, and ex -/
def But (L : Addr) (ex : List Addr) (h h' : Heap) : Prop := (∀ m, h.Ns L m → h'.Ns L m) ∧ ∀ b o, b ≠ L → b ∉ ex → h.get? b = some o → h'.get? b = some o
theorem ns_unique {h : Heap} {L m m'} (a : h.Ns L m) (b : h.Ns L m') : m = m' := by
  obtain ⟨o, es, ep, e, d, _, k⟩ := a
  obtain ⟨o', es', ep', e', d', _, k'⟩ := b
  rw [e] at e'; cases e'; rw [d] at d'; cases d'
  funext x; rw [← k x, k' x]
theorem But.of {h h' : Heap} {L m ex} (hn : h.Ns L m) (F : Fr E0 L h' m) (N : News E0 L h' (newsOf h (L :: ex))) : But L ex h h' :=
  ⟨fun m' hm' => by rw [ns_unique hm' hn]; exact F.ns, fun b o h1 h2 e => (N _ (mem_newsOf (by simp [h1, h2]) e)).1⟩
theorem GSt.but {g : G} {μ F h h' L ex} (G : GSt g μ F h) (B : But L ex h h') (hF : ∀ a, a = L ∨ a ∈ ex → F a = none ∧ a ∉ μ.dom ∧ a ∉ g.tabDom) (hx : ∀ a ∈ ex, ∀ m, ¬ h.Ns a m) : GSt g μ F h' :=
  G.slots (fun a o e => B.2 a o (fun z => by rw [(hF a (.inl z)).1] at e; cases e) (fun z => by rw [(hF a (.inr z)).1] at e; cases e) (G.fz a o e))
    (fun a o ha e => B.2 a o (fun z => ha.elim (hF a (.inl z)).2.1 (hF a (.inl z)).2.2) (fun z => ha.elim (hF a (.inr z)).2.1 (hF a (.inr z)).2.2) e)
    fun a m hm => by
      by_cases hL : a = L
      · subst hL; exact B.1 m hm
      · obtain ⟨o, es, ep, e, r⟩ := hm
        exact ⟨o, es, ep, B.2 a o hL (fun z => hx a z m ⟨o, es, ep, e, r⟩) e, r⟩
theorem Tr.but {g : G} {μ F L ex h' tk m} {s : Shared} (hn : s.heap.Ns L m) (B : But L ex s.heap h') (hx : ∀ a ∈ ex, ∃ o', h'.get? a = some o') : Tr g ex μ μ F F s { s with heap := h', toks := tk } := by
  have key : ∀ o, s.heap.get? L = some o → ∃ o', h'.get? L = some o' ∧ Up o o' := fun o e => by
    obtain ⟨o1, es, ep, e1, d1, r1⟩ := id hn
    rw [e] at e1; cases e1
    obtain ⟨o2, es2, ep2, e2, d2, r2⟩ := B.1 m hn
    refine ⟨o2, e2, .inr ⟨⟨es, ep, d1⟩, ⟨es2, ep2, d2⟩, fun m' ⟨a, b, c, d⟩ => ?_⟩⟩
    rw [ns_unique ⟨o, a, b, e, c, d⟩ hn]
    exact ⟨es2, ep2, d2, r2⟩
  refine ⟨fun b o e h1 _ _ => ?_, fun b o e => ?_, fun _ _ e => e, (Tr.refl (g := g) (mt := []) (μ := μ) (s := s)).fr, fun _ q => .inl q, rfl, rfl⟩
  · by_cases hL : b = L
    · subst hL; exact key o e
    · exact ⟨o, B.2 b o hL h1 e, .refl o⟩
  · by_cases hL : b = L
    · subst hL; obtain ⟨o', e', _⟩ := key o e; exact ⟨o', e'⟩
    · by_cases hb : b ∈ ex
      · exact hx b hb
      · exact ⟨o, B.2 b o hL hb e⟩
theorem GSt.frame {g : G} {μ F h} (G : GSt g μ F h) (hs : g.stk ≠ []) : ∃ L m, h.Ns L m ∧ F L = none ∧ L ∉ μ.dom ∧ L ∉ g.tabDom := by
  cases hq : g.stk with
  | nil => exact absurd hq hs
  | cons e r =>
    obtain ⟨_, L, m, _, hn, h1, h2⟩ := G.stk e (by rw [hq]; exact .head _)
    exact ⟨L, m, hn, h1, h2, G.nsTab hn⟩

/-! pairs of ints -/
def pairD (p : Int × Int) : D := .tup [.int p.1, .int p.2]
def plt (a b : Int × Int) : Bool := decide (a.1 < b.1) || (a.1 == b.1 && decide (a.2 < b.2))
def lexOrd : KeyOrd where
  α := Int × Int
  blt := plt
  irrefl a := by simp [plt]
  trans a b c h1 h2 := by simp only [plt, Bool.or_eq_true, Bool.and_eq_true, decide_eq_true_eq, beq_iff_eq] at *; lia
  negTrans a b c h := by simp only [plt, Bool.or_eq_true, Bool.and_eq_true, decide_eq_true_eq, beq_iff_eq] at *; lia
  total a b h1 h2 := by
    simp only [plt, Bool.or_eq_false_iff, Bool.and_eq_false_iff, decide_eq_false_iff_not, beq_eq_false_iff_ne] at *
    exact Prod.ext (by lia) (by lia)

/-- a pair as an object -/
def PairAt (h : Heap) (v : Value) (p : Int × Int) : Prop := ∃ a n t u, v = .ref a ∧ h.get? a = some { cls := .type "tuple", dict := Option.none, data := .seq #[.int p.1 t, .int p.2 u] n, slots := #[] }
theorem pair_at {F : FM} {h : Heap} (fz : ∀ a o, F a = some o → h.get? a = some o) {v p} (s : Sees F v (pairD p)) : PairAt h v p := by
  obtain @⟨a, vs, n, e, r⟩ := Sees.tupI s
  obtain ⟨l⟩ := vs
  obtain ⟨_, _, el, s1, r⟩ := SeesAll.consI r
  obtain ⟨_, _, rfl, s2, r⟩ := SeesAll.consI r
  obtain rfl := SeesAll.nilI r; obtain ⟨_, rfl⟩ := Sees.intI s1; obtain ⟨_, rfl⟩ := Sees.intI s2
  obtain rfl : l = _ := el
  exact ⟨a, n, _, _, rfl, fz _ _ e⟩
inductive PairsAt (h : Heap) : List Value → List (Int × Int) → Prop
  | nil : PairsAt h [] []
  | cons {v p vs ps} : PairAt h v p → PairsAt h vs ps → PairsAt h (v :: vs) (p :: ps)
theorem pairs_at {F : FM} {h : Heap} (fz : ∀ a o, F a = some o → h.get? a = some o) {ps : List (Int × Int)} : ∀ {vs : List Value}, SeesAll F vs (ps.map pairD) → PairsAt h vs ps := by
  induction ps with
  | nil => intro vs s; obtain rfl := SeesAll.nilI s; exact .nil
  | cons p ps ih => intro vs s; obtain ⟨_, _, rfl, s1, r⟩ := SeesAll.consI s; exact .cons (pair_at fz s1) (ih r)
theorem PairsAt.len {h : Heap} {vs ps} (x : PairsAt h vs ps) : vs.length = ps.length := by induction x with
  | nil => rfl
  | cons _ _ ih => simp [ih]
theorem PairsAt.get {h : Heap} {vs ps} (x : PairsAt h vs ps) : ∀ i, i < ps.length → PairAt h (vs.getD i Value.none) (ps.getD i (0, 0)) := by
  induction x with
  | nil => intro i hi; simp at hi
  | cons a b ih => intro i hi; cases i with
    | zero => exact a
    | succ i => exact ih i (by simpa using hi)
theorem PairsAt.tups {h : Heap} {vs ps} (x : PairsAt h vs ps) : ∃ fs, KatTups h vs fs ∧ fs.length = ps.length ∧ ∀ v ∈ fs, ∃ i t, v = Value.int i t := by
  induction x with
  | nil => exact ⟨[], .nil, rfl, fun v h => nomatch h⟩
  | cons a _ ih =>
    obtain ⟨b, n, t, u, rfl, e⟩ := a
    obtain ⟨fs, i1, i2, i3⟩ := ih
    exact ⟨_ :: fs, .cons e rfl rfl rfl i1, by simp [i2], fun v hv => by
      cases hv with
      | head => exact ⟨_, _, rfl⟩
      | tail _ hv => exact i3 v hv⟩

section
variable {prog : Program} {w : World} {A : Around} {E : Value → Shared → Prop} {s : Shared}
theorem kat_lt_pair {v1 v2 : Value} {p q : Int × Int} {Q : Bool → Shared → Prop} (h1 : PairAt s.heap v1 p) (h2 : PairAt s.heap v2 q) (h : Q (plt p q) s) : wpAny (model prog w) A (keyLt' (tuples' true) v1 v2) Q E s := by
  obtain ⟨a, n, t, u, rfl, e⟩ := h1
  obtain ⟨a', n', t', u', rfl, e'⟩ := h2
  refine kat_lt e rfl e' rfl ?_
  refine kat_cons (wpAny_eqBool_int (kat_go (fun h1 => ?_) fun h1 => ?_))
  · have h1 : p.1 = q.1 := by simpa using h1
    refine kat_yes (kat_cons (wpAny_eqBool_int (kat_go (fun h2 => ?_) fun h2 => ?_)))
    · have h2 : p.2 = q.2 := by simpa using h2
      refine kat_yes (kat_nil ?_)
      have e : plt p q = false := by simp [plt, h1, h2]
      rw [e] at h; exact h
    · refine kat_no (kat_one _ _ (lt_int ?_))
      have e : plt p q = decide (p.2 < q.2) := by simp [plt, h1]
      rw [e] at h; exact h
  · have h1 : p.1 ≠ q.1 := by simpa using h1
    refine kat_no (oneLt_int ?_)
    have e : plt p q = decide (p.1 < q.1) := by simp [plt, h1]
    rw [e] at h; exact h
end
section
variable {g : G} {env : Env} {own : List Addr} {n : Nat} {ρ : Str → Option D} {μ : Mu}
/-- what the sort puts out -/
theorem out_perm {ps : List (Int × Int)} {p : Array Nat} (hP : PO ps.length p) : (p.toList.map fun i => ps.getD i (0, 0)).Perm ps := by
  refine (hP.map _).trans (List.Perm.of_eq ?_)
  refine List.ext_getElem (by simp) fun i h1 h2 => ?_
  have h2 : i < ps.length := h2
  simp [h2]
theorem out_sorted {ps : List (Int × Int)} {p : Array Nat} {K : Nat → Int × Int} (hP : PO ps.length p) (hS : SO (O := lexOrd) K p ps.length) : (p.toList.map K).Pairwise fun a b => plt a b = true := by
  rw [List.pairwise_iff_getElem]
  intro i j hi hj hij
  have hz := hP.size
  have hi' : i < p.size := by simpa using hi
  have hj' : j < p.size := by simpa using hj
  have := hS i j hij (by lia)
  unfold lt' at this
  have e1 : p.getD i 0 = p[i] := by simp [Array.getD, hi']
  have e2 : p.getD j 0 = p[j] := by simp [Array.getD, hj']
  rw [e1, e2] at this
  have this : plt (K p[i]) (K p[j]) = true := this
  simpa using this
theorem sees_out {F : FM} {vs : List Value} {ps : List (Int × Int)} (s : SeesAll F vs (ps.map pairD)) : ∀ (l : List Nat), (∀ i ∈ l, i < ps.length) → SeesAll F (l.map fun i => vs.getD i Value.none) ((l.map fun i => ps.getD i (0, 0)).map pairD)
  | [], _ => .nil
  | i :: l, h => by
    refine .cons ?_ (sees_out s l fun j hj => h j (.tail _ hj))
    have hi := h i (.head _)
    obtain ⟨v, h1, h2⟩ := s.get (k := i) (d := pairD (ps.getD i (0, 0))) (by simp [hi])
    simpa [h1] using h2
theorem PO.lt {n : Nat} {p : Array Nat} (hP : PO n p) : ∀ i ∈ p.toList, i < n := fun i hi => by simpa using hP.mem_iff.mp hi

theorem Calls.sortedPairs {x : D} {ps : List (Int × Int)} {Q} (hs : g.stk ≠ []) (hx : Rd μ x (ps.map pairD)) (hnd : ps.Nodup) (h2 : 2 ≤ ps.length) (h64 : ps.length < 64)
    (h : ∀ ps' : List (Int × Int), ps'.Perm ps → ps'.Pairwise (fun a b => plt a b = true) → Q (.lst (ps'.map pairD)) μ) : Calls g n (.val (.builtin "sorted")) [x] [] μ Q :=
  Calls.of1 fun A F s fv va ok G sf sa => by
    obtain rfl := Sees.valI sf
    obtain ⟨l, vs, rfl, hL, sds⟩ := hx.isList G sa
    obtain ⟨L, m, hn, hFL, hmL, htL⟩ := G.frame hs
    have hz : vs.toList.length = ps.length := by have := sds.length; simpa using this
    refine kat_sorted (h₀ := E0) (L := L) (m := m) (vs := vs.toList) (news := newsOf s.heap (L :: [])) (frE0 hn) newsE0 (by simpa using hL) (by lia) (by lia) fun D' e1 h' F' N' lt => ?_
    have B : But L [] s.heap h' := .of hn F' fun p hp => N' p (.tail _ hp)
    have hD0 : s.heap.get? D' = none := by
      cases hq : s.heap.get? D' with
      | none => rfl
      | some o =>
        have hne : D' ≠ L := (N' _ (.head _)).2.1
        exact absurd (lt _ (mem_newsOf (by simpa using hne) hq)) (Nat.lt_irrefl _)
    have G' := G.but B (fun a ha => by
      rcases ha with rfl | ha
      · exact ⟨hFL, hmL, htL⟩
      · cases ha) (fun a ha => nomatch ha)
    have PA := pairs_at G'.fz sds
    obtain ⟨fs, t1, t2, t3⟩ := PA.tups
    refine kat_kind (T := .type "int") t1 (by lia) (fun v hv => ?_) rfl ?_
    · obtain ⟨i, t, rfl⟩ := t3 v hv; exact Looks.of_pure rfl
    rw [hz]
    refine sort_wp (O := lexOrd) (K := fun i => ps.getD i (0, 0)) (n := ps.length) (fun i j C hi hj hC => ?_) (fun i j hi hj e => ?_) h2 fun p hP hS => ?_
    · exact kat_lt_pair (PA.get i hi) (PA.get j hj) hC
    · have e : ps.getD i (0, 0) = ps.getD j (0, 0) := e
      simp only [List.getD_eq_getElem?_getD, List.getElem?_eq_getElem hi, List.getElem?_eq_getElem hj, Option.getD_some] at e
      exact (List.getElem_inj hnd).mp e
    · refine KasFin.intro F' N' (.head fun p hp => Nat.ne_of_lt (lt p hp)) fun h'' c F'' N'' => ?_
      have B2 : But L [] s.heap h'' := .of hn F'' fun p hp => N'' p (.tail _ hp)
      have G2 := G.but B2 (fun a ha => by
        rcases ha with rfl | ha
        · exact ⟨hFL, hmL, htL⟩
        · cases ha) (fun a ha => nomatch ha)
      have eD := (N'' _ (.head _)).1
      dsimp only at eD
      obtain ⟨f1, f2, f3⟩ := G.fresh hD0
      have t : Tr g [] μ μ F F s { s with heap := h'' } := Tr.but (tk := s.toks) hn B2 (fun a ha => nomatch ha)
      refine ⟨_, μ, _, { t with le := put_le f1, fr := fun b => ?_ }, G2.freeze eD f1 f2 f3 (fun _ _ z => nomatch z), .lst put_same ((sees_out sds _ hP.lt).mono (put_le f1)), h _ (out_perm hP) (out_sorted hP hS)⟩
      by_cases hb : b = D'
      · subst hb; exact .inr (.inr (.inr hD0))
      · rw [put_ne hb]; exact t.fr b
end

open PySem PySem.W PySem.Calls PyProof.Rows
set_option maxRecDepth 20000
section
variable {g : G} {env : Env} {own : List Addr} {n : Nat} {ρ : Str → Option D} {μ : Mu}

structure KInv (g : Mine.G) (μ : Mu) (s : Shared) (F : FM) (L : Addr) (m : Str → Option Value) (kS D' : Addr) (e1 : Nat) (ks : List Value) (e : Nat) (ds : List D) (Fi : FM) (si : Shared) : Prop where
  gs : GSt g μ Fi si.heap
  t : Tr g [kS, D'] μ μ F Fi s si
  ns : si.heap.Ns L m
  hk : si.heap.get? kS = some (seqObj "list" ks.toArray e)
  hd : si.heap.get? D' = some (seqObj "list" #[] e1)
  sk : SeesAll Fi ks ds
  fL : Fi L = none
  fk : Fi kS = none
  fD : Fi D' = none

structure KFix (g : Mine.G) (μ : Mu) (L kS D' : Addr) : Prop where
  l1 : L ∉ μ.dom ∧ L ∉ g.tabDom
  k : kS ∉ μ.dom ∧ kS ∉ g.tabDom
  d : D' ∉ μ.dom ∧ D' ∉ g.tabDom
  kd : kS ≠ D'
  kL : kS ≠ L
  dL : D' ≠ L

theorem Tr.stillNone {mt F F' : _} {s s' : Shared} (t : Tr g mt μ μ F F' s s') {a : Addr} (h1 : F a = none) (h2 : a ∉ μ.dom) (h3 : ∃ o, s.heap.get? a = some o) : F' a = none := by
  rcases t.fr a with k | k | k | k
  · exact k
  · exact absurd h1 k
  · exact absurd k h2
  · obtain ⟨o, e⟩ := h3; rw [k] at e; cases e

/-- h' is as the heap, but for kS -/
theorem KInv.move {s F L m kS D' e1 ks e ds Fi} {si : Shared} (X : KFix g μ L kS D') (I : KInv g μ s F L m kS D' e1 ks e ds Fi si) {h' : Heap} {ks' : List Value} {c : Nat} {ds' : List D} (B : But L [kS] si.heap h') (hk : h'.get? kS = some (seqObj "list" ks'.toArray c)) (sk : SeesAll Fi ks' ds') :
    KInv g μ s F L m kS D' e1 ks' c ds' Fi { si with heap := h' } := by
  have nk : ∀ mm, ¬ si.heap.Ns kS mm := fun mm ⟨o, es, ep, e, d, _⟩ => by rw [I.hk] at e; cases e; cases d
  refine ⟨I.gs.but B (fun a ha => ?_) (fun a ha => by rw [List.mem_singleton.mp ha]; exact nk), I.t.trans ((Tr.but (tk := si.toks) I.ns B fun a ha => by rw [List.mem_singleton.mp ha]; exact ⟨_, hk⟩).mtLe fun a ha => .inl (by rw [List.mem_singleton.mp ha]; exact .head _)),
    B.1 _ I.ns, hk, B.2 _ _ X.dL (by simpa using X.kd.symm) I.hd, sk, I.fL, I.fk, I.fD⟩
  rcases ha with rfl | ha
  · exact ⟨I.fL, X.l1⟩
  · rw [List.mem_singleton.mp ha]; exact ⟨I.fk, X.k⟩

theorem keys_run {A : Around} {s F L m kS D' e1} {fv : Value} {kd : D} {kf : Int × Int → Int × Int} {Fin : List Value → Nat → Shared → Prop} (X : KFix g μ L kS D') (ok : Ok g n A)
    (hkey : ∀ p, KeyOk g n kd (pairD p) (pairD (kf p))) :
    ∀ (rest : List (Int × Int)) (vs ks : List Value) (done : List (Int × Int)) (e : Nat) (Fi : FM) (si : Shared), KInv g μ s F L m kS D' e1 ks e (done.map pairD) Fi si → Sees Fi fv kd → SeesAll Fi vs (rest.map pairD) →
      (∀ ks e Fi si, KInv g μ s F L m kS D' e1 ks e ((done ++ rest.map kf).map pairD) Fi si → Fin ks e si) → KatKeys g.prog g.w A E0 L m kS fv Fin vs ks e si
  | [], vs, ks, done, e, Fi, si, I, sf, sv, fin => by
    obtain rfl := SeesAll.nilI sv
    exact KatKeys.nil (fin ks e Fi si (by simpa using I))
  | p :: rest, vs, ks, done, e, Fi, si, I, sf, sv, fin => by
    obtain ⟨v, vs, rfl, s1, r⟩ := SeesAll.consI sv
    refine KatKeys.cons (wpAny_mono (hkey p g.stk μ (fun d μ' => d = pairD (kf p) ∧ μ' = μ) ⟨rfl, rfl⟩ A Fi si fv [v] [] ok I.gs sf (.cons s1 .nil) .nil rfl) ?_ fun _ _ x => x.elim)
    rintro k s' ⟨d, μ', F', t, G', sk, hd, hμ⟩
    subst hd
    have hμ := hμ.symm
    subst hμ
    have I' : KInv g μ s F L m kS D' e1 ks e (done.map pairD) F' s' :=
      ⟨G', I.t.trans t.toOwn, t.ns I.ns (fun h => nomatch h) X.l1.1 X.l1.2, t.at (nnsq rfl) I.hk (fun h => nomatch h) X.k.1 X.k.2, t.at (nnsq rfl) I.hd (fun h => nomatch h) X.d.1 X.d.2, I.sk.mono t.le,
        t.stillNone I.fL X.l1.1 (by obtain ⟨o, _, _, e, _⟩ := I.ns; exact ⟨o, e⟩), t.stillNone I.fk X.k.1 ⟨_, I.hk⟩, t.stillNone I.fD X.d.1 ⟨_, I.hd⟩⟩
    refine KatBack.intro (news := (kS, seqObj "list" ks.toArray e) :: newsOf s'.heap (L :: [kS])) (frE0 I'.ns) (fun q hq => ?_) (.head fun q hq => ?_) fun h' c F'' N'' => ?_
    · cases hq with
      | head => exact ⟨I'.hk, X.kL, E0_get _⟩
      | tail _ hq => exact newsE0 q hq
    · intro z; exact (of_newsOf hq).1 (by rw [z]; simp)
    · have B : But L [kS] s'.heap h' := .of I'.ns F'' fun q hq => N'' q (.tail _ hq)
      refine keys_run X ok hkey rest vs (ks ++ [k]) (done ++ [kf p]) c F' _ (I'.move X B (N'' _ (.head _)).1 ?_) (sf.mono t.le) (r.mono t.le) fun ks e Fi si I => fin ks e Fi si (by simpa using I)
      rw [List.map_append]
      exact (I.sk.mono t.le).append (.cons sk .nil)

theorem Calls.sortedPairsK {x kd : D} {ps : List (Int × Int)} {kf : Int × Int → Int × Int} {Q} (hs : g.stk ≠ []) (hx : Rd μ x (ps.map pairD)) (hcl : ∃ q pa b sc cd cp, kd = .clo q pa b sc cd cp) (hkey : ∀ p, KeyOk g n kd (pairD p) (pairD (kf p))) (hnd : (ps.map kf).Nodup) (h2 : 2 ≤ ps.length) (h64 : ps.length < 64)
    (h : ∀ ps' : List (Int × Int), ps'.Perm ps → (ps'.map kf).Pairwise (fun a b => plt a b = true) → Q (.lst (ps'.map pairD)) μ) : Calls g (n + 2) (.val (.builtin "sorted")) [x] [("key", kd)] μ Q := fun A F s fv vs kvs ok G sf sa sk hkn => by
  obtain rfl := Sees.valI sf
  obtain ⟨_, _, rfl, sa', r⟩ := SeesAll.consI sa
  obtain rfl := SeesAll.nilI r
  obtain ⟨fk, rfl, sfk⟩ := kvs1 hkn sk
  obtain ⟨fa, rfl⟩ : ∃ fa, fk = .ref fa := by
    obtain ⟨q, pa, b, sc, cd, cp, rfl⟩ := hcl
    obtain ⟨_, _, _, _, _⟩ := Sees.cloI sfk; exact ⟨_, rfl⟩
  obtain ⟨l, xs, rfl, hL, sds⟩ := hx.isList G sa'
  obtain ⟨L, m, hn, hFL, hmL, htL⟩ := G.frame hs
  have hz : xs.toList.length = ps.length := by have := sds.length; simpa using this
  refine kat_sortedK (h₀ := E0) (L := L) (m := m) (vs := xs.toList) (b := false) (f := .ref fa) (kw := [("key", .ref fa)]) (news := newsOf s.heap (L :: [])) (frE0 hn) newsE0 (by simpa using hL) (by lia) (by lia)
    (ksk_s1 _ _) (fun _ => ksk_l1 _ _) (fun _ => ksk_t1 _ _) fun D' kS e1 h' F' N' hlt lt => ?_
  have B : But L [] s.heap h' := .of hn F' fun p hp => N' p (.tail _ (.tail _ hp))
  have nw : ∀ a, a ≠ L → (∀ q ∈ newsOf s.heap [L], q.1 < a) → s.heap.get? a = none := fun a hne hlt => by
    cases hq : s.heap.get? a with
    | none => rfl
    | some o => exact absurd (hlt _ (mem_newsOf (by simpa using hne) hq)) (Nat.lt_irrefl _)
  have nk := N' _ (.head _)
  have nd := N' _ (.tail _ (.head _))
  have hD0 := nw D' nd.2.1 lt
  have hk0 := nw kS nk.2.1 fun q hq => Nat.lt_trans (lt q hq) hlt
  obtain ⟨d1, d2, d3⟩ := G.fresh hD0
  obtain ⟨k1, k2, k3⟩ := G.fresh hk0
  have X : KFix g μ L kS D' := ⟨⟨hmL, htL⟩, ⟨k2, k3⟩, ⟨d2, d3⟩, Nat.ne_of_gt hlt, nk.2.1, nd.2.1⟩
  have I : KInv g μ s F L m kS D' e1 [] 0 (([] : List (Int × Int)).map pairD) F { s with heap := h' } :=
    ⟨G.but B (fun a ha => by
      rcases ha with rfl | ha
      · exact ⟨hFL, hmL, htL⟩
      · cases ha) (fun a ha => nomatch ha), (Tr.but (tk := s.toks) hn B fun a ha => nomatch ha).toOwn, B.1 _ hn, nk.1, nd.1, .nil, hFL, k1, d1⟩
  refine keys_run X ok.in1.in1 hkey ps xs.toList [] [] 0 F _ I sfk sds fun ks e Fi si I => ?_
  have hkl : ks.length = ps.length := by have := I.sk.length; simpa using this
  have skk : SeesAll Fi ks ((ps.map kf).map pairD) := by simpa using I.sk
  have PA := pairs_at I.gs.fz skk
  obtain ⟨fs, t1, t2, t3⟩ := PA.tups
  refine kat_kind (T := .type "int") t1 (by rw [t2]; simp; lia) (fun v hv => ?_) rfl ?_
  · obtain ⟨i, t, rfl⟩ := t3 v hv; exact Looks.of_pure rfl
  rw [hz]
  have gk : ∀ i, i < ps.length → (ps.map kf).getD i (0, 0) = kf (ps.getD i (0, 0)) := fun i hi => by simp [hi]
  refine sort_wp (O := lexOrd) (K := fun i => (ps.map kf).getD i (0, 0)) (n := ps.length) (fun i j C hi hj hC => ?_) (fun i j hi hj e => ?_) h2 fun p hP hS => ?_
  · exact kat_lt_pair (PA.get i (by simpa using hi)) (PA.get j (by simpa using hj)) hC
  · have e : (ps.map kf).getD i (0, 0) = (ps.map kf).getD j (0, 0) := e
    have hi' : i < (ps.map kf).length := by simpa using hi
    have hj' : j < (ps.map kf).length := by simpa using hj
    simp only [List.getD_eq_getElem?_getD, List.getElem?_eq_getElem hi', List.getElem?_eq_getElem hj', Option.getD_some] at e
    exact (List.getElem_inj hnd).mp e
  · refine KatFin.intro (news := (kS, seqObj "list" ks.toArray e) :: newsOf si.heap (L :: [kS])) (frE0 I.ns) (fun q hq => ?_) (.head fun q hq z => (of_newsOf hq).1 (by rw [z]; simp)) fun h1 c F1 N1 => ?_
    · cases hq with
      | head => exact ⟨I.hk, X.kL, E0_get _⟩
      | tail _ hq => exact newsE0 q hq
    have B1 : But L [kS] si.heap h1 := .of I.ns F1 fun q hq => N1 q (.tail _ hq)
    have I1 := I.move (ks' := []) (ds' := []) X B1 (N1 _ (.head _)).1 .nil
    refine KasFin.intro (news := (D', seqObj "list" #[] e1) :: newsOf h1 (L :: [D'])) F1 (fun q hq => ?_) (.head fun q hq z => (of_newsOf hq).1 (by rw [z]; simp)) fun h2 c2 F2 N2 => ?_
    · cases hq with
      | head => exact ⟨I1.hd, X.dL, E0_get _⟩
      | tail _ hq => exact newsE0 q hq
    have B2 : But L [D'] h1 h2 := .of I1.ns F2 fun q hq => N2 q (.tail _ hq)
    have nD : ∀ mm, ¬ h1.Ns D' mm := fun mm ⟨o, es, ep, e, d, _⟩ => by rw [show h1.get? D' = _ from I1.hd] at e; cases e; cases d
    have eD := (N2 _ (.head _)).1
    have G2 := I1.gs.but B2 (fun a ha => by
      rcases ha with rfl | ha
      · exact ⟨I1.fL, X.l1⟩
      · rw [List.mem_singleton.mp ha]; exact ⟨I1.fD, X.d⟩) (fun a ha => by rw [List.mem_singleton.mp ha]; exact nD)
    have t2' : Tr g [kS, D'] μ μ F Fi s { si with heap := h2 } := I1.t.trans ((Tr.but (s := { si with heap := h1 }) (tk := si.toks) I1.ns B2 fun a ha => by rw [List.mem_singleton.mp ha]; exact ⟨_, eD⟩).mtLe fun a ha => .inl (by rw [List.mem_singleton.mp ha]; simp))
    have t3' : Tr g [] μ μ F Fi s { si with heap := h2 } := t2'.mtLe fun a ha => .inr (by
      simp only [List.mem_cons, List.not_mem_nil, or_false] at ha
      rcases ha with rfl | rfl
      · exact hk0
      · exact hD0)
    have hS' : SO (O := lexOrd) (fun i => (ps.map kf).getD i (0, 0)) p ps.length := hS
    refine ⟨_, μ, _, { t3' with le := fun b o q => put_le I1.fD _ _ (t3'.le b o q), fr := fun b => ?_ }, G2.freeze eD I1.fD X.d.1 X.d.2 (fun _ _ z => nomatch z), .lst put_same ((sees_out (sds.mono t3'.le) _ hP.lt).mono (put_le I1.fD)), h _ (out_perm hP) ?_⟩
    · by_cases hb : b = D'
      · subst hb; exact .inr (.inr (.inr hD0))
      · rw [put_ne hb]; exact t3'.fr b
    · have := out_sorted (ps := ps) hP hS'
      have e : (p.toList.map fun i => ps.getD i (0, 0)).map kf = p.toList.map fun i => (ps.map kf).getD i (0, 0) := by
        rw [List.map_map]
        exact List.map_congr_left fun i hi => (gk i (hP.lt i hi)).symm
      rw [e]; exact this
end

open PySem PySem.W PySem.Calls PyProof.Rows
set_option maxRecDepth 20000
section
variable {g : G} {env : Env} {own : List Addr} {n : Nat} {ρ : Str → Option D} {μ : Mu}
theorem updL2 {a b : Str} {x y : D} : updL ρ [a, b].reverse [x, y].reverse = upd (upd ρ b y) a x := rfl
theorem updL3 {a b c : Str} {x y z : D} : updL ρ [a, b, c].reverse [x, y, z].reverse = upd (upd (upd ρ c z) b y) a x := rfl
theorem bindable_cell {fd : FuncData} {L a : Addr} {x : Str} (he : env = callEnvC fd L a) (ho : own = ownOf fd L) (hk : fd.scope.names.lookup x = some .cell) : Bindable env own x := by
  subst he ho
  have hs := cellsFrom_some (x := x) fd.scope.names (L + 1) [] (.inl hk)
  obtain ⟨c, hc⟩ := Option.isSome_iff_exists.mp hs
  exact .inr ⟨hk, c, hc, .tail _ (List.mem_map.mpr ⟨_, lookup_mem hc, rfl⟩)⟩

theorem gens1 {x : Comprehension} (h : GenOk x) : ∀ y ∈ [x], GenOk y := fun y hy => List.mem_singleton.mp hy ▸ h
theorem gens2 {x z : Comprehension} (h : GenOk x) (k : GenOk z) : ∀ y ∈ [x, z], GenOk y := fun y hy => by
  rcases List.mem_cons.mp hy with rfl | hy
  · exact h
  · exact gens1 k y hy
/-! data that can be held side by side -/
def PyOk (k : Nat) (d : D) : Prop := ∃ p, toPy d = some p ∧ p.depth ≤ k
theorem PyOk.int {k i} : PyOk k (.int i) := ⟨.int i, rfl, Nat.zero_le _⟩
theorem PyOk.none {k} : PyOk k .none := ⟨.none, rfl, Nat.zero_le _⟩
theorem PyOk.bool {k b} : PyOk k (.bool b) := ⟨.bool b, rfl, Nat.zero_le _⟩
theorem PyOk.str {k x} (h : PyData.strOk x = true) : PyOk k (.str x) := ⟨.str x, by simp [toPy, h], Nat.zero_le _⟩
theorem PyOk.alls {k : Nat} : ∀ {ds : List D}, (∀ d ∈ ds, PyOk k d) → ∃ ps, toPys ds = some ps ∧ PyData.depthAll ps ≤ k
  | [], _ => ⟨[], rfl, Nat.zero_le _⟩
  | d :: ds, h => by
    obtain ⟨p, e, l⟩ := h d (.head _)
    obtain ⟨ps, e2, l2⟩ := PyOk.alls fun x hx => h x (.tail _ hx)
    exact ⟨p :: ps, by simp [toPys, e, e2], Nat.max_le.mpr ⟨l, l2⟩⟩
theorem PyOk.lst {k : Nat} {ds : List D} (h : ∀ d ∈ ds, PyOk k d) : PyOk (k + 1) (.lst ds) := by
  obtain ⟨ps, e, l⟩ := PyOk.alls h
  exact ⟨.list ps, by simp [toPy, e], by simp only [PyData.depth]; lia⟩
theorem PyOk.tup {k : Nat} {ds : List D} (h : ∀ d ∈ ds, PyOk k d) : PyOk (k + 1) (.tup ds) := by
  obtain ⟨ps, e, l⟩ := PyOk.alls h
  exact ⟨.tuple ps, by simp [toPy, e], by simp only [PyData.depth]; lia⟩
theorem PyOk.le {k m d} (h : PyOk k d) (l : k ≤ m) : PyOk m d := (by obtain ⟨p, a, b⟩ := h; exact ⟨p, a, Nat.le_trans b l⟩)
theorem PyOk.ints {l : List Int} : PyOk 1 (.lst (l.map .int)) := PyOk.lst fun d hd => by obtain ⟨i, _, rfl⟩ := List.mem_map.mp hd; exact .int
theorem PyOk.pairs {l : List (Int × Int)} : PyOk 2 (.lst (l.map pairD)) := PyOk.lst fun d hd => by
  obtain ⟨p, _, rfl⟩ := List.mem_map.mp hd
  exact PyOk.tup fun x hx => by
    simp only [List.mem_cons, List.not_mem_nil, or_false] at hx
    rcases hx with rfl | rfl <;> exact .int
theorem Act2.neSame {a b Q} (e : a = b) (hp : PyOk 20 a) (h : Q (.bool false) μ) : Act2 g n μ (compareOp .NotEq) a b Q := fun A F s va vb ok G sa sb => by
  subst e
  obtain ⟨p, e, l⟩ := hp
  have hc := (sa.reads G.fz e).2
  exact Act2.neD (p := p) (q := p) e e l (by rw [PySem.SeqAt.eqv_refl p hc]; exact h) A F s va vb ok G sa sb
theorem Act2.eqSame {a b Q} (e : a = b) (hp : PyOk 20 a) (h : Q (.bool true) μ) : Act2 g n μ (compareOp .Eq) a b Q := fun A F s va vb ok G sa sb => by
  subst e
  obtain ⟨p, e, l⟩ := hp
  have hc := (sa.reads G.fz e).2
  exact Act2.eqD (p := p) (q := p) e e l (by rw [PySem.SeqAt.eqv_refl p hc]; exact h) A F s va vb ok G sa sb

/-! slices of ints -/
def ipick (l : List Int) (lo hi st : Option Int) : List Int :=
  (sliceRange (sliceBounds lo hi st l.length).1 (sliceBounds lo hi st l.length).2.1 (sliceBounds lo hi st l.length).2.2).filterMap (l[·]?)
theorem dpick_ints (l : List Int) (lo hi st) : dpick (l.map .int) lo hi st = (ipick l lo hi st).map .int := by
  unfold dpick ipick
  rw [List.length_map, List.map_filterMap]
  exact fm_congr fun i _ => by simp
set_option tactic.hygienic true in
theorem ipick_len (l : List Int) (k : Nat) : (ipick l (some (k : Int)) Option.none (some 8)).length ≤ l.length := by
  refine Nat.le_trans (List.length_filterMap_le _ _) ?_
  unfold sliceRange
  simp only [List.length_map, List.length_range]
  unfold sliceBounds
  simp only [Option.getD_some, Option.getD_none]
  have h8 : ((8 : Int) > 0) := by decide
  simp only [h8, if_true]
  have hk : ¬ (k : Int) < 0 := by lia
  simp only [hk, if_false]
  split
  · rename_i h
    lia
  · simp

/-! comprehensions over lists of some kind -/
theorem CompL.mapA {α : Type} {x : Str} {p : Pos} {elt : Expr} {K : CK} (t f : α → D) (hb : Bindable env own x) : ∀ (xs : List α) (acc : List D) {ρ : Str → Option D}, acc.length + xs.length ≤ 100000 →
    (∀ a ∈ xs, ∀ Q : D → Mu → Prop, Q (f a) μ → Ev g env own n (upd ρ x (t a)) μ elt Q) → (∀ r, K (acc ++ xs.map f) r μ) → CompL g env own n (CompG g env own n elt []) (.Name x p) [] (xs.map t) ρ μ acc K
  | [], acc, ρ, hl, h, k => by have := k ρ; rwa [List.map_nil, List.append_nil] at this
  | d :: ds, acc, ρ, hl, h, k => by
    simp only [List.length_cons] at hl
    refine .name hb (show (true = true → _) ∧ (true = false → _) from ⟨fun _ => ⟨by lia, h d (.head _) _ ?_⟩, fun e => nomatch e⟩)
    refine CompL.mapA t f hb ds _ (by simp; lia) (fun e he => by rw [upd_upd]; exact h e (.tail _ he)) (fun r => ?_)
    have := k r
    rwa [List.map_cons, ← List.singleton_append, ← List.append_assoc] at this
theorem CompL.mapA2 {α : Type} {x y : Str} {p q r0 : Pos} {k0 : Nat} {elt : Expr} {K : CK} (t1 t2 f : α → D) (hb : Bindable env own x) (hb2 : Bindable env own y) : ∀ (xs : List α) (acc : List D) {ρ : Str → Option D}, acc.length + xs.length ≤ 100000 →
    (∀ a ∈ xs, ∀ Q : D → Mu → Prop, Q (f a) μ → Ev g env own n (upd (upd ρ x (t1 a)) y (t2 a)) μ elt Q) → (∀ r, K (acc ++ xs.map f) r μ) →
    CompL g env own n (CompG g env own n elt []) (.Tuple [.Name x p, .Name y q] k0 r0) [] (xs.map fun a => .tup [t1 a, t2 a]) ρ μ acc K
  | [], acc, ρ, hl, h, k => by have := k ρ; rwa [List.map_nil, List.append_nil] at this
  | d :: ds, acc, ρ, hl, h, k => by
    simp only [List.length_cons] at hl
    refine .tup (.cons hb (.cons hb2 (.nil (show (true = true → _) ∧ (true = false → _) from ⟨fun _ => ⟨by lia, h d (.head _) _ ?_⟩, fun e => nomatch e⟩))))
    refine CompL.mapA2 t1 t2 f hb hb2 ds _ (by simp; lia) (fun e he => by rw [upd_upd2]; exact h e (.tail _ he)) (fun r => ?_)
    have := k r
    rwa [List.map_cons, ← List.singleton_append, ← List.append_assoc] at this
theorem CompL.filterA2 {α : Type} {x y : Str} {p q r0 : Pos} {k0 : Nat} {elt test : Expr} {K : CK} (t1 t2 f : α → D) (c : α → Bool) (hb : Bindable env own x) (hb2 : Bindable env own y) : ∀ (xs : List α) (acc : List D) {ρ : Str → Option D}, acc.length + xs.length ≤ 100000 →
    (∀ a ∈ xs, ∀ Q : Bool → Mu → Prop, Q (c a) μ → Et g env own n (upd (upd ρ x (t1 a)) y (t2 a)) μ test Q) →
    (∀ a ∈ xs, c a = true → ∀ Q : D → Mu → Prop, Q (f a) μ → Ev g env own n (upd (upd ρ x (t1 a)) y (t2 a)) μ elt Q) → (∀ r, K (acc ++ (xs.filter c).map f) r μ) →
    CompL g env own n (CompG g env own n elt []) (.Tuple [.Name x p, .Name y q] k0 r0) [test] (xs.map fun a => .tup [t1 a, t2 a]) ρ μ acc K
  | [], acc, ρ, hl, ht, h, k => by have := k ρ; rwa [List.filter_nil, List.map_nil, List.append_nil] at this
  | d :: ds, acc, ρ, hl, ht, h, k => by
    simp only [List.length_cons] at hl
    refine .tup (.cons hb (.cons hb2 (.nil (ht d (.head _) _ ⟨fun e => ?_, fun e => ?_⟩))))
    · refine show (true = true → _) ∧ (true = false → _) from ⟨fun _ => ⟨by lia, h d (.head _) e _ ?_⟩, fun e => nomatch e⟩
      refine CompL.filterA2 t1 t2 f c hb hb2 ds _ (by simp; lia) (fun e he => by rw [upd_upd2]; exact ht e (.tail _ he)) (fun e he => by rw [upd_upd2]; exact h e (.tail _ he)) (fun r => ?_)
      have := k r
      rwa [List.filter_cons_of_pos e, List.map_cons, ← List.singleton_append, ← List.append_assoc] at this
    · refine ⟨fun e => (nomatch e), fun _ => ?_⟩
      refine CompL.filterA2 t1 t2 f c hb hb2 ds _ (by lia) (fun e he => by rw [upd_upd2]; exact ht e (.tail _ he)) (fun e he => by rw [upd_upd2]; exact h e (.tail _ he)) (fun r => ?_)
      have := k r
      rwa [List.filter_cons_of_neg (by rw [e]; exact Bool.false_ne_true)] at this

/-- an if that is not taken: its test alone, what follows apart -/
theorem Ex.skipIf {t : Expr} {b rest : List Stmt} {pos : Pos} {Q} (h : Et g env own n ρ μ t fun c μ₁ => c = false ∧ μ₁ = μ) (k : Ex g env own n ρ μ rest Q) : Ex g env own n ρ μ (.If t b [] pos :: rest) Q :=
  Ex.cons (Ex1.ite (Et.mono h fun c μ₁ ⟨hc, hm⟩ => by subst hc; subst hm; exact ff_of (Ex.nil (next_of k))))
end

open PySem PySem.W PySem.Calls PyProof.Rows
set_option maxRecDepth 20000
set_option hygiene false in
local macro_rules | `(tactic| walk_at "rho") => `(tactic| first | with_reducible assumption | with_reducible exact upd_same | ((with_reducible refine' upd_ne ?zqah ?zqak); (case zqah => decide); (case zqak => walk_at "rho")) | with_reducible exact rho_hit | ((with_reducible refine' rho_miss ?zqah ?zqak); (case zqah => decide); (case zqak => walk_at "rho")) | ((with_reducible refine' restr_get ?zqah ?zqak); (case zqah => exact rfl); (case zqak => walk_at "rho")))
set_option hygiene false in
local macro_rules | `(tactic| walk_at "kind") => `(tactic| first | (refine' kind_of ?zqbh ?zqbe; (case zqbh => assumption); (case zqbe => exact rfl)) | (refine' kindX_of ?zqbh ?zqbe; (case zqbh => assumption); (case zqbe => exact rfl)) | (refine' kindC_of ?zqbh ?zqbe; (case zqbh => assumption); (case zqbe => exact rfl)))
set_option hygiene false in
local macro_rules | `(tactic| walk_at "isk") => `(tactic| (refine' ns_of ?zqch ?zqce; (case zqch => assumption); (case zqce => exact rfl)))
set_option hygiene false in
local macro_rules | `(tactic| walk_at "mem") => `(tactic| first | with_reducible assumption | with_reducible exact mem_hd | ((with_reducible refine' mem_tl ?zqdh); (case zqdh => walk_at "mem")) | ((with_reducible refine' setMu_has ?zqdh); (case zqdh => walk_at "mem")))
set_option hygiene false in
local macro_rules | `(tactic| walk_at "rd") => `(tactic| first | with_reducible assumption | with_reducible exact Rd.lst | ((with_reducible refine' Rd.mu ?zqeh); (case zqeh => walk_at "mem")))
set_option hygiene false in
local macro_rules | `(tactic| walk_at "st") => `(tactic| first
  | with_reducible refine next_of ?_
  | with_reducible refine ret_of ?_
  | with_reducible refine tt_of ?_
  | with_reducible refine ff_of ?_
  | with_reducible refine TBool.of ?_
  | with_reducible refine Ex.cons ?_
  | with_reducible refine Ex.nil ?_
  | with_reducible refine Ex1.ite ?_
  | with_reducible refine Ex1.ret ?_
  | ((with_reducible refine' Ex1.assign ?_ ?zqfh1 ?zqfh2); (case zqfh1 => walk_at "bind"); (case zqfh2 => exact rfl))
  | with_reducible refine Ev.cint ?_
  | with_reducible refine Ev.cnone ?_
  | with_reducible refine Ev.cstr ?_
  | with_reducible refine Ev.cbool ?_
  | ((with_reducible refine' Ev.name ?zqfhx ?_ ?zqfh1 ?zqfh2); (case zqfhx => walk_at "rho"); (case zqfh1 => decide); (case zqfh2 => decide))
  | ((with_reducible refine' Ev.glob ?zqfh1 ?zqfh2 ?_ ?zqfh3); (case zqfh1 => walk_at "kind"); (case zqfh2 => walk_at "isk"); (case zqfh3 => decide))
  | ((with_reducible refine' Ev.blt ?zqfh1 ?zqfh2 ?zqfh3 ?_ ?zqfh4 ?zqfh5); (case zqfh1 => walk_at "kind"); (case zqfh2 => walk_at "isk"); (case zqfh3 => boot_fast); (case zqfh4 => decide); (case zqfh5 => decide))
  | with_reducible refine Ev.binop ?_
  | ((with_reducible refine' Ev.cmp ?_ ?zqfh); (case zqfh => with_unfolding_all rfl))
  | ((with_reducible refine' Et.cmp ?_ ?zqfh); (case zqfh => with_unfolding_all rfl))
  | with_reducible refine Ev.unop ?_
  | with_reducible refine Act1.neg ?_
  | with_reducible refine Ev.sub ?_
  | with_reducible refine Ev.slc ?_
  | with_reducible refine EvP.none ?_
  | with_reducible refine EvP.some ?_
  | with_reducible refine Ev.tuple ?_
  | ((with_reducible refine' len_and ?zqfhl ?_); (case zqfhl => (simp only [List.length_cons, List.length_nil]; decide)))
  | ((with_reducible refine' Ev.call ?_ ?zqfh1 ?zqfh2 ?zqfh3); (case zqfh1 => exact rfl); (case zqfh2 => exact rfl); (case zqfh3 => exact rfl))
  | with_reducible refine EvL.nil ?_
  | ((with_reducible refine' EvL.cons ?_ ?zqfhp); (case zqfhp => exact rfl))
  | with_reducible refine EvK.nil ?_
  | with_reducible refine EvK.cons ?_
  | with_reducible refine keep_blt ?_
  | with_reducible refine keep_type ?_
  | with_reducible refine keep_clo ?_
  | ((with_reducible refine' keep_fn ?zqfh1 ?zqfh2 ?_); (case zqfh1 => assumption); (case zqfh2 => exact rfl))
  | ((with_reducible refine' keep_as ?zqfh1 ?_); (case zqfh1 => with_reducible assumption))
  | with_reducible refine Act2.add ?_
  | with_reducible refine Act2.sub ?_
  | with_reducible refine Act2.lt ?_
  | with_reducible refine Act2.gt ?_
  | with_reducible refine Act2.eq ?_
  | with_reducible refine Act2.ne ?_
  | ((with_reducible refine' Act2.floordiv ?zqfh1 ?zqfh2 ?_); (case zqfh1 => decide); (case zqfh2 => decide))
  | ((with_reducible refine' Act2.mod ?zqfh ?_); (case zqfh => decide))
  | ((with_reducible refine' Act2.isnone ?zqfh ?_); (case zqfh => exact rfl))
  | ((with_reducible refine' Act2.isnotnone ?zqfh ?_); (case zqfh => exact rfl)))
set_option hygiene false in
local macro_rules | `(tactic| walk_at "bind") => `(tactic| first | (refine' bindable_local ?zqghbk; (case zqghbk => walk_at "kind")) | (refine' bindable_cell ?zqgh1 ?zqgh2 ?zqgh3; (case zqgh1 => assumption); (case zqgh2 => assumption); (case zqgh3 => exact rfl)))
set_option hygiene false in
local macro_rules | `(tactic| walk_at "ck") => `(tactic| exact ⟨by subst_vars; rfl, by decide, rfl, by decide, by first | exact gens1 ⟨rfl, fun _ _ => rfl⟩ | exact gens2 ⟨rfl, fun _ _ => rfl⟩ ⟨rfl, fun _ _ => rfl⟩⟩)
set_option hygiene false in
local macro_rules | `(tactic| walk_at "comp1") => `(tactic| (refine' Ex1.assignComp (by omega) ?zqick ?zqihb ?zqihs ?_; (case zqick => walk_at "ck"); (case zqihb => walk_at "bind"); (case zqihs => (subst_vars; exact rfl))))
set_option hygiene false in
local macro_rules | `(tactic| walk_at "comp") => `(tactic| (refine' Ev.comp (by omega) ?zqjck ?_; (case zqjck => walk_at "ck")))
set_option hygiene false in
local macro_rules | `(tactic| walk_at "compS") => `(tactic| first | walk_at "comp1" | (refine' Ex1.assign ?_ ?zqkh1 ?zqkh2; (case zqkh1 => walk_at "bind"); (case zqkh2 => (subst_vars; exact rfl)); walk_at "comp"))
/-- loads alone, run over what is known to stand -/
def ldRun {α : Type} (K : Frag) : Nat → Sem α → Option α
  | 0, _ => none
  | n + 1, t => match t with
    | .pure v => some v
    | .load a _ k => (K.lookup a).elim none fun o => ldRun K n (k o)
    | _ => none
theorem ldRun_ok {α : Type} {K : Frag} {M : Model} {A : Around} {E : Value → Shared → Prop} {s : Shared} {Q : α → Shared → Prop} {v : α} (X : K.In s.heap) (n : Nat) : ∀ (t : Sem α), ldRun K n t = some v → Q v s → wpAny M A t Q E s := by
  induction n with
  | zero => exact fun _ e _ => nomatch e
  | succ n ih =>
    intro t
    cases t with
    | pure a => intro e q; cases e; exact wpAny_pure q
    | load a p k =>
      intro e q
      have e : (K.lookup a).elim none (fun o => ldRun K n (k o)) = some v := e
      cases hk : K.lookup a with
      | none => rw [hk] at e; cases e
      | some o => rw [hk] at e; exact wp_ld rfl (X _ _ hk) (ih (k o) e q)
    | _ => exact fun e => nomatch e
theorem bindsTo_of {g : G} {K : Frag} {s : Shared} {fd : FuncData} {as : Args} {bs : List (Str × Value)} (hK : g.K = K) (X : g.K.In s.heap) (n : Nat) (e : ldRun K n (bindArgs fd as) = some bs) : BindsTo s fd as bs :=
  fun _ _ _ _ hq => ldRun_ok (hK ▸ X) n _ e hq
inductive BB : Addr → List D → List (Str × D) → List (Str × D) → Prop
  | c23_20 (a b : D) : BB 23 [a, b] [] [("a", a), ("x", b), ("lo", .int 0), ("hi", .none), ("key", .none)]
  | c23_30 (a b c : D) : BB 23 [a, b, c] [] [("a", a), ("x", b), ("lo", c), ("hi", .none), ("key", .none)]
  | c23_40 (a b c d : D) : BB 23 [a, b, c, d] [] [("a", a), ("x", b), ("lo", c), ("hi", d), ("key", .none)]
  | c23_21 (a b e : D) : BB 23 [a, b] [("key", e)] [("a", a), ("x", b), ("lo", .int 0), ("hi", .none), ("key", e)]
  | c23_31 (a b c e : D) : BB 23 [a, b, c] [("key", e)] [("a", a), ("x", b), ("lo", c), ("hi", .none), ("key", e)]
  | c23_41 (a b c d e : D) : BB 23 [a, b, c, d] [("key", e)] [("a", a), ("x", b), ("lo", c), ("hi", d), ("key", e)]
  | c32_20 (a b : D) : BB 32 [a, b] [] [("a", a), ("x", b), ("lo", .int 0), ("hi", .none), ("key", .none)]
  | c32_30 (a b c : D) : BB 32 [a, b, c] [] [("a", a), ("x", b), ("lo", c), ("hi", .none), ("key", .none)]
  | c32_40 (a b c d : D) : BB 32 [a, b, c, d] [] [("a", a), ("x", b), ("lo", c), ("hi", d), ("key", .none)]
  | c32_21 (a b e : D) : BB 32 [a, b] [("key", e)] [("a", a), ("x", b), ("lo", .int 0), ("hi", .none), ("key", e)]
  | c32_31 (a b c e : D) : BB 32 [a, b, c] [("key", e)] [("a", a), ("x", b), ("lo", c), ("hi", .none), ("key", e)]
  | c32_41 (a b c d e : D) : BB 32 [a, b, c, d] [("key", e)] [("a", a), ("x", b), ("lo", c), ("hi", d), ("key", e)]
  | c41_20 (a b : D) : BB 41 [a, b] [] [("a", a), ("x", b), ("lo", .int 0), ("hi", .none), ("key", .none)]
  | c41_30 (a b c : D) : BB 41 [a, b, c] [] [("a", a), ("x", b), ("lo", c), ("hi", .none), ("key", .none)]
  | c41_40 (a b c d : D) : BB 41 [a, b, c, d] [] [("a", a), ("x", b), ("lo", c), ("hi", d), ("key", .none)]
  | c41_21 (a b e : D) : BB 41 [a, b] [("key", e)] [("a", a), ("x", b), ("lo", .int 0), ("hi", .none), ("key", e)]
  | c41_31 (a b c e : D) : BB 41 [a, b, c] [("key", e)] [("a", a), ("x", b), ("lo", c), ("hi", .none), ("key", e)]
  | c41_41 (a b c d e : D) : BB 41 [a, b, c, d] [("key", e)] [("a", a), ("x", b), ("lo", c), ("hi", d), ("key", e)]
  | c50_20 (a b : D) : BB 50 [a, b] [] [("a", a), ("x", b), ("lo", .int 0), ("hi", .none), ("key", .none)]
  | c50_30 (a b c : D) : BB 50 [a, b, c] [] [("a", a), ("x", b), ("lo", c), ("hi", .none), ("key", .none)]
  | c50_40 (a b c d : D) : BB 50 [a, b, c, d] [] [("a", a), ("x", b), ("lo", c), ("hi", d), ("key", .none)]
  | c50_21 (a b e : D) : BB 50 [a, b] [("key", e)] [("a", a), ("x", b), ("lo", .int 0), ("hi", .none), ("key", e)]
  | c50_31 (a b c e : D) : BB 50 [a, b, c] [("key", e)] [("a", a), ("x", b), ("lo", c), ("hi", .none), ("key", e)]
  | c50_41 (a b c d e : D) : BB 50 [a, b, c, d] [("key", e)] [("a", a), ("x", b), ("lo", c), ("hi", d), ("key", e)]
  | c32_h (a b e : D) : BB 32 [a, b] [("hi", e)] [("a", a), ("x", b), ("lo", .int 0), ("hi", e), ("key", .none)]
  | c50_h (a b e : D) : BB 50 [a, b] [("hi", e)] [("a", a), ("x", b), ("lo", .int 0), ("hi", e), ("key", .none)]
  | c57 (a b c : D) : BB 57 [a, b, c] [] [("row", a), ("number", b), ("place", c)]
  | c64 (a b c d : D) : BB 64 [a, b, c, d] [] [("row", a), ("number", b), ("low", c), ("high", d)]
  | c71 (a : D) : BB 71 [a] [] [("row", a)]
  | c76 (a : D) : BB 76 [a] [] [("script", a)]
theorem BB.ok {g : G} {fa : Addr} {args kws bd} (hK : g.K = hd.heap_39 g.w.params) (h : BB fa args kws bd) : BindsAt g fa args kws bd := by
  induction h
  · exact bindsAt_of hK rfl rfl (Binds.mk20 fun F s v1 v2 X s1 s2 => ⟨[("a", v1), ("x", v2), ("lo", .int 0 _), ("hi", .none), ("key", .none)], bindsTo_of hK X 9 rfl, .cons s1 (.cons s2 (.cons (.int _ _) (.cons .none (.cons .none (.nil)))))⟩)
  · exact bindsAt_of hK rfl rfl (Binds.mk30 fun F s v1 v2 v3 X s1 s2 s3 => ⟨[("a", v1), ("x", v2), ("lo", v3), ("hi", .none), ("key", .none)], bindsTo_of hK X 9 rfl, .cons s1 (.cons s2 (.cons s3 (.cons .none (.cons .none (.nil)))))⟩)
  · exact bindsAt_of hK rfl rfl (Binds.mk40 fun F s v1 v2 v3 v4 X s1 s2 s3 s4 => ⟨[("a", v1), ("x", v2), ("lo", v3), ("hi", v4), ("key", .none)], bindsTo_of hK X 9 rfl, .cons s1 (.cons s2 (.cons s3 (.cons s4 (.cons .none (.nil)))))⟩)
  · exact bindsAt_of hK rfl rfl (Binds.mk21 fun F s v1 v2 v3 X s1 s2 s3 => ⟨[("a", v1), ("x", v2), ("lo", .int 0 _), ("hi", .none), ("key", v3)], bindsTo_of hK X 9 rfl, .cons s1 (.cons s2 (.cons (.int _ _) (.cons .none (.cons s3 (.nil)))))⟩)
  · exact bindsAt_of hK rfl rfl (Binds.mk31 fun F s v1 v2 v3 v4 X s1 s2 s3 s4 => ⟨[("a", v1), ("x", v2), ("lo", v3), ("hi", .none), ("key", v4)], bindsTo_of hK X 9 rfl, .cons s1 (.cons s2 (.cons s3 (.cons .none (.cons s4 (.nil)))))⟩)
  · exact bindsAt_of hK rfl rfl (Binds.mk41 fun F s v1 v2 v3 v4 v5 X s1 s2 s3 s4 s5 => ⟨[("a", v1), ("x", v2), ("lo", v3), ("hi", v4), ("key", v5)], bindsTo_of hK X 9 rfl, .cons s1 (.cons s2 (.cons s3 (.cons s4 (.cons s5 (.nil)))))⟩)
  · exact bindsAt_of hK rfl rfl (Binds.mk20 fun F s v1 v2 X s1 s2 => ⟨[("a", v1), ("x", v2), ("lo", .int 0 _), ("hi", .none), ("key", .none)], bindsTo_of hK X 9 rfl, .cons s1 (.cons s2 (.cons (.int _ _) (.cons .none (.cons .none (.nil)))))⟩)
  · exact bindsAt_of hK rfl rfl (Binds.mk30 fun F s v1 v2 v3 X s1 s2 s3 => ⟨[("a", v1), ("x", v2), ("lo", v3), ("hi", .none), ("key", .none)], bindsTo_of hK X 9 rfl, .cons s1 (.cons s2 (.cons s3 (.cons .none (.cons .none (.nil)))))⟩)
  · exact bindsAt_of hK rfl rfl (Binds.mk40 fun F s v1 v2 v3 v4 X s1 s2 s3 s4 => ⟨[("a", v1), ("x", v2), ("lo", v3), ("hi", v4), ("key", .none)], bindsTo_of hK X 9 rfl, .cons s1 (.cons s2 (.cons s3 (.cons s4 (.cons .none (.nil)))))⟩)
  · exact bindsAt_of hK rfl rfl (Binds.mk21 fun F s v1 v2 v3 X s1 s2 s3 => ⟨[("a", v1), ("x", v2), ("lo", .int 0 _), ("hi", .none), ("key", v3)], bindsTo_of hK X 9 rfl, .cons s1 (.cons s2 (.cons (.int _ _) (.cons .none (.cons s3 (.nil)))))⟩)
  · exact bindsAt_of hK rfl rfl (Binds.mk31 fun F s v1 v2 v3 v4 X s1 s2 s3 s4 => ⟨[("a", v1), ("x", v2), ("lo", v3), ("hi", .none), ("key", v4)], bindsTo_of hK X 9 rfl, .cons s1 (.cons s2 (.cons s3 (.cons .none (.cons s4 (.nil)))))⟩)
  · exact bindsAt_of hK rfl rfl (Binds.mk41 fun F s v1 v2 v3 v4 v5 X s1 s2 s3 s4 s5 => ⟨[("a", v1), ("x", v2), ("lo", v3), ("hi", v4), ("key", v5)], bindsTo_of hK X 9 rfl, .cons s1 (.cons s2 (.cons s3 (.cons s4 (.cons s5 (.nil)))))⟩)
  · exact bindsAt_of hK rfl rfl (Binds.mk20 fun F s v1 v2 X s1 s2 => ⟨[("a", v1), ("x", v2), ("lo", .int 0 _), ("hi", .none), ("key", .none)], bindsTo_of hK X 9 rfl, .cons s1 (.cons s2 (.cons (.int _ _) (.cons .none (.cons .none (.nil)))))⟩)
  · exact bindsAt_of hK rfl rfl (Binds.mk30 fun F s v1 v2 v3 X s1 s2 s3 => ⟨[("a", v1), ("x", v2), ("lo", v3), ("hi", .none), ("key", .none)], bindsTo_of hK X 9 rfl, .cons s1 (.cons s2 (.cons s3 (.cons .none (.cons .none (.nil)))))⟩)
  · exact bindsAt_of hK rfl rfl (Binds.mk40 fun F s v1 v2 v3 v4 X s1 s2 s3 s4 => ⟨[("a", v1), ("x", v2), ("lo", v3), ("hi", v4), ("key", .none)], bindsTo_of hK X 9 rfl, .cons s1 (.cons s2 (.cons s3 (.cons s4 (.cons .none (.nil)))))⟩)
  · exact bindsAt_of hK rfl rfl (Binds.mk21 fun F s v1 v2 v3 X s1 s2 s3 => ⟨[("a", v1), ("x", v2), ("lo", .int 0 _), ("hi", .none), ("key", v3)], bindsTo_of hK X 9 rfl, .cons s1 (.cons s2 (.cons (.int _ _) (.cons .none (.cons s3 (.nil)))))⟩)
  · exact bindsAt_of hK rfl rfl (Binds.mk31 fun F s v1 v2 v3 v4 X s1 s2 s3 s4 => ⟨[("a", v1), ("x", v2), ("lo", v3), ("hi", .none), ("key", v4)], bindsTo_of hK X 9 rfl, .cons s1 (.cons s2 (.cons s3 (.cons .none (.cons s4 (.nil)))))⟩)
  · exact bindsAt_of hK rfl rfl (Binds.mk41 fun F s v1 v2 v3 v4 v5 X s1 s2 s3 s4 s5 => ⟨[("a", v1), ("x", v2), ("lo", v3), ("hi", v4), ("key", v5)], bindsTo_of hK X 9 rfl, .cons s1 (.cons s2 (.cons s3 (.cons s4 (.cons s5 (.nil)))))⟩)
  · exact bindsAt_of hK rfl rfl (Binds.mk20 fun F s v1 v2 X s1 s2 => ⟨[("a", v1), ("x", v2), ("lo", .int 0 _), ("hi", .none), ("key", .none)], bindsTo_of hK X 9 rfl, .cons s1 (.cons s2 (.cons (.int _ _) (.cons .none (.cons .none (.nil)))))⟩)
  · exact bindsAt_of hK rfl rfl (Binds.mk30 fun F s v1 v2 v3 X s1 s2 s3 => ⟨[("a", v1), ("x", v2), ("lo", v3), ("hi", .none), ("key", .none)], bindsTo_of hK X 9 rfl, .cons s1 (.cons s2 (.cons s3 (.cons .none (.cons .none (.nil)))))⟩)
  · exact bindsAt_of hK rfl rfl (Binds.mk40 fun F s v1 v2 v3 v4 X s1 s2 s3 s4 => ⟨[("a", v1), ("x", v2), ("lo", v3), ("hi", v4), ("key", .none)], bindsTo_of hK X 9 rfl, .cons s1 (.cons s2 (.cons s3 (.cons s4 (.cons .none (.nil)))))⟩)
  · exact bindsAt_of hK rfl rfl (Binds.mk21 fun F s v1 v2 v3 X s1 s2 s3 => ⟨[("a", v1), ("x", v2), ("lo", .int 0 _), ("hi", .none), ("key", v3)], bindsTo_of hK X 9 rfl, .cons s1 (.cons s2 (.cons (.int _ _) (.cons .none (.cons s3 (.nil)))))⟩)
  · exact bindsAt_of hK rfl rfl (Binds.mk31 fun F s v1 v2 v3 v4 X s1 s2 s3 s4 => ⟨[("a", v1), ("x", v2), ("lo", v3), ("hi", .none), ("key", v4)], bindsTo_of hK X 9 rfl, .cons s1 (.cons s2 (.cons s3 (.cons .none (.cons s4 (.nil)))))⟩)
  · exact bindsAt_of hK rfl rfl (Binds.mk41 fun F s v1 v2 v3 v4 v5 X s1 s2 s3 s4 s5 => ⟨[("a", v1), ("x", v2), ("lo", v3), ("hi", v4), ("key", v5)], bindsTo_of hK X 9 rfl, .cons s1 (.cons s2 (.cons s3 (.cons s4 (.cons s5 (.nil)))))⟩)
  · exact bindsAt_of hK rfl rfl (Binds.mk21 fun F s v1 v2 v3 X s1 s2 s3 => ⟨[("a", v1), ("x", v2), ("lo", .int 0 _), ("hi", v3), ("key", .none)], bindsTo_of hK X 9 rfl, .cons s1 (.cons s2 (.cons (.int _ _) (.cons s3 (.cons .none (.nil)))))⟩)
  · exact bindsAt_of hK rfl rfl (Binds.mk21 fun F s v1 v2 v3 X s1 s2 s3 => ⟨[("a", v1), ("x", v2), ("lo", .int 0 _), ("hi", v3), ("key", .none)], bindsTo_of hK X 9 rfl, .cons s1 (.cons s2 (.cons (.int _ _) (.cons s3 (.cons .none (.nil)))))⟩)
  · exact bindsAt_of hK rfl rfl (Binds.mk30 fun F s v1 v2 v3 X s1 s2 s3 => ⟨[("row", v1), ("number", v2), ("place", v3)], bindsTo_of hK X 9 rfl, .cons s1 (.cons s2 (.cons s3 (.nil)))⟩)
  · exact bindsAt_of hK rfl rfl (Binds.mk40 fun F s v1 v2 v3 v4 X s1 s2 s3 s4 => ⟨[("row", v1), ("number", v2), ("low", v3), ("high", v4)], bindsTo_of hK X 9 rfl, .cons s1 (.cons s2 (.cons s3 (.cons s4 (.nil))))⟩)
  · exact bindsAt_of hK rfl rfl (Binds.mk10 fun F s v1 X s1 => ⟨[("row", v1)], bindsTo_of hK X 9 rfl, .cons s1 (.nil)⟩)
  · exact bindsAt_of hK rfl rfl (Binds.mk10 fun F s v1 X s1 => ⟨[("script", v1)], bindsTo_of hK X 9 rfl, .cons s1 (.nil)⟩)

open PySem PySem.W PySem.Calls PyProof.Rows
set_option maxRecDepth 20000
section
variable {g : G} (hK : g.K = hd.heap_39 g.w.params)
include hK

theorem bisR_body {a x : D} {ds : List D} {lo hi : Nat} {p : Nat → Bool} {n : Nat} {μ : Mu} {Q : D → Mu → Prop} {args kws hiD} (hb : BindsAt g 32 args kws [("a", a), ("x", x), ("lo", .int lo), ("hi", hiD), ("key", .none)])
    (hr : Rd μ a ds) (hl : (ds.length : Int) < 2 ^ 62) (hhi : hi ≤ ds.length) (hhd : hiD = .int hi ∨ (hiD = .none ∧ hi = ds.length))
    (hp : ∀ i d, ds[i]? = some d → LtOk x d (p i)) (h : Q (.int (bis p lo hi)) μ) :
    Calls g (n + 1) (.val (.ref 32)) args kws μ Q := by
  refine' Calls.enter (fa := 32) (hK := ?a) (hfo := ?b) (hbody := ?c) (hclo := ?d) (hglob := ?e) (hblt := ?f) (hcode := ?gg) (hco := ?h) (hgen := ?i) (hk := ?j)
    (bd := [("a", a), ("x", x), ("lo", .int lo), ("hi", hiD), ("key", .none)]) ?bb (nm := ["a", "x", "lo", "hi", "key"]) (hnm := rfl) (hnames := ?k) (by decide) (hcn := ?l) ?_
  case a => rw [hK]; rfl
  case b => rfl
  case c => rfl
  case d => rfl
  case e => rfl
  case f => rfl
  case gg => rw [hK]; rfl
  case h => rfl
  case i => rfl
  case j => rfl
  case k => rfl
  case l => decide
  case bb => exact hb _ _ (by rw [hK]; rfl) rfl
  intro env own L he ho
  repeat' walk_at "st"
  refine dec_of (fun h => absurd h (by lia)) fun _ => ?_
  refine Ex.nil (next_of ?_)
  refine Ex.seq (fun ρ' μ' => μ' = μ ∧ ρ' "a" = some a ∧ ρ' "x" = some x ∧ ρ' "lo" = some (.int lo) ∧ ρ' "hi" = some (.int hi) ∧ ρ' "key" = some .none) ?_ ?_
  · rcases hhd with rfl | ⟨rfl, rfl⟩
    · repeat' walk_at "st"
      exact ⟨rfl, rfl, by walk_at "rho", by walk_at "rho", by walk_at "rho", by walk_at "rho", by walk_at "rho"⟩
    · repeat' walk_at "st"
      refine len_D hr hl ?_
      repeat' walk_at "st"
      exact ⟨rfl, rfl, by walk_at "rho", by walk_at "rho", by walk_at "rho", by walk_at "rho", by walk_at "rho"⟩
  rintro ρ μ' ⟨rfl, h1, h2, h3, h4, h5⟩
  repeat' walk_at "st"
  refine Ex1.while (I := fun k ρ μ₁ => ∃ lo' hi' : Nat, μ₁ = μ' ∧ hi' ≤ ds.length ∧ bis p lo' hi' = bis p lo hi ∧ k = hi' - lo' ∧ ρ "a" = some a ∧ ρ "x" = some x ∧ ρ "lo" = some (.int lo') ∧ ρ "hi" = some (.int hi')) (hi - lo)
    ⟨lo, hi, rfl, hhi, rfl, rfl, h1, h2, h3, h4⟩ ?_
  rintro k ρ μ₁ ⟨lo', hi', rfl, hh, hb, rfl, h1, h2, h3, h4⟩
  repeat' walk_at "st"
  refine dec_of (fun hlt => ?_) fun hge => ?_
  · have hm : ((lo' : Int) + hi').fdiv 2 = (((lo' + hi') / 2 : Nat) : Int) := by rw [Int.fdiv_eq_ediv_of_nonneg _ (by decide)]; lia
    have hlt' : lo' < hi' := by lia
    have hb' := hb
    rw [bis_eq, if_pos hlt'] at hb'
    repeat' walk_at "st"
    have hidx : (lo' + hi') / 2 < ds.length := by lia
    rw [hm]
    refine Act2.item hr (d := ds[(lo' + hi') / 2]) (idx?_nat.trans (List.getElem?_eq_getElem hidx)) hl ?_ (fun _ _ => rfl)
    repeat' walk_at "st"
    refine hp _ _ (List.getElem?_eq_getElem hidx) _ _ _ _ ?_
    repeat' walk_at "st"
    cases hpm : p ((lo' + hi') / 2) with
    | true =>
      rw [hpm, if_pos rfl] at hb'
      try refine (show _ from Eq.mp (by rw [Bool.not_true]) ?_)
      repeat' walk_at "st"
      exact ⟨(lo' + hi') / 2 - lo', by lia, lo', (lo' + hi') / 2, rfl, by lia, hb', rfl, by walk_at "rho", by walk_at "rho", by walk_at "rho", by walk_at "rho"⟩
    | false =>
      rw [hpm, if_neg (by decide)] at hb'
      try refine (show _ from Eq.mp (by rw [Bool.not_false]) ?_)
      repeat' walk_at "st"
      exact ⟨hi' - ((lo' + hi') / 2 + 1), by lia, (lo' + hi') / 2 + 1, hi', rfl, by lia, hb', rfl, by walk_at "rho", by walk_at "rho", upd_same.trans (congrArg (fun z => some (D.int z)) (by lia)), by walk_at "rho"⟩
  · repeat' walk_at "st"
    rw [bis_eq, if_neg (by lia)] at hb
    rw [hb]; exact h

theorem bisRk_body {a x kd : D} {ds : List D} {lo hi : Nat} {p : Nat → Bool} {n : Nat} {μ : Mu} {Q : D → Mu → Prop} {args kws hiD} (hb : BindsAt g 32 args kws [("a", a), ("x", x), ("lo", .int lo), ("hi", hiD), ("key", kd)])
    (hr : Rd μ a ds) (hl : (ds.length : Int) < 2 ^ 62) (hhi : hi ≤ ds.length) (hhd : hiD = .int hi ∨ (hiD = .none ∧ hi = ds.length))
    (hkn : isNone kd = some false) (hkk : KeepD g kd) (hp : ∀ i d, ds[i]? = some d → ∃ e, KeyOk g n kd d e ∧ LtOk x e (p i)) (h : Q (.int (bis p lo hi)) μ) :
    Calls g (n + 1) (.val (.ref 32)) args kws μ Q := by
  refine' Calls.enter (fa := 32) (hK := ?a) (hfo := ?b) (hbody := ?c) (hclo := ?d) (hglob := ?e) (hblt := ?f) (hcode := ?gg) (hco := ?h) (hgen := ?i) (hk := ?j)
    (bd := [("a", a), ("x", x), ("lo", .int lo), ("hi", hiD), ("key", kd)]) ?bb (nm := ["a", "x", "lo", "hi", "key"]) (hnm := rfl) (hnames := ?k) (by decide) (hcn := ?l) ?_
  case a => rw [hK]; rfl
  case b => rfl
  case c => rfl
  case d => rfl
  case e => rfl
  case f => rfl
  case gg => rw [hK]; rfl
  case h => rfl
  case i => rfl
  case j => rfl
  case k => rfl
  case l => decide
  case bb => exact hb _ _ (by rw [hK]; rfl) rfl
  intro env own L he ho
  repeat' walk_at "st"
  refine dec_of (fun h => absurd h (by lia)) fun _ => ?_
  refine Ex.nil (next_of ?_)
  refine Ex.seq (fun ρ' μ' => μ' = μ ∧ ρ' "a" = some a ∧ ρ' "x" = some x ∧ ρ' "lo" = some (.int lo) ∧ ρ' "hi" = some (.int hi) ∧ ρ' "key" = some kd) ?_ ?_
  · rcases hhd with rfl | ⟨rfl, rfl⟩
    · repeat' walk_at "st"
      exact ⟨rfl, rfl, by walk_at "rho", by walk_at "rho", by walk_at "rho", by walk_at "rho", by walk_at "rho"⟩
    · repeat' walk_at "st"
      refine len_D hr hl ?_
      repeat' walk_at "st"
      exact ⟨rfl, rfl, by walk_at "rho", by walk_at "rho", by walk_at "rho", by walk_at "rho", by walk_at "rho"⟩
  rintro ρ μ' ⟨rfl, h1, h2, h3, h4, h5⟩
  repeat' walk_at "st"
  refine Act2.isnone hkn ?_
  repeat' walk_at "st"
  refine Ex1.while (I := fun k ρ μ₁ => ∃ lo' hi' : Nat, μ₁ = μ' ∧ hi' ≤ ds.length ∧ bis p lo' hi' = bis p lo hi ∧ k = hi' - lo' ∧ ρ "a" = some a ∧ ρ "x" = some x ∧ ρ "lo" = some (.int lo') ∧ ρ "hi" = some (.int hi') ∧ ρ "key" = some kd) (hi - lo)
    ⟨lo, hi, rfl, hhi, rfl, rfl, h1, h2, h3, h4, h5⟩ ?_
  rintro k ρ μ₁ ⟨lo', hi', rfl, hh, hb, rfl, h1, h2, h3, h4, h5⟩
  repeat' walk_at "st"
  refine dec_of (fun hlt => ?_) fun hge => ?_
  · have hm : ((lo' : Int) + hi').fdiv 2 = (((lo' + hi') / 2 : Nat) : Int) := by rw [Int.fdiv_eq_ediv_of_nonneg _ (by decide)]; lia
    have hlt' : lo' < hi' := by lia
    have hb' := hb
    rw [bis_eq, if_pos hlt'] at hb'
    repeat' walk_at "st"
    have hidx : (lo' + hi') / 2 < ds.length := by lia
    rw [hm]
    refine Act2.item hr (d := ds[(lo' + hi') / 2]) (idx?_nat.trans (List.getElem?_eq_getElem hidx)) hl ?_ (fun _ _ => rfl)
    obtain ⟨e, hke, hle⟩ := hp _ _ (List.getElem?_eq_getElem hidx)
    refine hke _ _ _ ?_
    repeat' walk_at "st"
    refine hle _ _ _ _ ?_
    repeat' walk_at "st"
    cases hpm : p ((lo' + hi') / 2) with
    | true =>
      rw [hpm, if_pos rfl] at hb'
      try refine (show _ from Eq.mp (by rw [Bool.not_true]) ?_)
      repeat' walk_at "st"
      exact ⟨(lo' + hi') / 2 - lo', by lia, lo', (lo' + hi') / 2, rfl, by lia, hb', rfl, by walk_at "rho", by walk_at "rho", by walk_at "rho", by walk_at "rho", by walk_at "rho"⟩
    | false =>
      rw [hpm, if_neg (by decide)] at hb'
      try refine (show _ from Eq.mp (by rw [Bool.not_false]) ?_)
      repeat' walk_at "st"
      exact ⟨hi' - ((lo' + hi') / 2 + 1), by lia, (lo' + hi') / 2 + 1, hi', rfl, by lia, hb', rfl, by walk_at "rho", by walk_at "rho", upd_same.trans (congrArg (fun z => some (D.int z)) (by lia)), by walk_at "rho", by walk_at "rho"⟩
  · repeat' walk_at "st"
    rw [bis_eq, if_neg (by lia)] at hb
    rw [hb]; exact h

theorem bisL_body {a x : D} {ds : List D} {lo hi : Nat} {p : Nat → Bool} {n : Nat} {μ : Mu} {Q : D → Mu → Prop} {args kws hiD} (hb : BindsAt g 50 args kws [("a", a), ("x", x), ("lo", .int lo), ("hi", hiD), ("key", .none)])
    (hr : Rd μ a ds) (hl : (ds.length : Int) < 2 ^ 62) (hhi : hi ≤ ds.length) (hhd : hiD = .int hi ∨ (hiD = .none ∧ hi = ds.length))
    (hp : ∀ i d, ds[i]? = some d → LtOk d x (!p i)) (h : Q (.int (bis p lo hi)) μ) :
    Calls g (n + 1) (.val (.ref 50)) args kws μ Q := by
  refine' Calls.enter (fa := 50) (hK := ?a) (hfo := ?b) (hbody := ?c) (hclo := ?d) (hglob := ?e) (hblt := ?f) (hcode := ?gg) (hco := ?h) (hgen := ?i) (hk := ?j)
    (bd := [("a", a), ("x", x), ("lo", .int lo), ("hi", hiD), ("key", .none)]) ?bb (nm := ["a", "x", "lo", "hi", "key"]) (hnm := rfl) (hnames := ?k) (by decide) (hcn := ?l) ?_
  case a => rw [hK]; rfl
  case b => rfl
  case c => rfl
  case d => rfl
  case e => rfl
  case f => rfl
  case gg => rw [hK]; rfl
  case h => rfl
  case i => rfl
  case j => rfl
  case k => rfl
  case l => decide
  case bb => exact hb _ _ (by rw [hK]; rfl) rfl
  intro env own L he ho
  repeat' walk_at "st"
  refine dec_of (fun h => absurd h (by lia)) fun _ => ?_
  refine Ex.nil (next_of ?_)
  refine Ex.seq (fun ρ' μ' => μ' = μ ∧ ρ' "a" = some a ∧ ρ' "x" = some x ∧ ρ' "lo" = some (.int lo) ∧ ρ' "hi" = some (.int hi) ∧ ρ' "key" = some .none) ?_ ?_
  · rcases hhd with rfl | ⟨rfl, rfl⟩
    · repeat' walk_at "st"
      exact ⟨rfl, rfl, by walk_at "rho", by walk_at "rho", by walk_at "rho", by walk_at "rho", by walk_at "rho"⟩
    · repeat' walk_at "st"
      refine len_D hr hl ?_
      repeat' walk_at "st"
      exact ⟨rfl, rfl, by walk_at "rho", by walk_at "rho", by walk_at "rho", by walk_at "rho", by walk_at "rho"⟩
  rintro ρ μ' ⟨rfl, h1, h2, h3, h4, h5⟩
  repeat' walk_at "st"
  refine Ex1.while (I := fun k ρ μ₁ => ∃ lo' hi' : Nat, μ₁ = μ' ∧ hi' ≤ ds.length ∧ bis p lo' hi' = bis p lo hi ∧ k = hi' - lo' ∧ ρ "a" = some a ∧ ρ "x" = some x ∧ ρ "lo" = some (.int lo') ∧ ρ "hi" = some (.int hi')) (hi - lo)
    ⟨lo, hi, rfl, hhi, rfl, rfl, h1, h2, h3, h4⟩ ?_
  rintro k ρ μ₁ ⟨lo', hi', rfl, hh, hb, rfl, h1, h2, h3, h4⟩
  repeat' walk_at "st"
  refine dec_of (fun hlt => ?_) fun hge => ?_
  · have hm : ((lo' : Int) + hi').fdiv 2 = (((lo' + hi') / 2 : Nat) : Int) := by rw [Int.fdiv_eq_ediv_of_nonneg _ (by decide)]; lia
    have hlt' : lo' < hi' := by lia
    have hb' := hb
    rw [bis_eq, if_pos hlt'] at hb'
    repeat' walk_at "st"
    have hidx : (lo' + hi') / 2 < ds.length := by lia
    rw [hm]
    refine Act2.item hr (d := ds[(lo' + hi') / 2]) (idx?_nat.trans (List.getElem?_eq_getElem hidx)) hl ?_ (fun _ _ => rfl)
    repeat' walk_at "st"
    refine hp _ _ (List.getElem?_eq_getElem hidx) _ _ _ _ ?_
    repeat' walk_at "st"
    cases hpm : p ((lo' + hi') / 2) with
    | true =>
      rw [hpm, if_pos rfl] at hb'
      try refine (show _ from Eq.mp (by rw [Bool.not_true]) ?_)
      repeat' walk_at "st"
      exact ⟨(lo' + hi') / 2 - lo', by lia, lo', (lo' + hi') / 2, rfl, by lia, hb', rfl, by walk_at "rho", by walk_at "rho", by walk_at "rho", by walk_at "rho"⟩
    | false =>
      rw [hpm, if_neg (by decide)] at hb'
      try refine (show _ from Eq.mp (by rw [Bool.not_false]) ?_)
      repeat' walk_at "st"
      exact ⟨hi' - ((lo' + hi') / 2 + 1), by lia, (lo' + hi') / 2 + 1, hi', rfl, by lia, hb', rfl, by walk_at "rho", by walk_at "rho", upd_same.trans (congrArg (fun z => some (D.int z)) (by lia)), by walk_at "rho"⟩
  · repeat' walk_at "st"
    rw [bis_eq, if_neg (by lia)] at hb
    rw [hb]; exact h

theorem bisLk_body {a x kd : D} {ds : List D} {lo hi : Nat} {p : Nat → Bool} {n : Nat} {μ : Mu} {Q : D → Mu → Prop} {args kws hiD} (hb : BindsAt g 50 args kws [("a", a), ("x", x), ("lo", .int lo), ("hi", hiD), ("key", kd)])
    (hr : Rd μ a ds) (hl : (ds.length : Int) < 2 ^ 62) (hhi : hi ≤ ds.length) (hhd : hiD = .int hi ∨ (hiD = .none ∧ hi = ds.length))
    (hkn : isNone kd = some false) (hkk : KeepD g kd) (hp : ∀ i d, ds[i]? = some d → ∃ e, KeyOk g n kd d e ∧ LtOk e x (!p i)) (h : Q (.int (bis p lo hi)) μ) :
    Calls g (n + 1) (.val (.ref 50)) args kws μ Q := by
  refine' Calls.enter (fa := 50) (hK := ?a) (hfo := ?b) (hbody := ?c) (hclo := ?d) (hglob := ?e) (hblt := ?f) (hcode := ?gg) (hco := ?h) (hgen := ?i) (hk := ?j)
    (bd := [("a", a), ("x", x), ("lo", .int lo), ("hi", hiD), ("key", kd)]) ?bb (nm := ["a", "x", "lo", "hi", "key"]) (hnm := rfl) (hnames := ?k) (by decide) (hcn := ?l) ?_
  case a => rw [hK]; rfl
  case b => rfl
  case c => rfl
  case d => rfl
  case e => rfl
  case f => rfl
  case gg => rw [hK]; rfl
  case h => rfl
  case i => rfl
  case j => rfl
  case k => rfl
  case l => decide
  case bb => exact hb _ _ (by rw [hK]; rfl) rfl
  intro env own L he ho
  repeat' walk_at "st"
  refine dec_of (fun h => absurd h (by lia)) fun _ => ?_
  refine Ex.nil (next_of ?_)
  refine Ex.seq (fun ρ' μ' => μ' = μ ∧ ρ' "a" = some a ∧ ρ' "x" = some x ∧ ρ' "lo" = some (.int lo) ∧ ρ' "hi" = some (.int hi) ∧ ρ' "key" = some kd) ?_ ?_
  · rcases hhd with rfl | ⟨rfl, rfl⟩
    · repeat' walk_at "st"
      exact ⟨rfl, rfl, by walk_at "rho", by walk_at "rho", by walk_at "rho", by walk_at "rho", by walk_at "rho"⟩
    · repeat' walk_at "st"
      refine len_D hr hl ?_
      repeat' walk_at "st"
      exact ⟨rfl, rfl, by walk_at "rho", by walk_at "rho", by walk_at "rho", by walk_at "rho", by walk_at "rho"⟩
  rintro ρ μ' ⟨rfl, h1, h2, h3, h4, h5⟩
  repeat' walk_at "st"
  refine Act2.isnone hkn ?_
  repeat' walk_at "st"
  refine Ex1.while (I := fun k ρ μ₁ => ∃ lo' hi' : Nat, μ₁ = μ' ∧ hi' ≤ ds.length ∧ bis p lo' hi' = bis p lo hi ∧ k = hi' - lo' ∧ ρ "a" = some a ∧ ρ "x" = some x ∧ ρ "lo" = some (.int lo') ∧ ρ "hi" = some (.int hi') ∧ ρ "key" = some kd) (hi - lo)
    ⟨lo, hi, rfl, hhi, rfl, rfl, h1, h2, h3, h4, h5⟩ ?_
  rintro k ρ μ₁ ⟨lo', hi', rfl, hh, hb, rfl, h1, h2, h3, h4, h5⟩
  repeat' walk_at "st"
  refine dec_of (fun hlt => ?_) fun hge => ?_
  · have hm : ((lo' : Int) + hi').fdiv 2 = (((lo' + hi') / 2 : Nat) : Int) := by rw [Int.fdiv_eq_ediv_of_nonneg _ (by decide)]; lia
    have hlt' : lo' < hi' := by lia
    have hb' := hb
    rw [bis_eq, if_pos hlt'] at hb'
    repeat' walk_at "st"
    have hidx : (lo' + hi') / 2 < ds.length := by lia
    rw [hm]
    refine Act2.item hr (d := ds[(lo' + hi') / 2]) (idx?_nat.trans (List.getElem?_eq_getElem hidx)) hl ?_ (fun _ _ => rfl)
    obtain ⟨e, hke, hle⟩ := hp _ _ (List.getElem?_eq_getElem hidx)
    refine hke _ _ _ ?_
    repeat' walk_at "st"
    refine hle _ _ _ _ ?_
    repeat' walk_at "st"
    cases hpm : p ((lo' + hi') / 2) with
    | true =>
      rw [hpm, if_pos rfl] at hb'
      try refine (show _ from Eq.mp (by rw [Bool.not_true]) ?_)
      repeat' walk_at "st"
      exact ⟨(lo' + hi') / 2 - lo', by lia, lo', (lo' + hi') / 2, rfl, by lia, hb', rfl, by walk_at "rho", by walk_at "rho", by walk_at "rho", by walk_at "rho", by walk_at "rho"⟩
    | false =>
      rw [hpm, if_neg (by decide)] at hb'
      try refine (show _ from Eq.mp (by rw [Bool.not_false]) ?_)
      repeat' walk_at "st"
      exact ⟨hi' - ((lo' + hi') / 2 + 1), by lia, (lo' + hi') / 2 + 1, hi', rfl, by lia, hb', rfl, by walk_at "rho", by walk_at "rho", upd_same.trans (congrArg (fun z => some (D.int z)) (by lia)), by walk_at "rho", by walk_at "rho"⟩
  · repeat' walk_at "st"
    rw [bis_eq, if_neg (by lia)] at hb
    rw [hb]; exact h

end

open PySem PySem.W PySem.Calls PyProof.Rows
set_option maxRecDepth 20000
section
variable {g : G} (hK : g.K = hd.heap_39 g.w.params)
include hK

theorem insR_body {x : D} {ad : Addr} {ds : List D} {lo hi : Nat} {p : Nat → Bool} {n : Nat} {μ : Mu} {Q : D → Mu → Prop} {args kws hiD} (hb : BindsAt g 23 args kws [("a", .val (.ref ad)), ("x", x), ("lo", .int lo), ("hi", hiD), ("key", .none)])
    (hm : (ad, .ml ds) ∈ μ) (hl : ds.length ≤ 10000) (hlh : lo ≤ hi) (hhi : hi ≤ ds.length) (hhd : hiD = .int hi ∨ (hiD = .none ∧ hi = ds.length))
    (hp : ∀ i d, ds[i]? = some d → LtOk x d (p i)) (h : Q .none (setMu ad (.ml (insAt (bis p lo hi) x ds)) μ)) :
    Calls g (n + 3) (.val (.ref 23)) args kws μ Q := by
  refine' Calls.enter (fa := 23) (hK := ?a) (hfo := ?b) (hbody := ?c) (hclo := ?d) (hglob := ?e) (hblt := ?f) (hcode := ?gg) (hco := ?h) (hgen := ?i) (hk := ?j)
    (bd := [("a", .val (.ref ad)), ("x", x), ("lo", .int lo), ("hi", hiD), ("key", .none)]) ?bb (nm := ["a", "x", "lo", "hi", "key"]) (hnm := rfl) (hnames := ?k) (by decide) (hcn := ?l) ?_
  case a => rw [hK]; rfl
  case b => rfl
  case c => rfl
  case d => rfl
  case e => rfl
  case f => rfl
  case gg => rw [hK]; rfl
  case h => rfl
  case i => rfl
  case j => rfl
  case k => rfl
  case l => decide
  case bb => exact hb _ _ (by rw [hK]; rfl) rfl
  intro env own L he ho
  repeat' walk_at "st"
  repeat' walk_at "st"
  refine bisR_body (g := g.push env) hK (p := p) (BB.ok hK (by constructor)) (.mu hm) (by lia) hhi hhd hp ?_
  repeat' walk_at "st"
  refine Ex1.expr (Ev.meth (id := "list.insert") ?_ PySem.F.slot_list_insert PySem.F.type_list_insert)
  repeat' walk_at "st"
  refine ⟨⟨_, .mu hm⟩, ?_⟩
  repeat' walk_at "st"
  refine Calls.insert hm hl (Nat.le_trans (bis_le hlh).2 hhi) ?_
  refine ⟨rfl, ?_⟩
  repeat' walk_at "st"
  exact h

theorem insRk_body {x kd ex : D} {ad : Addr} {ds : List D} {lo hi : Nat} {p : Nat → Bool} {n : Nat} {μ : Mu} {Q : D → Mu → Prop} {args kws hiD} (hb : BindsAt g 23 args kws [("a", .val (.ref ad)), ("x", x), ("lo", .int lo), ("hi", hiD), ("key", kd)])
    (hm : (ad, .ml ds) ∈ μ) (hl : ds.length ≤ 10000) (hlh : lo ≤ hi) (hhi : hi ≤ ds.length) (hhd : hiD = .int hi ∨ (hiD = .none ∧ hi = ds.length))
    (hkn : isNone kd = some false) (hkk : KeepD g kd) (hkx : ∀ m, KeyOk g (m + 1) kd x ex) (hp : ∀ i d, ds[i]? = some d → ∃ e, (∀ m, KeyOk g (m + 1) kd d e) ∧ LtOk ex e (p i)) (h : Q .none (setMu ad (.ml (insAt (bis p lo hi) x ds)) μ)) :
    Calls g (n + 3) (.val (.ref 23)) args kws μ Q := by
  refine' Calls.enter (fa := 23) (hK := ?a) (hfo := ?b) (hbody := ?c) (hclo := ?d) (hglob := ?e) (hblt := ?f) (hcode := ?gg) (hco := ?h) (hgen := ?i) (hk := ?j)
    (bd := [("a", .val (.ref ad)), ("x", x), ("lo", .int lo), ("hi", hiD), ("key", kd)]) ?bb (nm := ["a", "x", "lo", "hi", "key"]) (hnm := rfl) (hnames := ?k) (by decide) (hcn := ?l) ?_
  case a => rw [hK]; rfl
  case b => rfl
  case c => rfl
  case d => rfl
  case e => rfl
  case f => rfl
  case gg => rw [hK]; rfl
  case h => rfl
  case i => rfl
  case j => rfl
  case k => rfl
  case l => decide
  case bb => exact hb _ _ (by rw [hK]; rfl) rfl
  intro env own L he ho
  repeat' walk_at "st"
  refine Act2.isnone hkn ?_
  repeat' walk_at "st"
  refine hkx _ _ _ _ ?_
  repeat' walk_at "st"
  refine bisRk_body (g := g.push env) hK (p := p) (BB.ok hK (by constructor)) (.mu hm) (by lia) hhi hhd hkn hkk (fun i d e => let ⟨y, h1, h2⟩ := hp i d e; ⟨y, h1 _, h2⟩) ?_
  repeat' walk_at "st"
  refine Ex1.expr (Ev.meth (id := "list.insert") ?_ PySem.F.slot_list_insert PySem.F.type_list_insert)
  repeat' walk_at "st"
  refine ⟨⟨_, .mu hm⟩, ?_⟩
  repeat' walk_at "st"
  refine Calls.insert hm hl (Nat.le_trans (bis_le hlh).2 hhi) ?_
  refine ⟨rfl, ?_⟩
  repeat' walk_at "st"
  exact h

theorem insL_body {x : D} {ad : Addr} {ds : List D} {lo hi : Nat} {p : Nat → Bool} {n : Nat} {μ : Mu} {Q : D → Mu → Prop} {args kws hiD} (hb : BindsAt g 41 args kws [("a", .val (.ref ad)), ("x", x), ("lo", .int lo), ("hi", hiD), ("key", .none)])
    (hm : (ad, .ml ds) ∈ μ) (hl : ds.length ≤ 10000) (hlh : lo ≤ hi) (hhi : hi ≤ ds.length) (hhd : hiD = .int hi ∨ (hiD = .none ∧ hi = ds.length))
    (hp : ∀ i d, ds[i]? = some d → LtOk d x (!p i)) (h : Q .none (setMu ad (.ml (insAt (bis p lo hi) x ds)) μ)) :
    Calls g (n + 3) (.val (.ref 41)) args kws μ Q := by
  refine' Calls.enter (fa := 41) (hK := ?a) (hfo := ?b) (hbody := ?c) (hclo := ?d) (hglob := ?e) (hblt := ?f) (hcode := ?gg) (hco := ?h) (hgen := ?i) (hk := ?j)
    (bd := [("a", .val (.ref ad)), ("x", x), ("lo", .int lo), ("hi", hiD), ("key", .none)]) ?bb (nm := ["a", "x", "lo", "hi", "key"]) (hnm := rfl) (hnames := ?k) (by decide) (hcn := ?l) ?_
  case a => rw [hK]; rfl
  case b => rfl
  case c => rfl
  case d => rfl
  case e => rfl
  case f => rfl
  case gg => rw [hK]; rfl
  case h => rfl
  case i => rfl
  case j => rfl
  case k => rfl
  case l => decide
  case bb => exact hb _ _ (by rw [hK]; rfl) rfl
  intro env own L he ho
  repeat' walk_at "st"
  repeat' walk_at "st"
  refine bisL_body (g := g.push env) hK (p := p) (BB.ok hK (by constructor)) (.mu hm) (by lia) hhi hhd hp ?_
  repeat' walk_at "st"
  refine Ex1.expr (Ev.meth (id := "list.insert") ?_ PySem.F.slot_list_insert PySem.F.type_list_insert)
  repeat' walk_at "st"
  refine ⟨⟨_, .mu hm⟩, ?_⟩
  repeat' walk_at "st"
  refine Calls.insert hm hl (Nat.le_trans (bis_le hlh).2 hhi) ?_
  refine ⟨rfl, ?_⟩
  repeat' walk_at "st"
  exact h

theorem insLk_body {x kd ex : D} {ad : Addr} {ds : List D} {lo hi : Nat} {p : Nat → Bool} {n : Nat} {μ : Mu} {Q : D → Mu → Prop} {args kws hiD} (hb : BindsAt g 41 args kws [("a", .val (.ref ad)), ("x", x), ("lo", .int lo), ("hi", hiD), ("key", kd)])
    (hm : (ad, .ml ds) ∈ μ) (hl : ds.length ≤ 10000) (hlh : lo ≤ hi) (hhi : hi ≤ ds.length) (hhd : hiD = .int hi ∨ (hiD = .none ∧ hi = ds.length))
    (hkn : isNone kd = some false) (hkk : KeepD g kd) (hkx : ∀ m, KeyOk g (m + 1) kd x ex) (hp : ∀ i d, ds[i]? = some d → ∃ e, (∀ m, KeyOk g (m + 1) kd d e) ∧ LtOk e ex (!p i)) (h : Q .none (setMu ad (.ml (insAt (bis p lo hi) x ds)) μ)) :
    Calls g (n + 3) (.val (.ref 41)) args kws μ Q := by
  refine' Calls.enter (fa := 41) (hK := ?a) (hfo := ?b) (hbody := ?c) (hclo := ?d) (hglob := ?e) (hblt := ?f) (hcode := ?gg) (hco := ?h) (hgen := ?i) (hk := ?j)
    (bd := [("a", .val (.ref ad)), ("x", x), ("lo", .int lo), ("hi", hiD), ("key", kd)]) ?bb (nm := ["a", "x", "lo", "hi", "key"]) (hnm := rfl) (hnames := ?k) (by decide) (hcn := ?l) ?_
  case a => rw [hK]; rfl
  case b => rfl
  case c => rfl
  case d => rfl
  case e => rfl
  case f => rfl
  case gg => rw [hK]; rfl
  case h => rfl
  case i => rfl
  case j => rfl
  case k => rfl
  case l => decide
  case bb => exact hb _ _ (by rw [hK]; rfl) rfl
  intro env own L he ho
  repeat' walk_at "st"
  refine Act2.isnone hkn ?_
  repeat' walk_at "st"
  refine hkx _ _ _ _ ?_
  repeat' walk_at "st"
  refine bisLk_body (g := g.push env) hK (p := p) (BB.ok hK (by constructor)) (.mu hm) (by lia) hhi hhd hkn hkk (fun i d e => let ⟨y, h1, h2⟩ := hp i d e; ⟨y, h1 _, h2⟩) ?_
  repeat' walk_at "st"
  refine Ex1.expr (Ev.meth (id := "list.insert") ?_ PySem.F.slot_list_insert PySem.F.type_list_insert)
  repeat' walk_at "st"
  refine ⟨⟨_, .mu hm⟩, ?_⟩
  repeat' walk_at "st"
  refine Calls.insert hm hl (Nat.le_trans (bis_le hlh).2 hhi) ?_
  refine ⟨rfl, ?_⟩
  repeat' walk_at "st"
  exact h

end

open PySem PySem.W PySem.Calls PyProof.Rows
set_option maxRecDepth 20000
section
variable {g : G} (hK : g.K = hd.heap_39 g.w.params)

/-- the row's places: x < row[i] ; not row[i] < x -/
def gtAt (row : List Int) (x : Int) (i : Nat) : Bool := decide (x < row.getD i 0)
def geAt (row : List Int) (x : Int) (i : Nat) : Bool := !decide (row.getD i 0 < x)
theorem gtAt_ok {row : List Int} {x : Int} (i : Nat) (d : D) (h : (row.map D.int)[i]? = some d) : LtOk (.int x) d (gtAt row x i) := by
  rw [List.getElem?_map] at h
  cases hi : row[i]? with
  | none => rw [hi] at h; cases h
  | some y => rw [hi] at h; cases h; unfold gtAt; rw [List.getD_eq_getElem?_getD, hi]; exact LtOk.int
theorem geAt_ok {row : List Int} {x : Int} (i : Nat) (d : D) (h : (row.map D.int)[i]? = some d) : LtOk d (.int x) (!geAt row x i) := by
  rw [List.getElem?_map] at h
  cases hi : row[i]? with
  | none => rw [hi] at h; cases h
  | some y => rw [hi] at h; cases h; unfold geAt; rw [Bool.not_not, List.getD_eq_getElem?_getD, hi]; exact LtOk.int

/-- what _law_stays answers -/
def stays (row : List Int) (number : Int) : Nat → Int → Int
  | 0, _ => -1
  | k + 1, place => if number + (bis (gtAt row place) 0 row.length : Nat) = place then place else stays row number k (number + (bis (gtAt row place) 0 row.length : Nat))

theorem stays_succ {row : List Int} {number place : Int} {k : Nat} : stays row number (k + 1) place = if number + (bis (gtAt row place) 0 row.length : Nat) = place then place else stays row number k (number + (bis (gtAt row place) 0 row.length : Nat)) := rfl

include hK
theorem bisR_call2 {a : D} {row : List Int} {x : Int} {n : Nat} {μ : Mu} {Q : D → Mu → Prop} (hr : Rd μ a (row.map .int)) (hl : row.length ≤ 10000) (h : Q (.int (bis (gtAt row x) 0 row.length : Nat)) μ) :
    Calls g (n + 1) (.val (.ref 32)) [a, .int x] [] μ Q := by
  refine bisR_body hK (p := gtAt row x) (lo := 0) (hi := row.length) (hiD := .none) (BB.ok hK (by constructor)) hr (by simp; lia) (by simp) (.inr ⟨rfl, by simp⟩) gtAt_ok h
theorem stays_body {a : D} {row : List Int} {number place : Int} {n : Nat} {μ : Mu} {Q : D → Mu → Prop} (hr : Rd μ a (row.map .int)) (hl : row.length ≤ 10000) (h : Q (.int (stays row number 20 place)) μ) :
    Calls g (n + 6) (.val (.ref 57)) [a, .int number, .int place] [] μ Q := by
  refine' Calls.enter (fa := 57) (hK := ?a) (hfo := ?b) (hbody := ?c) (hclo := ?d) (hglob := ?e) (hblt := ?f) (hcode := ?gg) (hco := ?h) (hgen := ?i) (hk := ?j)
    (bd := [("row", a), ("number", .int number), ("place", .int place)]) ?bb (nm := ["row", "number", "place"]) (hnm := rfl) (hnames := ?k) (by decide) (hcn := ?l) ?_
  case a => rw [hK]; rfl
  case b => rfl
  case c => rfl
  case d => rfl
  case e => rfl
  case f => rfl
  case gg => rw [hK]; rfl
  case h => rfl
  case i => rfl
  case j => rfl
  case k => rfl
  case l => decide
  case bb => exact (BB.ok (fa := 57) hK (by constructor)) _ _ (by rw [hK]; rfl) rfl
  intro env own L he ho
  repeat' walk_at "st"
  refine Ex1.for (by lia) (EvI.range ?_)
  repeat' walk_at "st"
  refine Calls.range1 ?_
  refine ⟨0, 20, 1, 20, rfl, by decide, by decide, ?_⟩
  refine ForL.run (I := fun ds ρ μ' => μ' = μ ∧ ρ "row" = some a ∧ ρ "number" = some (.int number) ∧ ∃ pl, ρ "place" = some (.int pl) ∧ stays row number ds.length pl = stays row number 20 place)
    ?_ ?_ _ ⟨rfl, by walk_at "rho", by walk_at "rho", place, by walk_at "rho", by rw [rangeD_len]⟩
  · rintro d ds ρ μ' ⟨rfl, h1, h2, pl, h3, hs⟩
    refine .name (bindable_local (by walk_at "kind")) ?_
    repeat' walk_at "st"
    refine bisR_call2 (g := g.push env) hK hr hl ?_
    repeat' walk_at "st"
    rw [List.length_cons, stays_succ] at hs
    refine dec_of (fun he => ?_) fun hne => ?_
    · have he : number + (bis (gtAt row pl) 0 row.length : Nat) = pl := by simpa using he
      rw [if_pos he] at hs
      repeat' walk_at "st"
      rw [hs]; exact h
    · have hne : ¬ number + (bis (gtAt row pl) 0 row.length : Nat) = pl := by simpa using hne
      rw [if_neg hne] at hs
      repeat' walk_at "st"
      exact ⟨rfl, by walk_at "rho", by walk_at "rho", _, by walk_at "rho", hs⟩
  · rintro ρ μ' ⟨rfl, h1, h2, pl, h3, hs⟩
    repeat' walk_at "st"
    rw [← hs] at h; exact h
end

open PySem PySem.W PySem.Calls PyProof.Rows
set_option maxRecDepth 20000
section
variable {g : G} (hK : g.K = hd.heap_39 g.w.params)

/-- lambda one: -one -/
theorem keyNeg {q : Str} {pa : Arguments} {body : Expr} {sc : Scope} {cd : Value} {x : Int} (hb : ∀ name cl pm ct (vs : List Value), vs.length = 1 → bindArgs (kla_fn name q pa body sc cl pm cd ct) ⟨vs, []⟩ = pure ((["one"] : List Str).zip vs))
    (hs : sc = { kind := .function, names := [("one", .local)], isGenerator := false, isCoroutine := false, more := [] }) (p1 p2 : Pos) (hbody : body = .UnaryOp .USub (.Name "one" p1) p2) (m : Nat) : KeyOk g (m + 1) (.clo q pa body sc cd []) (.int x) (.int (-x)) := by
  subst hs hbody
  intro l μ Q h
  refine Calls.clo (nm := ["one"]) hb (by decide) (by decide) (by simp) rfl rfl rfl (by decide) ?_
  intro env L f cl he
  show Ev (G.push { g with stk := l } env) env [L] m (rho [("one", .int x)]) μ _ Q
  repeat' walk_at "st"
  exact h
def negs (row : List Int) : List Int := row.reverse.map (- ·)
theorem neg_at {row : List Int} {i : Nat} {d : D} (h : (row.reverse.map D.int)[i]? = some d) : ∃ y, d = .int y ∧ (negs row).getD i 0 = -y := by
  rw [List.getElem?_map] at h
  cases hi : row.reverse[i]? with
  | none => rw [hi] at h; cases h
  | some y => rw [hi] at h; cases h; exact ⟨y, rfl, by unfold negs; rw [List.getD_eq_getElem?_getD, List.getElem?_map, hi]; rfl⟩
/-- the four lists of _law_laid -/
def laids (row : List Int) (number : Int) (low high : Nat) : D :=
  .lst [.lst [.none, .none, .none, .none],
    .lst [.lst (insAt (bis (gtAt row (number - 1)) low high) (.int (number - 1)) (row.map .int)), .lst (insAt (bis (geAt row number) low high) (.int number) (row.map .int))],
    .lst [.lst (insAt (bis (geAt (negs row) (-(number - 1))) (7 - high) (7 - low)) (.int (number - 1)) (row.reverse.map .int)), .lst (insAt (bis (gtAt (negs row) (-number)) (7 - high) (7 - low)) (.int number) (row.reverse.map .int))]]
def tabs1 : List (Addr × Addr × Str) := [(63, 59, (("_law_laid" : Str) ++ (".<locals>." : Str)) ++ ("<lambda>" : Str)), (75, 73, (("law" : Str) ++ (".<locals>." : Str)) ++ ("<lambda>" : Str))]
variable (hT : g.tabs = tabs1)
include hK hT
theorem laid_body {a : D} {row : List Int} {number : Int} {low high : Nat} {n : Nat} {μ : Mu} {Q : D → Mu → Prop} (hr : Rd μ a (row.map .int)) (hl : row.length = 7) (hlh : low ≤ high) (hh : high ≤ 7)
    (h : Q (laids row number low high) μ) :
    Calls g (n + 12) (.val (.ref 64)) [a, .int number, .int low, .int high] [] μ Q := by
  refine' Calls.enter (fa := 64) (hK := ?a) (hfo := ?b) (hbody := ?c) (hclo := ?d) (hglob := ?e) (hblt := ?f) (hcode := ?gg) (hco := ?h) (hgen := ?i) (hk := ?j)
    (bd := [("row", a), ("number", .int number), ("low", .int low), ("high", .int high)]) ?bb (nm := ["row", "number", "low", "high"]) (hnm := rfl) (hnames := ?k) (by decide) (hcn := ?l) ?_
  case a => rw [hK]; rfl
  case b => rfl
  case c => rfl
  case d => rfl
  case e => rfl
  case f => rfl
  case gg => rw [hK]; rfl
  case h => rfl
  case i => rfl
  case j => rfl
  case k => rfl
  case l => decide
  case bb => exact (BB.ok (fa := 64) hK (by constructor)) _ _ (by rw [hK]; rfl) rfl
  intro env own L he ho
  repeat' walk_at "st"
  refine Ex1.assignS (names := ["laid", "backward"]) ?_ ?hb ?hw
  case hw => subst he; exact rfl
  case hb => intro x hx; simp only [List.mem_cons, List.not_mem_nil, or_false] at hx; rcases hx with rfl | rfl <;> exact bindable_local (by walk_at "kind")
  repeat' walk_at "st"
  refine Ev.list ?_
  repeat' walk_at "st"
  refine Calls.listMut hr (by simp; lia) fun a1 h1 => ?_
  repeat' walk_at "st"
  refine Calls.listMut (hr.weak ) (by simp; lia) fun a2 h2 => ?_
  repeat' walk_at "st"
  refine Ev.list ?_
  repeat' walk_at "st"
  refine ⟨_, rfl, ?_⟩
  refine Act2.sliceM hr.weak.weak (by decide) (by simp; lia) (fun b1 h3 => ?_) ops_step
  repeat' walk_at "st"
  refine ⟨_, rfl, ?_⟩
  refine Act2.sliceM hr.weak.weak.weak (by decide) (by simp; lia) (fun b2 h4 => ?_) ops_step
  rw [dpick_rev, ← List.map_reverse]
  repeat' walk_at "st"
  refine ⟨_, rfl, rfl, ?_⟩
  show (_ = _ → Ex _ _ _ _ (upd (upd _ "backward" _) "laid" _) _ _ _) ∧ _
  repeat' walk_at "st"
  refine Ev.listM ?_
  repeat' walk_at "st"
  refine Act2.item .lst (idx?_nat (k := 0)) (by simp) ?_ (fun _ _ => rfl)
  repeat' walk_at "st"
  simp only [Mu.dom, List.map_cons, List.mem_cons, not_or] at h2 h3 h4
  have hz : ∀ l : List Int, l.length = 7 → (l.map D.int).length ≤ 10000 := fun l h => by simp; lia
  have hrl : row.reverse.length = 7 := by simp [hl]
  refine insR_body (g := g.push env) hK (p := gtAt row (number - 1)) (lo := low) (hi := high) (BB.ok hK (by constructor)) (by walk_at "mem") (hz _ hl) hlh (by simp; lia) (.inl rfl) gtAt_ok ?_
  rw [setMu_miss h4.2.2.1, setMu_miss h3.2.1, setMu_miss h2.1, setMu_hit]
  repeat' walk_at "st"
  refine Act2.item .lst (idx?_nat (k := 1)) (by simp) ?_ (fun _ _ => rfl)
  repeat' walk_at "st"
  refine insL_body (g := g.push env) hK (p := geAt row number) (lo := low) (hi := high) (BB.ok hK (by constructor)) (by walk_at "mem") (hz _ hl) hlh (by simp; lia) (.inl rfl) geAt_ok ?_
  rw [setMu_miss h4.2.1, setMu_miss h3.1, setMu_hit]
  repeat' walk_at "st"
  intro t ht
  simp only [Mu.dom, List.map_cons, List.mem_cons, not_or] at ht
  repeat' walk_at "st"
  refine Ex1.expr (Ev.meth (id := "list.append") ?_ PySem.F.slot_list_append PySem.F.type_list_append)
  repeat' walk_at "st"
  refine ⟨⟨_, .mu (by walk_at "mem")⟩, ?_⟩
  repeat' walk_at "st"
  refine Act2.item .lst (idx?_nat (k := 0)) (by simp) ?_ (fun _ _ => rfl)
  repeat' walk_at "st"
  have hcode : env.code = .ref 63 := by subst he; rfl
  have htab : (63, 59, env.qual ++ ("<lambda>" : Str)) ∈ g.tabs := by subst he; rw [hT]; exact .head _
  have hq : ∀ q ∈ g.tabs, q.2.1 = 59 → q.2.2 = env.qual ++ ("<lambda>" : Str) := by
    rw [hT]; subst he
    intro q hq h
    simp only [tabs1, List.mem_cons, List.not_mem_nil, or_false] at hq
    rcases hq with rfl | rfl
    · rfl
    · exact absurd h (by decide)
  refine Ev.lambda hcode htab hq (caps := []) (by rfl) (by decide) .nil (fun cdv => ?_)
  have i1 : (7 : Int) - (high : Int) = ((7 - high : Nat) : Int) := by lia
  have i2 : (7 : Int) - (low : Int) = ((7 - low : Nat) : Int) := by lia
  repeat' walk_at "st"
  rw [i1, i2]
  refine insLk_body (g := g.push env) hK (p := geAt (negs row) (-(number - 1))) (lo := 7 - high) (hi := 7 - low) (ex := .int (-(number - 1))) (BB.ok hK (by constructor)) (by walk_at "mem") (hz _ hrl) (by lia) (by simp; lia) (.inl rfl)
    rfl KeepD.clo (fun m => keyNeg (by rintro _ _ _ _ (_ | ⟨v, _ | _⟩) hv <;> first | rfl | cases hv) rfl _ _ rfl m) (fun i d hd => ?_) ?_
  · obtain ⟨y, rfl, hy⟩ := neg_at hd
    exact ⟨.int (-y), fun m => keyNeg (by rintro _ _ _ _ (_ | ⟨v, _ | _⟩) hv <;> first | rfl | cases hv) rfl _ _ rfl m, by unfold geAt; rw [hy, Bool.not_not]; exact LtOk.int⟩
  rw [setMu_miss ht.2.1, setMu_miss h4.1, setMu_hit]
  repeat' walk_at "st"
  refine Calls.append (by walk_at "mem") (by simp) ?_
  rw [setMu_hit]
  refine ⟨rfl, next_of ?_⟩
  refine Ex.cons ?_
  refine Ex1.expr (Ev.meth (id := "list.append") ?_ PySem.F.slot_list_append PySem.F.type_list_append)
  repeat' walk_at "st"
  refine ⟨⟨_, .mu (by walk_at "mem")⟩, ?_⟩
  repeat' walk_at "st"
  refine Act2.item .lst (idx?_nat (k := 1)) (by simp) ?_ (fun _ _ => rfl)
  repeat' walk_at "st"
  refine Ev.lambda hcode htab hq (caps := []) (by rfl) (by decide) .nil (fun cdv => ?_)
  repeat' walk_at "st"
  rw [i1, i2]
  refine insRk_body (g := g.push env) hK (p := gtAt (negs row) (-number)) (lo := 7 - high) (hi := 7 - low) (ex := .int (-number)) (BB.ok hK (by constructor)) (by walk_at "mem") (hz _ hrl) (by lia) (by simp; lia) (.inl rfl)
    rfl KeepD.clo (fun m => keyNeg (by rintro _ _ _ _ (_ | ⟨v, _ | _⟩) hv <;> first | rfl | cases hv) rfl _ _ rfl m) (fun i d hd => ?_) ?_
  · obtain ⟨y, rfl, hy⟩ := neg_at hd
    exact ⟨.int (-y), fun m => keyNeg (by rintro _ _ _ _ (_ | ⟨v, _ | _⟩) hv <;> first | rfl | cases hv) rfl _ _ rfl m, by unfold gtAt; rw [hy]; exact LtOk.int⟩
  rw [setMu_miss ht.1, setMu_hit]
  repeat' walk_at "st"
  refine Calls.append (by walk_at "mem") (by simp) ?_
  rw [setMu_hit]
  refine ⟨rfl, next_of ?_⟩
  refine Ex.freeze (reUpd (x := "told") (by walk_at "rho") .hit) ?_
  refine Ex.freeze (reUpd (x := "backward") (by walk_at "rho") (.lst (.cons .same (.cons .hit .nil)))) ?_
  refine Ex.freeze (reUpd (x := "backward") (by walk_at "rho") (.lst (.cons .hit (.cons .same .nil)))) ?_
  refine Ex.freeze (reUpd (x := "laid") (by walk_at "rho") (.lst (.cons .same (.cons .hit .nil)))) ?_
  refine Ex.freeze (reUpd (x := "laid") (by walk_at "rho") (.lst (.cons .hit (.cons .same .nil)))) ?_
  repeat' walk_at "st"
  refine Ev.list ?_
  repeat' walk_at "st"
  exact h
end

open PySem PySem.W PySem.Calls PyProof.Rows
set_option maxRecDepth 20000
section
variable {g : G} (hK : g.K = hd.heap_39 g.w.params)
include hK

theorem bisR_neg {a x hiD kd : D} {lo : Int} {n : Nat} {μ : Mu} {P : Mu → Prop} {args kws} (hb : BindsAt g 32 args kws [("a", a), ("x", x), ("lo", .int lo), ("hi", hiD), ("key", kd)]) (hlo : lo < 0) (h : P μ) :
    CallsR g (n + 1) μ (.val (.ref 32)) args kws "lo must be non-negative" P := by
  refine' CallsR.enter (fa := 32) (hK := ?a) (hfo := ?b) (hbody := ?c) (hclo := ?d) (hglob := ?e) (hblt := ?f) (hcode := ?gg) (hco := ?h) (hgen := ?i) (hk := ?j)
    (bd := [("a", a), ("x", x), ("lo", .int lo), ("hi", hiD), ("key", kd)]) ?bb (nm := ["a", "x", "lo", "hi", "key"]) (hnm := rfl) (hnames := ?k) (by decide) (hcn := ?l) ?_
  case a => rw [hK]; rfl
  case b => rfl
  case c => rfl
  case d => rfl
  case e => rfl
  case f => rfl
  case gg => rw [hK]; rfl
  case h => rfl
  case i => rfl
  case j => rfl
  case k => rfl
  case l => decide
  case bb => exact hb _ _ (by rw [hK]; rfl) rfl
  intro env own L he ho
  refine Raises.here (Raises1.ite ?_)
  repeat' walk_at "st"
  refine dec_of (fun _ => ?_) fun q => absurd hlo q
  refine Raises.here (Raises1.raise (by walk_at "kind") (by walk_at "isk") h)

theorem bisL_neg {a x hiD kd : D} {lo : Int} {n : Nat} {μ : Mu} {P : Mu → Prop} {args kws} (hb : BindsAt g 50 args kws [("a", a), ("x", x), ("lo", .int lo), ("hi", hiD), ("key", kd)]) (hlo : lo < 0) (h : P μ) :
    CallsR g (n + 1) μ (.val (.ref 50)) args kws "lo must be non-negative" P := by
  refine' CallsR.enter (fa := 50) (hK := ?a) (hfo := ?b) (hbody := ?c) (hclo := ?d) (hglob := ?e) (hblt := ?f) (hcode := ?gg) (hco := ?h) (hgen := ?i) (hk := ?j)
    (bd := [("a", a), ("x", x), ("lo", .int lo), ("hi", hiD), ("key", kd)]) ?bb (nm := ["a", "x", "lo", "hi", "key"]) (hnm := rfl) (hnames := ?k) (by decide) (hcn := ?l) ?_
  case a => rw [hK]; rfl
  case b => rfl
  case c => rfl
  case d => rfl
  case e => rfl
  case f => rfl
  case gg => rw [hK]; rfl
  case h => rfl
  case i => rfl
  case j => rfl
  case k => rfl
  case l => decide
  case bb => exact hb _ _ (by rw [hK]; rfl) rfl
  intro env own L he ho
  refine Raises.here (Raises1.ite ?_)
  repeat' walk_at "st"
  refine dec_of (fun _ => ?_) fun q => absurd hlo q
  refine Raises.here (Raises1.raise (by walk_at "kind") (by walk_at "isk") h)

theorem insRk_neg {a x hiD kd ex : D} {lo : Int} {n : Nat} {μ : Mu} {P : Mu → Prop} {args kws} (hb : BindsAt g 23 args kws [("a", a), ("x", x), ("lo", .int lo), ("hi", hiD), ("key", kd)]) (hlo : lo < 0) (hkn : isNone kd = some false) (hkk : KeepD g kd) (hkx : ∀ m, KeyOk g (m + 1) kd x ex) (h : P μ) :
    CallsR g (n + 3) μ (.val (.ref 23)) args kws "lo must be non-negative" P := by
  refine' CallsR.enter (fa := 23) (hK := ?a) (hfo := ?b) (hbody := ?c) (hclo := ?d) (hglob := ?e) (hblt := ?f) (hcode := ?gg) (hco := ?h) (hgen := ?i) (hk := ?j)
    (bd := [("a", a), ("x", x), ("lo", .int lo), ("hi", hiD), ("key", kd)]) ?bb (nm := ["a", "x", "lo", "hi", "key"]) (hnm := rfl) (hnames := ?k) (by decide) (hcn := ?l) ?_
  case a => rw [hK]; rfl
  case b => rfl
  case c => rfl
  case d => rfl
  case e => rfl
  case f => rfl
  case gg => rw [hK]; rfl
  case h => rfl
  case i => rfl
  case j => rfl
  case k => rfl
  case l => decide
  case bb => exact hb _ _ (by rw [hK]; rfl) rfl
  intro env own L he ho
  refine Raises.here (Raises1.ite ?_)
  repeat' walk_at "st"
  refine Act2.isnone hkn ?_
  repeat' walk_at "st"
  refine Raises.here (Raises1.assign (RaisesE.call ?_))
  repeat' walk_at "st"
  refine hkx _ _ _ _ ?_
  repeat' walk_at "st"
  exact bisR_neg (g := g.push env) hK (BB.ok hK (by constructor)) hlo h

theorem insL_neg {a x hiD : D} {lo : Int} {n : Nat} {μ : Mu} {P : Mu → Prop} {args kws} (hb : BindsAt g 41 args kws [("a", a), ("x", x), ("lo", .int lo), ("hi", hiD), ("key", .none)]) (hlo : lo < 0) (h : P μ) :
    CallsR g (n + 3) μ (.val (.ref 41)) args kws "lo must be non-negative" P := by
  refine' CallsR.enter (fa := 41) (hK := ?a) (hfo := ?b) (hbody := ?c) (hclo := ?d) (hglob := ?e) (hblt := ?f) (hcode := ?gg) (hco := ?h) (hgen := ?i) (hk := ?j)
    (bd := [("a", a), ("x", x), ("lo", .int lo), ("hi", hiD), ("key", .none)]) ?bb (nm := ["a", "x", "lo", "hi", "key"]) (hnm := rfl) (hnames := ?k) (by decide) (hcn := ?l) ?_
  case a => rw [hK]; rfl
  case b => rfl
  case c => rfl
  case d => rfl
  case e => rfl
  case f => rfl
  case gg => rw [hK]; rfl
  case h => rfl
  case i => rfl
  case j => rfl
  case k => rfl
  case l => decide
  case bb => exact hb _ _ (by rw [hK]; rfl) rfl
  intro env own L he ho
  refine Raises.here (Raises1.ite ?_)
  repeat' walk_at "st"
  refine Raises.here (Raises1.assign (RaisesE.call ?_))
  repeat' walk_at "st"
  exact bisL_neg (g := g.push env) hK (BB.ok hK (by constructor)) hlo h

end

open PySem PySem.W PySem.Calls PyProof.Rows
set_option maxRecDepth 20000
section
variable {g : G} (hK : g.K = hd.heap_39 g.w.params)
include hK
theorem refused_body {a : D} {row : List Int} {n : Nat} {μ : Mu} {Q : D → Mu → Prop} (hr : Rd μ a (row.map .int)) (htb : (66, .tb 70 []) ∈ μ)
    (h : ∀ μ', (∀ p ∈ μ, p.1 ≠ 66 → p ∈ μ') → (∃ ps, (66, MO.tb 70 ps) ∈ μ') → Q (.lst [.str "lo must be non-negative", .str "lo must be non-negative", .str "lo must be non-negative", .str "lo must be non-negative"]) μ') :
    Calls g (n + 12) (.val (.ref 71)) [a] [] μ Q := by
  refine' Calls.enterB (fa := 71) (hK := ?a) (hfo := ?b) (hbody := ?c) (hclo := ?d) (hglob := ?e) (hblt := ?f) (hcode := ?gg) (hco := ?h) (hgen := ?i) (hk := ?j)
    (bd := [("row", a)]) ?bb (nm := ["row"]) (hnm := rfl) (hnames := ?k) (by decide) (hcn := ?l) ?_
  case a => rw [hK]; rfl
  case b => rfl
  case c => rfl
  case d => rfl
  case e => rfl
  case f => rfl
  case gg => rw [hK]; rfl
  case h => rfl
  case i => rfl
  case j => rfl
  case k => rfl
  case l => decide
  case bb => exact (BB.ok (fa := 71) hK (by constructor)) _ _ (by rw [hK]; rfl) rfl
  intro env own L he ho
  have hcl : env.cells.lookup ("row" : Str) = some (L + 1) := by subst he; rfl
  refine ExB.freezeCell (x := "row") (d := a) (by walk_at "rho") (by walk_at "kind") (fun c hl hc => ?_) (fun c hl => by rw [hcl] at hl; cases hl; subst ho; exact .tail _ (.head _))
  rw [hcl] at hl; cases hl
  refine ExB.of ?_
  repeat' walk_at "st"
  refine Ev.listM ?_
  repeat' walk_at "st"
  intro t ht
  have htn : ∀ p ∈ μ, p.1 ≠ t := fun p hp z => ht (z ▸ List.mem_map_of_mem (f := (·.1)) hp)
  have hcode : env.code = .ref 70 := by subst he; rfl
  have hk2 : env.kindOf ("row" : Str) = some .cell := by walk_at "kind"
  have hk : env.kindOf ("row" : Str) ≠ some .local := fun z => by rw [hk2] at z; cases z
  repeat' walk_at "st"
  refine Ex1.for (by lia) (EvI.list (Ev.list ?_))
  repeat' walk_at "st"
  refine Ev.lambdaX (P := 66) (c := 70) hcode (by walk_at "mem") (by first | rfl | decide) (by subst he; rfl) (by decide) (caps := [("row", a)]) (by
    show Caps _ env _ (closGo env.cells [(("row" : Str), NameKind.free), _] []) _
    subst he; exact .cons (by walk_at "rho") (.head _) rfl hk .nil) fun c1 P1 hP1 => ?_
  repeat' walk_at "st"
  refine Ev.lambdaX (P := 66) (c := 70) hcode (by walk_at "mem") (by first | rfl | decide) (by subst he; rfl) (by decide) (caps := [("row", a)]) (by
    show Caps _ env _ (closGo env.cells [(("row" : Str), NameKind.free), _] []) _
    subst he; exact .cons (by walk_at "rho") (.head _) rfl hk .nil) fun c2 P2 hP2 => ?_
  repeat' walk_at "st"
  refine Ev.lambdaX (P := 66) (c := 70) hcode (by walk_at "mem") (by first | rfl | decide) (by subst he; rfl) (by decide) (caps := [("row", a)]) (by
    show Caps _ env _ (closGo env.cells [(("row" : Str), NameKind.free), _] []) _
    subst he; exact .cons (by walk_at "rho") (.head _) rfl hk .nil) fun c3 P3 hP3 => ?_
  repeat' walk_at "st"
  refine Ev.lambdaX (P := 66) (c := 70) hcode (by walk_at "mem") (by first | rfl | decide) (by subst he; rfl) (by decide) (caps := [("row", a)]) (by
    show Caps _ env _ (closGo env.cells [(("row" : Str), NameKind.free), _] []) _
    subst he; exact .cons (by walk_at "rho") (.head _) rfl hk .nil) fun c4 P4 hP4 => ?_
  repeat' walk_at "st"
  refine ⟨_, rfl, ?_⟩
  have n66 : (66 : Addr) ≠ t := htn _ htb
  have hP2t := ne_fresh hP2 (p := (t, .ml [])) (.tail _ (setMu_keep (.head _) n66.symm))
  have hP4t := ne_fresh hP4 (p := (t, .ml [])) (.tail _ (setMu_keep (.tail _ (setMu_keep (.tail _ (setMu_keep (.head _) n66.symm)) n66.symm)) n66.symm))
  have hP266 : 66 ≠ P2 := fun z => hP2 (z ▸ mem_dom (p := (66, .tb 70 _)) (by walk_at "mem"))
  have hP466 : 66 ≠ P4 := fun z => hP4 (z ▸ mem_dom (p := (66, .tb 70 _)) (by walk_at "mem"))
  have hP42 := ne_fresh hP4 (p := (P2, .tb c2 [])) (.tail _ (setMu_keep (.head _) hP266.symm))
  have kp2 : ∀ p ∈ μ, p.1 ≠ 66 → p.1 ≠ P2 := fun p hp hn => ne_fresh hP2 (.tail _ (setMu_keep (.tail _ hp) hn))
  have kp4 : ∀ p ∈ μ, p.1 ≠ 66 → p.1 ≠ P4 := fun p hp hn => ne_fresh hP4 (.tail _ (setMu_keep (.tail _ (setMu_keep (.tail _ (setMu_keep (.tail _ hp) hn)) hn)) hn))
  refine ForL.gen (fun M => (t, .ml []) ∈ M ∧ (P2, .tb c2 []) ∈ M ∧ (P4, .tb c4 []) ∈ M ∧ (∀ p ∈ μ, p.1 ≠ 66 → p ∈ M) ∧ ∃ ps, (66, MO.tb 70 ps) ∈ M)
    ⟨.tail _ (setMu_keep (.tail _ (setMu_keep (.tail _ (setMu_keep (.tail _ (setMu_keep (.head _) n66.symm)) n66.symm)) n66.symm)) n66.symm),
     .tail _ (setMu_keep (.tail _ (setMu_keep (.head _) hP266.symm)) hP266.symm), .head _,
     fun p hp hn => .tail _ (setMu_keep (.tail _ (setMu_keep (.tail _ (setMu_keep (.tail _ (setMu_keep (.tail _ hp) hn)) hn)) hn)) hn),
     _, .tail _ (setMu_has (.tail _ (setMu_has (.tail _ (setMu_has (.tail _ (setMu_has (.tail _ htb)))))))) ⟩ ?_
  rintro M ⟨f1, f2, f4, kp, ps6, f6⟩
  refine ForL.cons (.name (bindable_local (by walk_at "kind")) ?_)
  refine Ex.cons (Ex1.tryE (g := g.cellF (L + 1)) (msg := "lo must be non-negative") (P := fun M => (t, .ml []) ∈ M ∧ (P2, .tb c2 []) ∈ M ∧ (P4, .tb c4 []) ∈ M ∧ (∀ p ∈ μ, p.1 ≠ 66 → p ∈ M) ∧ ∃ ps, (66, MO.tb 70 ps) ∈ M) (RaisesE.call ?_) (by walk_at "kind") (by walk_at "kind") (by walk_at "isk") ?_)
  · repeat' walk_at "st"
    refine CallsR.clo (nm := []) (by rintro _ _ _ _ (_ | _) hv <;> first | rfl | cases hv) (by simp) (by simp) (by rintro p hp; cases hp with | head => rfl | tail _ h => cases h) rfl rfl rfl (by decide) ?_
    intro env1 L1 fx1 cl1 he1
    show RaisesE _ env1 [L1] _ (rho [("row", a)]) _ _ _ _
    refine RaisesE.call ?_
    repeat' walk_at "st"
    exact insL_neg (g := ((g.cellF (L + 1)).push env).push env1) hK (BB.ok hK (by constructor)) (by decide) ⟨f1, f2, f4, kp, ps6, f6⟩
  rintro M ⟨f1, f2, f4, kp, ps6, f6⟩
  refine SuiteOk.append (a := t) (ds := []) (by lia) (by walk_at "kind") (by walk_at "kind") (by walk_at "kind") (by walk_at "isk") (by decide) (by walk_at "rho") f1 (by simp) fun ρ1 hρ1 => ?_
  refine next_of (Ex.nil ?_)
  have ht1 : ρ1 "told" = some (.val (.ref t)) := (hρ1 _ (by decide)).trans (by walk_at "rho")
  have hr1 : ρ1 "row" = some a := (hρ1 _ (by decide)).trans (by walk_at "rho")
  refine ForL.gen (fun M => (t, .ml [.str "lo must be non-negative"]) ∈ M ∧ (P2, .tb c2 []) ∈ M ∧ (P4, .tb c4 []) ∈ M ∧ (∀ p ∈ μ, p.1 ≠ 66 → p ∈ M) ∧ ∃ ps, (66, MO.tb 70 ps) ∈ M) ⟨setMu_has f1, setMu_keep f2 hP2t.symm, setMu_keep f4 hP4t.symm, fun p hp hn => setMu_keep (kp p hp hn) (htn p hp), ps6, setMu_keep f6 n66⟩ ?_
  rintro M ⟨f1, f2, f4, kp, ps6, f6⟩
  refine ForL.cons (.name (bindable_local (by walk_at "kind")) ?_)
  refine Ex.cons (Ex1.tryE (g := g.cellF (L + 1)) (msg := "lo must be non-negative") (P := fun M => (t, .ml [.str "lo must be non-negative"]) ∈ M ∧ (P4, .tb c4 []) ∈ M ∧ (∀ p ∈ μ, p.1 ≠ 66 → p ∈ M) ∧ ∃ ps, (66, MO.tb 70 ps) ∈ M) (RaisesE.call ?_) (by walk_at "kind") (by walk_at "kind") (by walk_at "isk") ?_)
  · repeat' walk_at "st"
    refine CallsR.clo (nm := []) (by rintro _ _ _ _ (_ | _) hv <;> first | rfl | cases hv) (by simp) (by simp) (by rintro p hp; cases hp with | head => rfl | tail _ h => cases h) rfl rfl rfl (by decide) ?_
    intro env2 L2 fx2 cl2 he2
    show RaisesE _ env2 [L2] _ (rho [("row", a)]) _ _ _ _
    refine RaisesE.call ?_
    repeat' walk_at "st"
    have hcode2 : env2.code = .ref c2 := by subst he2; rfl
    refine Ev.lambdaX (P := P2) (c := c2) hcode2 (by walk_at "mem") (by rfl) (by subst he2; rfl) (by decide) (caps := []) (by subst he2; exact .nil) fun ci2 Pi2 hPi2 => ?_
    repeat' walk_at "st"
    exact insRk_neg (g := ((g.cellF (L + 1)).push env).push env2) hK (ex := .int (-5)) (BB.ok hK (by constructor)) (by decide) rfl KeepD.clo (fun m => keyNeg (by rintro _ _ _ _ (_ | ⟨v, _ | _⟩) hv <;> first | rfl | cases hv) rfl _ _ rfl m)
      ⟨.tail _ (setMu_keep f1 hP2t), .tail _ (setMu_keep f4 hP42.symm), fun p hp hn => .tail _ (setMu_keep (kp p hp hn) (kp2 p hp hn)), ps6, .tail _ (setMu_keep f6 hP266)⟩
  rintro M ⟨f1, f4, kp, ps6, f6⟩
  refine SuiteOk.append (a := t) (ds := [.str "lo must be non-negative"]) (by lia) (by walk_at "kind") (by walk_at "kind") (by walk_at "kind") (by walk_at "isk") (by decide) (by walk_at "rho") f1 (by simp) fun ρ2 hρ2 => ?_
  refine next_of (Ex.nil ?_)
  have ht2 : ρ2 "told" = some (.val (.ref t)) := (hρ2 _ (by decide)).trans (by walk_at "rho")
  have hr2 : ρ2 "row" = some a := (hρ2 _ (by decide)).trans (by walk_at "rho")
  refine ForL.gen (fun M => (t, .ml [.str "lo must be non-negative", .str "lo must be non-negative"]) ∈ M ∧ (P4, .tb c4 []) ∈ M ∧ (∀ p ∈ μ, p.1 ≠ 66 → p ∈ M) ∧ ∃ ps, (66, MO.tb 70 ps) ∈ M) ⟨setMu_has f1, setMu_keep f4 hP4t.symm, fun p hp hn => setMu_keep (kp p hp hn) (htn p hp), ps6, setMu_keep f6 n66⟩ ?_
  rintro M ⟨f1, f4, kp, ps6, f6⟩
  refine ForL.cons (.name (bindable_local (by walk_at "kind")) ?_)
  refine Ex.cons (Ex1.tryE (g := g.cellF (L + 1)) (msg := "lo must be non-negative") (P := fun M => (t, .ml [.str "lo must be non-negative", .str "lo must be non-negative"]) ∈ M ∧ (P4, .tb c4 []) ∈ M ∧ (∀ p ∈ μ, p.1 ≠ 66 → p ∈ M) ∧ ∃ ps, (66, MO.tb 70 ps) ∈ M) (RaisesE.call ?_) (by walk_at "kind") (by walk_at "kind") (by walk_at "isk") ?_)
  · repeat' walk_at "st"
    refine CallsR.clo (nm := []) (by rintro _ _ _ _ (_ | _) hv <;> first | rfl | cases hv) (by simp) (by simp) (by rintro p hp; cases hp with | head => rfl | tail _ h => cases h) rfl rfl rfl (by decide) ?_
    intro env3 L3 fx3 cl3 he3
    show RaisesE _ env3 [L3] _ (rho [("row", a)]) _ _ _ _
    refine RaisesE.call ?_
    repeat' walk_at "st"
    exact bisL_neg (g := ((g.cellF (L + 1)).push env).push env3) hK (BB.ok hK (by constructor)) (by decide) ⟨f1, f4, kp, ps6, f6⟩
  rintro M ⟨f1, f4, kp, ps6, f6⟩
  refine SuiteOk.append (a := t) (ds := [.str "lo must be non-negative", .str "lo must be non-negative"]) (by lia) (by walk_at "kind") (by walk_at "kind") (by walk_at "kind") (by walk_at "isk") (by decide) (by walk_at "rho") f1 (by simp) fun ρ3 hρ3 => ?_
  refine next_of (Ex.nil ?_)
  have ht3 : ρ3 "told" = some (.val (.ref t)) := (hρ3 _ (by decide)).trans (by walk_at "rho")
  have hr3 : ρ3 "row" = some a := (hρ3 _ (by decide)).trans (by walk_at "rho")
  refine ForL.gen (fun M => (t, .ml [.str "lo must be non-negative", .str "lo must be non-negative", .str "lo must be non-negative"]) ∈ M ∧ (P4, .tb c4 []) ∈ M ∧ (∀ p ∈ μ, p.1 ≠ 66 → p ∈ M) ∧ ∃ ps, (66, MO.tb 70 ps) ∈ M) ⟨setMu_has f1, setMu_keep f4 hP4t.symm, fun p hp hn => setMu_keep (kp p hp hn) (htn p hp), ps6, setMu_keep f6 n66⟩ ?_
  rintro M ⟨f1, f4, kp, ps6, f6⟩
  refine ForL.cons (.name (bindable_local (by walk_at "kind")) ?_)
  refine Ex.cons (Ex1.tryE (g := g.cellF (L + 1)) (msg := "lo must be non-negative") (P := fun M => (t, .ml [.str "lo must be non-negative", .str "lo must be non-negative", .str "lo must be non-negative"]) ∈ M ∧ (∀ p ∈ μ, p.1 ≠ 66 → p ∈ M) ∧ ∃ ps, (66, MO.tb 70 ps) ∈ M) (RaisesE.call ?_) (by walk_at "kind") (by walk_at "kind") (by walk_at "isk") ?_)
  · repeat' walk_at "st"
    refine CallsR.clo (nm := []) (by rintro _ _ _ _ (_ | _) hv <;> first | rfl | cases hv) (by simp) (by simp) (by rintro p hp; cases hp with | head => rfl | tail _ h => cases h) rfl rfl rfl (by decide) ?_
    intro env4 L4 fx4 cl4 he4
    show RaisesE _ env4 [L4] _ (rho [("row", a)]) _ _ _ _
    refine RaisesE.call ?_
    repeat' walk_at "st"
    have hcode4 : env4.code = .ref c4 := by subst he4; rfl
    refine Ev.lambdaX (P := P4) (c := c4) hcode4 (by walk_at "mem") (by rfl) (by subst he4; rfl) (by decide) (caps := []) (by subst he4; exact .nil) fun ci4 Pi4 hPi4 => ?_
    repeat' walk_at "st"
    exact bisR_neg (g := ((g.cellF (L + 1)).push env).push env4) hK (BB.ok hK (by constructor)) (by decide) ⟨.tail _ (setMu_keep f1 hP4t), fun p hp hn => .tail _ (setMu_keep (kp p hp hn) (kp4 p hp hn)), ps6, .tail _ (setMu_keep f6 hP466)⟩
  rintro M ⟨f1, kp, ps6, f6⟩
  refine SuiteOk.append (a := t) (ds := [.str "lo must be non-negative", .str "lo must be non-negative", .str "lo must be non-negative"]) (by lia) (by walk_at "kind") (by walk_at "kind") (by walk_at "kind") (by walk_at "isk") (by decide) (by walk_at "rho") f1 (by simp) fun ρ4 hρ4 => ?_
  refine next_of (Ex.nil ?_)
  have ht4 : ρ4 "told" = some (.val (.ref t)) := (hρ4 _ (by decide)).trans (by walk_at "rho")
  have hr4 : ρ4 "row" = some a := (hρ4 _ (by decide)).trans (by walk_at "rho")
  refine ForL.gen (fun M => (t, .ml [.str "lo must be non-negative", .str "lo must be non-negative", .str "lo must be non-negative", .str "lo must be non-negative"]) ∈ M ∧ (∀ p ∈ μ, p.1 ≠ 66 → p ∈ M) ∧ ∃ ps, (66, MO.tb 70 ps) ∈ M) ⟨setMu_has f1, fun p hp hn => setMu_keep (kp p hp hn) (htn p hp), ps6, setMu_keep f6 n66⟩ ?_
  rintro M ⟨f1, kp, ps6, f6⟩
  refine ForL.nil (next_of ?_)
  refine Ex.freezeMem f1 (reUpd (x := "told") (by walk_at "rho") .hit) fun M' hM' => ?_
  repeat' walk_at "st"
  refine h _ (fun p hp hn => ?_) ⟨ps6, ?_⟩
  · rcases List.mem_cons.mp (hM'.mem_iff.mpr (kp p hp hn)) with q | q
    · exact absurd (by rw [q]) (htn p hp)
    · exact q
  · rcases List.mem_cons.mp (hM'.mem_iff.mpr f6) with q | q
    · cases q
    · exact q
end

theorem bis_spec' {p : Nat → Bool} {lo hi : Nat} : lo ≤ hi → (∀ i j, lo ≤ i → i ≤ j → j < hi → p i = true → p j = true) →
    lo ≤ bis p lo hi ∧ bis p lo hi ≤ hi ∧ (∀ i, lo ≤ i → i < bis p lo hi → p i = false) ∧ (∀ i, bis p lo hi ≤ i → i < hi → p i = true) := by
  refine bis_rec (C := fun lo hi r => lo ≤ hi → (∀ i j, lo ≤ i → i ≤ j → j < hi → p i = true → p j = true) → lo ≤ r ∧ r ≤ hi ∧ (∀ i, lo ≤ i → i < r → p i = false) ∧ (∀ i, r ≤ i → i < hi → p i = true)) ?_ ?_ ?_ _ lo hi (Nat.le_refl _)
  · intro lo hi h1 hp ih h mono
    obtain ⟨a, b, c, d⟩ := ih (by lia) fun i j h2 h3 h4 => mono i j h2 h3 (by lia)
    refine ⟨a, by lia, c, fun i h2 h3 => ?_⟩
    by_cases hi' : i < (lo + hi) / 2
    · exact d i h2 hi'
    · exact mono _ i (by lia) (by lia) h3 hp
  · intro lo hi h1 hp ih h mono
    obtain ⟨a, b, c, d⟩ := ih (by lia) fun i j h2 h3 h4 => mono i j (by lia) h3 h4
    refine ⟨by lia, b, fun i h2 h3 => ?_, d⟩
    by_cases hi' : (lo + hi) / 2 < i
    · exact c i (by lia) h3
    · cases hq : p i with
      | false => rfl
      | true => rw [mono i ((lo + hi) / 2) h2 (by lia) (by lia) hq] at hp; cases hp
  · intro lo hi h1 h mono
    exact ⟨Nat.le_refl _, h, fun i h2 h3 => by lia, fun i h2 h3 => by lia⟩
theorem bis_spec {p : Nat → Bool} {lo hi : Nat} (h : lo ≤ hi) (mono : ∀ i j, lo ≤ i → i ≤ j → j < hi → p i = true → p j = true) :
    lo ≤ bis p lo hi ∧ bis p lo hi ≤ hi ∧ (∀ i, lo ≤ i → i < bis p lo hi → p i = false) ∧ (∀ i, bis p lo hi ≤ i → i < hi → p i = true) := bis_spec' h mono
theorem bis_unique {p : Nat → Bool} {lo hi k : Nat} (h : lo ≤ hi) (mono : ∀ i j, lo ≤ i → i ≤ j → j < hi → p i = true → p j = true) (h1 : lo ≤ k) (h2 : k ≤ hi)
    (h3 : ∀ i, lo ≤ i → i < k → p i = false) (h4 : ∀ i, k ≤ i → i < hi → p i = true) : bis p lo hi = k := by
  obtain ⟨a, b, c, d⟩ := bis_spec h mono
  rcases Nat.lt_trichotomy (bis p lo hi) k with q | q | q
  · have := d _ (Nat.le_refl _) (by lia); rw [h3 _ a q] at this; cases this
  · exact q
  · have := c k h1 q; rw [h4 k (Nat.le_refl _) (by lia)] at this; cases this
/-- a part of the row: the whole row's place, clamped -/
theorem bis_clamp {p : Nat → Bool} {n lo hi : Nat} (hlh : lo ≤ hi) (hn : hi ≤ n) (mono : ∀ i j, i ≤ j → j < n → p i = true → p j = true) : bis p lo hi = min (max (bis p 0 n) lo) hi := by
  obtain ⟨a, b, c, d⟩ := bis_spec (lo := 0) (hi := n) (Nat.zero_le _) (fun i j _ h2 h3 => mono i j h2 h3)
  refine bis_unique hlh (fun i j _ h2 h3 => mono i j h2 (by lia)) (by lia) (by lia) (fun i h1 h2 => c i (Nat.zero_le _) (by lia)) (fun i h1 h2 => d i (by lia) (by lia))
/-- on a rising row the place counts the smaller ones -/
theorem bis_count {row : List Int} (hs : row.Pairwise (· ≤ ·)) (q : Int → Bool) (hq : ∀ a b, a ≤ b → q a = true → q b = true) : bis (fun i => q (row.getD i 0)) 0 row.length = row.countP (fun a => !q a) := by
  have key : ∀ row : List Int, row.Pairwise (· ≤ ·) → ∀ i, i < row.length → (i < row.countP (fun a => !q a) ↔ q (row.getD i 0) = false) := by
    intro row
    induction row with
    | nil => intro _ i hi; simp at hi
    | cons a r ih =>
      intro hs i hi
      rw [List.pairwise_cons] at hs
      cases hqa : q a with
      | true =>
        have hz : r.countP (fun a => !q a) = 0 := List.countP_eq_zero.mpr fun b hb => by simp [hq a b (hs.1 b hb) hqa]
        have e : (a :: r).countP (fun a => !q a) = 0 := by rw [List.countP_cons, hz]; simp [hqa]
        rw [e]
        cases i with
        | zero => simp [hqa]
        | succ i =>
          have hir : i < r.length := by simpa using hi
          have := hq a (r[i]) (hs.1 _ (List.getElem_mem hir)) hqa
          simp [List.getD_eq_getElem?_getD, hir, this]
      | false =>
        rw [List.countP_cons]; simp only [hqa, Bool.not_false, if_true]
        cases i with
        | zero => simp [hqa]
        | succ i =>
          have := ih hs.2 i (by simpa using hi)
          simpa [Nat.succ_lt_succ_iff] using this
  have hc := List.countP_le_length (p := fun a => !q a) (l := row)
  have mono : ∀ i j, 0 ≤ i → i ≤ j → j < row.length → q (row.getD i 0) = true → q (row.getD j 0) = true := fun i j _ h2 h3 h4 => by
    rcases Nat.lt_or_ge i j with hij | hij
    · refine hq _ _ ?_ h4
      have := List.pairwise_iff_getElem.mp hs i j (by lia) h3 hij
      simpa [List.getD_eq_getElem?_getD, h3, (by lia : i < row.length)] using this
    · rwa [show j = i by lia]
  refine bis_unique (Nat.zero_le _) mono (Nat.zero_le _) hc (fun i _ h2 => (key row hs i (by lia)).mp h2) fun i h1 h2 => ?_
  cases hh : q (row.getD i 0) with
  | true => rfl
  | false => exact absurd ((key row hs i h2).mpr hh) (by lia)

/-- iterate f until it stays -/
def iter (f : Int → Int) : Nat → Int → Int
  | 0, _ => -1
  | k + 1, x => if f x = x then x else iter f k (f x)
set_option tactic.hygienic true in
theorem iter_up {f : Int → Int} (mono : ∀ a b, a ≤ b → f a ≤ f b) {e : Int} (he : f e = e) : ∀ (k : Nat) (x : Int), x ≤ e → x ≤ f x → (∀ y, x ≤ y → y < e → f y ≠ y) → e - x < k → iter f k x = e
  | 0, x, h1, h2, h3, h4 => by lia
  | k + 1, x, h1, h2, h3, h4 => by
    unfold iter
    split
    · rename_i hx
      rcases Int.lt_or_le x e with q | q
      · exact absurd hx (h3 x (Int.le_refl _) q)
      · lia
    · rename_i hx
      have h5 := mono x e h1
      have h6 := mono x (f x) h2
      exact iter_up mono he k (f x) (by lia) h6 (fun y a b => h3 y (by lia) b) (by lia)
set_option tactic.hygienic true in
theorem iter_down {f : Int → Int} (mono : ∀ a b, a ≤ b → f a ≤ f b) {e : Int} (he : f e = e) : ∀ (k : Nat) (x : Int), e ≤ x → f x ≤ x → (∀ y, e < y → y ≤ x → f y ≠ y) → x - e < k → iter f k x = e
  | 0, x, h1, h2, h3, h4 => by lia
  | k + 1, x, h1, h2, h3, h4 => by
    unfold iter
    split
    · rename_i hx
      rcases Int.lt_or_le e x with q | q
      · exact absurd hx (h3 x q (Int.le_refl _))
      · lia
    · rename_i hx
      have h5 := mono e x h1
      have h6 := mono (f x) x h2
      exact iter_down mono he k (f x) (by lia) h6 (fun y a b => h3 y a (by lia)) (by lia)
/-! laying pairs by their first -/
def insP (k : Nat) (p : Int × Int) (F : List (Int × Int)) : List (Int × Int) := F.take k ++ p :: F.drop k
def gtP (p : Int × Int) (F : List (Int × Int)) (i : Nat) : Bool := decide (p.1 < (F.getD i (0, 0)).1)
def geP (p : Int × Int) (F : List (Int × Int)) (i : Nat) : Bool := !decide ((F.getD i (0, 0)).1 < p.1)
def stepR (F : List (Int × Int)) (p : Int × Int) : List (Int × Int) := insP (bis (gtP p F) 0 F.length) p F
def stepL (F : List (Int × Int)) (p : Int × Int) : List (Int × Int) := insP (bis (geP p F) 0 F.length) p F
def kneg (p : Int × Int) : Int × Int := (p.1, -p.2)
theorem insP_len {k p F} : (insP k p F).length = F.length + 1 := by
  unfold insP; simp only [List.length_append, List.length_cons, List.length_take, List.length_drop]; lia
theorem fold_len {f : List (Int × Int) → Int × Int → List (Int × Int)} (hf : ∀ F p, (f F p).length = F.length + 1) : ∀ (l : List (Int × Int)) (F : List (Int × Int)), (l.foldl f F).length = F.length + l.length
  | [], F => rfl
  | p :: l, F => by rw [List.foldl_cons, fold_len hf l, hf]; simp; lia
theorem insP_perm {k p F} : (insP k p F).Perm (p :: F) := by
  unfold insP
  have h := List.perm_middle (a := p) (l₁ := F.take k) (l₂ := F.drop k)
  rwa [List.take_append_drop] at h
theorem insP_sorted {k p F} {R : Int × Int → Int × Int → Prop} (hF : F.Pairwise R) (h1 : ∀ i, i < k → i < F.length → R (F.getD i (0, 0)) p) (h2 : ∀ i, k ≤ i → i < F.length → R p (F.getD i (0, 0)))
    (h3 : ∀ a b, a ∈ F → b ∈ F → R a p → R p b → R a b) : (insP k p F).Pairwise R := by
  unfold insP
  have ht : ∀ a ∈ F.take k, a ∈ F ∧ R a p := fun a ha => by
    obtain ⟨i, hi, rfl⟩ := List.getElem_of_mem ha
    rw [List.getElem_take]
    simp only [List.length_take] at hi
    have := h1 i (by lia) (by lia)
    have hi' : i < F.length := by lia
    simp [hi'] at this
    exact ⟨List.getElem_mem _, this⟩
  have hd : ∀ a ∈ F.drop k, a ∈ F ∧ R p a := fun a ha => by
    obtain ⟨i, hi, rfl⟩ := List.getElem_of_mem ha
    rw [List.getElem_drop]
    simp only [List.length_drop] at hi
    have := h2 (k + i) (by lia) (by lia)
    have hi' : k + i < F.length := by lia
    simp [hi'] at this
    exact ⟨List.getElem_mem _, this⟩
  refine List.pairwise_append.mpr ⟨hF.sublist (List.take_sublist _ _), List.pairwise_cons.mpr ⟨fun a ha => (hd a ha).2, hF.sublist (List.drop_sublist _ _)⟩, fun a ha b hb => ?_⟩
  rcases List.mem_cons.mp hb with rfl | hb
  · exact (ht a ha).2
  · exact h3 a b (ht a ha).1 (hd b hb).1 (ht a ha).2 (hd b hb).2
theorem plt_iff {a b : Int × Int} : plt a b = true ↔ a.1 < b.1 ∨ (a.1 = b.1 ∧ a.2 < b.2) := by simp [plt]
theorem fst_le {F : List (Int × Int)} {f : Int × Int → Int × Int} (hf : ∀ p, (f p).1 = p.1) (h : F.Pairwise fun a b => plt (f a) (f b) = true) {i j : Nat} (hij : i ≤ j) (hj : j < F.length) : (F.getD i (0, 0)).1 ≤ (F.getD j (0, 0)).1 := by
  rcases Nat.lt_or_ge i j with q | q
  · have := List.pairwise_iff_getElem.mp h i j (by lia) hj q
    have hi : i < F.length := by lia
    rw [plt_iff, hf, hf] at this
    simp [hi, hj]; lia
  · obtain rfl : i = j := by lia
    exact Int.le_refl _
theorem stepR_sorted {F p} (hF : F.Pairwise fun a b => plt a b = true) (hn : ∀ q ∈ F, q.2 < p.2) : (stepR F p).Pairwise fun a b => plt a b = true := by
  obtain ⟨_, _, c, d⟩ := bis_spec (p := gtP p F) (lo := 0) (hi := F.length) (Nat.zero_le _) fun i j _ h2 h3 hp => by
    have := fst_le (f := id) (fun _ => rfl) hF h2 h3
    simp only [gtP, decide_eq_true_eq] at *; lia
  refine insP_sorted hF (fun i h1 h2 => ?_) (fun i h1 h2 => ?_) fun a b _ _ h1 h2 => ?_
  · have := c i (Nat.zero_le _) h1
    have h3 : F.getD i (0, 0) ∈ F := by simp [h2]
    have := hn _ h3
    simp only [gtP, decide_eq_false_iff_not] at *
    rw [plt_iff]; lia
  · have := d i h1 h2
    simp only [gtP, decide_eq_true_eq] at this
    rw [plt_iff]; lia
  · rw [plt_iff] at *; lia
theorem stepL_sorted {F p} (hF : F.Pairwise fun a b => plt (kneg a) (kneg b) = true) (hn : ∀ q ∈ F, q.2 < p.2) : (stepL F p).Pairwise fun a b => plt (kneg a) (kneg b) = true := by
  obtain ⟨_, _, c, d⟩ := bis_spec (p := geP p F) (lo := 0) (hi := F.length) (Nat.zero_le _) fun i j _ h2 h3 hp => by
    have := fst_le (f := kneg) (fun _ => rfl) hF h2 h3
    simp only [geP, Bool.not_eq_true', decide_eq_false_iff_not] at *; lia
  refine insP_sorted hF (fun i h1 h2 => ?_) (fun i h1 h2 => ?_) fun a b _ _ h1 h2 => ?_
  · have := c i (Nat.zero_le _) h1
    simp only [geP, Bool.not_eq_false', decide_eq_true_eq] at this
    rw [plt_iff]; simp only [kneg]; lia
  · have := d i h1 h2
    have h3 : F.getD i (0, 0) ∈ F := by simp [h2]
    have := hn _ h3
    simp only [geP, Bool.not_eq_true', decide_eq_false_iff_not] at *
    rw [plt_iff]; simp only [kneg]; lia
  · rw [plt_iff] at *; lia
theorem fold_sorted {f : List (Int × Int) → Int × Int → List (Int × Int)} {R : Int × Int → Int × Int → Prop} (hp : ∀ F p, (f F p).Perm (p :: F)) (hs : ∀ F p, F.Pairwise R → (∀ q ∈ F, q.2 < p.2) → (f F p).Pairwise R) :
    ∀ (l : List (Int × Int)) (F : List (Int × Int)), l.Pairwise (fun a b => a.2 < b.2) → (∀ q ∈ F, ∀ p ∈ l, q.2 < p.2) → F.Pairwise R → (l.foldl f F).Pairwise R ∧ (l.foldl f F).Perm (l ++ F)
  | [], F, _, _, h => ⟨h, .refl _⟩
  | p :: l, F, hl, hq, h => by
    rw [List.pairwise_cons] at hl
    have hF := hs F p h fun q hq' => hq q hq' p (.head _)
    obtain ⟨a, b⟩ := fold_sorted hp hs l (f F p) hl.2 (fun q hq' r hr => by
      rcases List.mem_cons.mp ((hp F p).mem_iff.mp hq') with rfl | h'
      · exact hl.1 r hr
      · exact hq q h' r (.tail _ hr)) hF
    refine ⟨a, b.trans ?_⟩
    exact ((hp F p).append_left l).trans List.perm_middle
theorem lex_unique {a b : List (Int × Int)} {f : Int × Int → Int × Int} (hf : ∀ x y, f x = f y → x = y) (h : a.Perm b) (ha : a.Pairwise fun x y => plt (f x) (f y) = true) (hb : b.Pairwise fun x y => plt (f x) (f y) = true) : a = b :=
  List.Perm.eq_of_pairwise (fun x y _ _ h1 h2 => by rw [plt_iff] at h1 h2; lia) ha hb h

open PySem PySem.W PySem.Calls PyProof.Rows
set_option maxRecDepth 20000

/-! what the law's first lines build -/
def tailSum (s : List Int) (t : Nat) : Int := ((ipick (s.take 60) (some (t : Int)) Option.none (some 8)).map (·.fmod 1000000)).sum
theorem fmodMillion (x : Int) : 0 ≤ x.fmod 1000000 ∧ x.fmod 1000000 < 1000000 := ⟨Int.fmod_nonneg_of_pos x (by decide), Int.fmod_lt_of_pos x (by decide)⟩
theorem sumBound : ∀ (l : List Int), (∀ x ∈ l, 0 ≤ x ∧ x < 1000000) → 0 ≤ l.sum ∧ l.sum ≤ 1000000 * l.length
  | [], _ => by simp
  | a :: l, h => by
    have h1 := h a (.head _)
    have h2 := sumBound l fun x hx => h x (.tail _ hx)
    simp only [List.sum_cons, List.length_cons]; push_cast; omega
theorem tailFits (s : List Int) (t : Nat) (j : Nat) (hj : j < ((ipick (s.take 60) (some (t : Int)) Option.none (some 8)).map (·.fmod 1000000)).length) :
    InLong (((ipick (s.take 60) (some (t : Int)) Option.none (some 8)).map (·.fmod 1000000)).getD j 0) ∧ InLong ((((ipick (s.take 60) (some (t : Int)) Option.none (some 8)).map (·.fmod 1000000)).take (j + 1)).sum) := by
  generalize hl : (ipick (s.take 60) (some (t : Int)) Option.none (some 8)).map (·.fmod 1000000) = l at hj
  have hm : ∀ x ∈ l, 0 ≤ x ∧ x < 1000000 := fun x hx => by
    rw [← hl] at hx
    obtain ⟨y, _, rfl⟩ := List.mem_map.mp hx
    exact fmodMillion y
  have hn : l.length ≤ 60 := by
    rw [← hl, List.length_map]
    exact Nat.le_trans (ipick_len _ _) (by simp; omega)
  refine ⟨?_, ?_⟩
  · have := hm (l.getD j 0) (by simp [hj])
    unfold InLong; omega
  · have h1 := sumBound (l.take (j + 1)) fun x hx => hm x (List.mem_of_mem_take hx)
    have h2 : (l.take (j + 1)).length ≤ 60 := by simp; omega
    unfold InLong; omega
theorem zipIdx_int {ds : List D} (h : ∀ d ∈ ds, ∃ b, d = D.int b) {pd : D} {k : Nat} (hp : (pd, k) ∈ ds.zipIdx) : ∃ b, pd = D.int b := by
  have := List.mem_map_of_mem (f := Prod.fst) hp
  rw [List.zipIdx_map_fst] at this
  exact h _ this
def cellF (s : List Int) : D → D → D
  | .int t, .int b => .int (b + tailSum s t.toNat)
  | _, _ => .none
theorem insAt_pair {k p F} : insAt k (pairD p) (F.map pairD) = (insP k p F).map pairD := by
  unfold insAt insP; simp [List.map_take, List.map_drop]
theorem pair_at_i {F : List (Int × Int)} {i : Nat} {d : D} (h : (F.map pairD)[i]? = some d) : d = pairD (F.getD i (0, 0)) := by
  rw [List.getElem?_map] at h
  cases hi : F[i]? with
  | none => rw [hi] at h; cases h
  | some y => rw [hi] at h; cases h; rw [List.getD_eq_getElem?_getD, hi]; rfl
/-- lambda entry: entry[0] -/
theorem keyFst {g : Mine.G} {q : Str} {pa : Arguments} {body : Expr} {sc : Scope} {cd : Value} {x : Int × Int} (hb : ∀ name cl pm ct (vs : List Value), vs.length = 1 → bindArgs (kla_fn name q pa body sc cl pm cd ct) ⟨vs, []⟩ = pure ((["entry"] : List Str).zip vs))
    (hs : sc = { kind := .function, names := [("entry", .local)], isGenerator := false, isCoroutine := false, more := [] }) (p1 p2 p3 : Pos) (hbody : body = .Subscript (.Name "entry" p1) (.Constant (.int 0) 0 p2) p3) (m : Nat) : KeyOk g (m + 1) (.clo q pa body sc cd []) (pairD x) (.int x.1) := by
  subst hs hbody
  intro l μ Q h
  refine Calls.clo (nm := ["entry"]) hb (by decide) (by decide) (by simp) rfl rfl rfl (by decide) ?_
  intro env L f cl he
  show Ev (G.push { g with stk := l } env) env [L] m (rho [("entry", .tup [.int x.1, .int x.2])]) μ _ Q
  repeat' walk_at "st"
  exact Act2.itemT (idx?_nat (k := 0)) (by simp) h (fun _ _ => rfl)
/-- lambda entry: (entry[0], -entry[1]) -/
theorem keyPair {g : Mine.G} {q : Str} {pa : Arguments} {body : Expr} {sc : Scope} {cd : Value} {x : Int × Int} (hb : ∀ name cl pm ct (vs : List Value), vs.length = 1 → bindArgs (kla_fn name q pa body sc cl pm cd ct) ⟨vs, []⟩ = pure ((["entry"] : List Str).zip vs))
    (hs : sc = { kind := .function, names := [("entry", .local)], isGenerator := false, isCoroutine := false, more := [] }) (p1 p2 p3 p4 p5 p6 p7 p8 : Pos)
    (hbody : body = .Tuple [.Subscript (.Name "entry" p1) (.Constant (.int 0) 0 p2) p3, .UnaryOp .USub (.Subscript (.Name "entry" p4) (.Constant (.int 1) 0 p5) p6) p7] 0 p8) (m : Nat) : KeyOk g (m + 1) (.clo q pa body sc cd []) (pairD x) (pairD (kneg x)) := by
  subst hs hbody
  intro l μ Q h
  refine Calls.clo (nm := ["entry"]) hb (by decide) (by decide) (by simp) rfl rfl rfl (by decide) ?_
  intro env L f cl he
  show Ev (G.push { g with stk := l } env) env [L] m (rho [("entry", .tup [.int x.1, .int x.2])]) μ _ Q
  repeat' walk_at "st"
  refine Act2.itemT (idx?_nat (k := 0)) (by simp) ?_ (fun _ _ => rfl)
  repeat' walk_at "st"
  refine Act2.itemT (idx?_nat (k := 1)) (by simp) ?_ (fun _ _ => rfl)
  repeat' walk_at "st"
  exact h
def tupI (p : Int × Nat) : D := .tup [.int p.2, .int p.1]
def prI (p : Int × Nat) : Int × Int := (p.1.fmod 13, p.2)
theorem enumD_ints (l : List Int) : enumD 0 (l.map D.int) = l.zipIdx.map tupI := by
  rw [enumD_map, List.zipIdx_map, List.map_map, List.map_map]
  refine List.map_congr_left fun p _ => ?_
  simp [tupI]
/-- a key that turns the sign -/
structure NegKey (g : Mine.G) (kd : D) : Prop where
  isn : isNone kd = some false
  keep : KeepD g kd
  key : ∀ m x, KeyOk g (m + 1) kd (.int x) (.int (-x))
noncomputable def lawFd (p : Params) : FuncData := match (hd.heap_39 p).lookup 76 with
  | some o => (match o.data with | .func fd => fd | _ => default)
  | _ => default
noncomputable def lawStmts (p : Params) : List Stmt := match (lawFd p).body with | .stmts b => b | _ => []
abbrev QT : Fl → (Str → Option D) → Mu → Prop := fun f _ μ' => f = .ret (.bool true) ∧ ∃ ps, (66, MO.tb 70 ps) ∈ μ'
/-- the frame of law -/
structure LawFr (g : Mine.G) (env : Env) (own : List Addr) (L : Addr) : Prop where
  he : env = callEnvC (lawFd g.w.params) L 76
  ho : own = ownOf (lawFd g.w.params) L
section
variable {g : G} (hK : g.K = hd.heap_39 g.w.params) (hT : g.tabs = tabs1)
include hK hT
set_option maxHeartbeats 4000000 in
theorem law_p1 {script : List Int} {n : Nat} {μ : Mu} {env : Env} {own : List Addr} {L : Addr} (he : env = callEnvC (lawFd g.w.params) L 76) (ho : own = ownOf (lawFd g.w.params) L) (hs : script.length ≤ 63)
    (next : ∀ ρ (cs : List Int) (FR : List (Int × Int)) kd, cs.length = 8 → FR.length = 7 → FR.Pairwise (fun a b => plt a b = true) → (∀ p ∈ FR, 0 ≤ p.1 ∧ p.1 ≤ 12) → NegKey (g.push env) kd → ρ "first" = some (.lst (FR.map pairD)) → ρ "turned" = some kd → ρ "cells" = some (.lst (cs.map .int)) →
      Ex (g.push env) env own (n + 59) ρ μ ((lawStmts g.w.params).drop 5) QT) :
    Ex (g.push env) env own (n + 59) (rho [("script", .lst (script.map .int))]) μ (lawStmts g.w.params) QT := by
  refine Ex.seq (fun ρ' μ' => μ' = μ ∧ ∃ cs : List Int, cs.length = 8 ∧ ρ' "cells" = some (.lst (cs.map .int))) ?_ ?_
  · walk_at "comp1"
    refine EvI.enum ?_
    repeat' walk_at "st"
    refine ⟨rfl, rfl, Ev.list ?_⟩
    repeat' walk_at "st"
    refine ⟨_, rfl, ?_⟩
    intro cenv C hce
    rw [enumD_map]
    refine CompL.map2 (cellF script) (bindable_local (by walk_at "kind")) (bindable_local (by walk_at "kind")) _ _ (by decide) (fun d hd Q hQ => ?_) (fun r => ?_)
    · obtain ⟨⟨pd, k⟩, hp, rfl⟩ := List.mem_map.mp hd
      obtain ⟨b, rfl⟩ := zipIdx_int (by simp) hp
      have hQ : Q (.int (b + tailSum script k)) μ := by simpa [cellF] using hQ
      have e0 : (0 : Int) + (k : Nat) = k := Int.zero_add _
      show Ev _ _ _ _ (upd (upd _ "turn" (.int ((0 : Int) + (k : Nat)))) "base" (.int b)) _ _ _
      rw [e0]
      repeat' walk_at "st"
      walk_at "comp"
      refine EvI.list ?_
      repeat' walk_at "st"
      refine ⟨_, rfl, ?_⟩
      refine Act2.slice .lst (by decide) (by simp; omega) ?_ ops_plain
      have e60 : dpick (script.map D.int) Option.none (some 60) Option.none = (script.take 60).map .int := by rw [show (60 : Int) = ((60 : Nat) : Int) from rfl, dpick_upto, List.map_take]
      rw [e60]
      repeat' walk_at "st"
      refine ⟨_, rfl, ?_⟩
      repeat' walk_at "st"
      refine ⟨_, rfl, ?_⟩
      refine Act2.slice .lst (by decide) (by simp; omega) ?_ ops_step
      rw [dpick_ints]
      refine ⟨_, rfl, ?_⟩
      intro cenv2 C2 hce2
      refine CompL.map (fun d => match d with | .int x => .int (x.fmod 1000000) | _ => .none) (bindable_local (by walk_at "kind")) _ _ (by simp only [List.length_nil, List.length_map]; have := ipick_len (script.take 60) k; simp at this; omega) (fun d hd Q hQ => ?_) (fun r => ?_)
      · obtain ⟨x, _, rfl⟩ := List.mem_map.mp hd
        repeat' walk_at "st"
        exact hQ
      rw [List.nil_append, List.map_map]
      repeat' walk_at "st"
      refine Calls.sum (ns := (ipick (script.take 60) (some (k : Int)) Option.none (some 8)).map (·.fmod 1000000)) (by rw [List.map_map]; exact .lst) (tailFits script k) ?_
      repeat' walk_at "st"
      exact hQ
    · exact ⟨rfl, rfl, [4 + tailSum script 0, 0 + tailSum script 1, 9 + tailSum script 2, 4 + tailSum script 3, 1 + tailSum script 4, 4 + tailSum script 5, 9 + tailSum script 6, 19 + tailSum script 7], rfl, upd_same⟩
  rintro ρ μ' ⟨rfl, cs, hcs, h1⟩
  have hcode : env.code = .ref 75 := by subst he; rfl
  have htab : (75, 73, env.qual ++ ("<lambda>" : Str)) ∈ (g.push env).tabs := by subst he; show _ ∈ g.tabs; rw [hT]; exact .tail _ (.head _)
  have hq : ∀ q ∈ (g.push env).tabs, q.2.1 = 73 → q.2.2 = env.qual ++ ("<lambda>" : Str) := by
    show ∀ q ∈ g.tabs, _
    rw [hT]; subst he
    intro q hq h
    simp only [tabs1, List.mem_cons, List.not_mem_nil, or_false] at hq
    rcases hq with rfl | rfl
    · exact absurd h (by decide)
    · rfl
  refine Ex.seq (fun ρ' M => ∃ a1 a2 kd, a1 ∉ μ'.dom ∧ a2 ∉ μ'.dom ∧ a1 ≠ a2 ∧ M = (a2, .ml []) :: (a1, .ml []) :: μ' ∧ ρ' "first" = some (.val (.ref a1)) ∧ ρ' "last" = some (.val (.ref a2)) ∧ ρ' "turned" = some kd ∧ NegKey (g.push env) kd ∧ ρ' "cells" = some (.lst (cs.map .int))) ?_ ?_
  · refine Ex1.assignS (names := ["first", "last", "turned"]) ?_ ?hb ?hw
    case hw => subst he; exact rfl
    case hb => intro x hx; simp only [List.mem_cons, List.not_mem_nil, or_false] at hx; rcases hx with rfl | rfl | rfl <;> walk_at "bind"
    repeat' walk_at "st"
    refine Ev.listM ?_
    repeat' walk_at "st"
    intro a1 ha1
    repeat' walk_at "st"
    refine Ev.listM ?_
    repeat' walk_at "st"
    intro a2 ha2
    simp only [Mu.dom, List.map_cons, List.mem_cons, not_or] at ha2
    repeat' walk_at "st"
    refine Ev.lambda hcode htab hq (caps := []) (by rfl) (by decide) .nil (fun cdv => ?_)
    repeat' walk_at "st"
    refine ⟨_, rfl, rfl, ?_⟩
    rw [updL3]
    exact ⟨rfl, a1, a2, _, ha1, ha2.2, Ne.symm ha2.1, rfl, upd_same, upd_ne (by decide) upd_same, upd_ne (by decide) (upd_ne (by decide) upd_same), ⟨rfl, KeepD.clo, fun m x => keyNeg (by rintro _ _ _ _ (_ | ⟨v, _ | _⟩) hv <;> first | rfl | cases hv) rfl _ _ rfl m⟩, by walk_at "rho"⟩
  rintro ρ M ⟨a1, a2, kd, ha1, ha2, ha12, rfl, h2, h3, h4, hkd, h1⟩
  have e7 : dpick (cs.map D.int) Option.none (some 7) Option.none = (cs.take 7).map .int := by rw [show (7 : Int) = ((7 : Nat) : Int) from rfl, dpick_upto, List.map_take]
  have l7 : (cs.take 7).zipIdx.length = 7 := by simp [hcs]
  refine Ex.seq (fun ρ' M => M = (a2, .ml ((((cs.take 7).zipIdx.map prI).foldl stepL []).map pairD)) :: (a1, .ml ((((cs.take 7).zipIdx.map prI).foldl stepR []).map pairD)) :: μ' ∧ ρ' "first" = some (.val (.ref a1)) ∧ ρ' "last" = some (.val (.ref a2)) ∧ ρ' "turned" = some kd ∧ ρ' "cells" = some (.lst (cs.map .int))) ?_ ?_
  · refine Ex1.for (by omega) (EvI.enum ?_)
    repeat' walk_at "st"
    refine ⟨rfl, rfl, ?_⟩
    repeat' walk_at "st"
    refine ⟨_, rfl, ?_⟩
    refine Act2.slice .lst (by decide) (by simp; omega) ?_ ops_plain
    rw [e7]
    refine ⟨_, rfl, ?_⟩
    rw [enumD_ints]
    refine ForL.run (I := fun ds ρ M => ∃ done rest, (cs.take 7).zipIdx = done ++ rest ∧ ds = rest.map tupI ∧ M = (a2, .ml (((done.map prI).foldl stepL []).map pairD)) :: (a1, .ml (((done.map prI).foldl stepR []).map pairD)) :: μ' ∧
      ρ "first" = some (.val (.ref a1)) ∧ ρ "last" = some (.val (.ref a2)) ∧ ρ "turned" = some kd ∧ ρ "cells" = some (.lst (cs.map .int))) ?_ ?_ _ ⟨[], _, rfl, rfl, rfl, h2, h3, h4, h1⟩
    · rintro d ds ρ M ⟨done, rest, hdr, hds, rfl, h2, h3, h4, h1⟩
      cases rest with
      | nil => cases hds
      | cons q rest =>
        obtain ⟨rfl, rfl⟩ : d = tupI q ∧ ds = rest.map tupI := by simpa using hds
        refine .tup (.cons (by walk_at "bind") (.cons (by walk_at "bind") (.nil ?_)))
        have hdl : done.length < 7 := by have := congrArg List.length hdr; rw [l7, List.length_append, List.length_cons] at this; omega
        have lenR : ((done.map prI).foldl stepR []).length = done.length := by rw [fold_len (f := stepR) (fun F p => insP_len)]; simp
        have lenL : ((done.map prI).foldl stepL []).length = done.length := by rw [fold_len (f := stepL) (fun F p => insP_len)]; simp
        have hx : (D.tup [.int (q.1.fmod 13), .int (q.2 : Int)]) = pairD (prI q) := rfl
        generalize hFR : (done.map prI).foldl stepR [] = FR at lenR ⊢
        generalize hFL : (done.map prI).foldl stepL [] = FL at lenL ⊢
        refine Ex.cons (Ex1.expr (Ev.call ?_))
        repeat' walk_at "st"
        refine Ev.lambda hcode htab hq (caps := []) (by rfl) (by decide) .nil (fun cdv => ?_)
        repeat' walk_at "st"
        rw [hx]
        refine insRk_body (g := g.push env) hK (p := gtP (prI q) FR) (lo := 0) (hi := FR.length) (ex := .int (prI q).1) (BB.ok hK (by constructor)) (.tail _ (.head _)) (by simp; omega) (by omega) (by simp) (.inr ⟨rfl, by simp⟩) rfl KeepD.clo
          (fun m => keyFst (by rintro _ _ _ _ (_ | ⟨v, _ | _⟩) hv <;> first | rfl | cases hv) rfl _ _ _ rfl m)
          (fun i d hd => ⟨.int (FR.getD i (0, 0)).1, (by rw [pair_at_i hd]; exact (fun m => keyFst (by rintro _ _ _ _ (_ | ⟨v, _ | _⟩) hv <;> first | rfl | cases hv) rfl _ _ _ rfl m)), LtOk.int⟩) ?_
        rw [setMu_miss (Ne.symm ha12), setMu_hit, insAt_pair]
        refine ⟨rfl, next_of ?_⟩
        refine Ex.cons (Ex1.expr (Ev.call ?_))
        repeat' walk_at "st"
        refine Ev.lambda hcode htab hq (caps := []) (by rfl) (by decide) .nil (fun cdv => ?_)
        repeat' walk_at "st"
        rw [hx]
        refine insLk_body (g := g.push env) hK (p := geP (prI q) FL) (lo := 0) (hi := FL.length) (ex := .int (prI q).1) (BB.ok hK (by constructor)) (.head _) (by simp; omega) (by omega) (by simp) (.inr ⟨rfl, by simp⟩) rfl KeepD.clo
          (fun m => keyFst (by rintro _ _ _ _ (_ | ⟨v, _ | _⟩) hv <;> first | rfl | cases hv) rfl _ _ _ rfl m)
          (fun i d hd => ⟨.int (FL.getD i (0, 0)).1, (by rw [pair_at_i hd]; exact (fun m => keyFst (by rintro _ _ _ _ (_ | ⟨v, _ | _⟩) hv <;> first | rfl | cases hv) rfl _ _ _ rfl m)), by unfold geP; rw [Bool.not_not]; exact LtOk.int⟩) ?_
        rw [setMu_hit, insAt_pair]
        refine ⟨rfl, next_of ?_⟩
        repeat' walk_at "st"
        refine ⟨done ++ [q], rest, by rw [hdr]; simp, rfl, ?_, by walk_at "rho", by walk_at "rho", by walk_at "rho", by walk_at "rho"⟩
        rw [List.map_append, List.foldl_append, List.foldl_append, hFR, hFL]
        rfl
    · rintro ρ M ⟨done, rest, hdr, hds, rfl, h2, h3, h4, h1⟩
      obtain rfl : rest = [] := by cases rest with | nil => rfl | cons _ _ => cases hds
      rw [List.append_nil] at hdr
      subst hdr
      exact ⟨rfl, rfl, h2, h3, h4, h1⟩
  rintro ρ M ⟨rfl, h2, h3, h4, h1⟩
  generalize hFR : ((cs.take 7).zipIdx.map prI).foldl stepR [] = FR
  generalize hFL : ((cs.take 7).zipIdx.map prI).foldl stepL [] = FL
  refine Ex.freeze (reUpd (x := "last") h3 .hit) ?_
  refine Ex.freeze (reUpd (x := "first") (upd_ne (by decide) h2) .hit) ?_
  refine Ex.seq (fun ρ' M => M = μ' ∧ ρ' "first" = some (.lst (FR.map pairD)) ∧ ρ' "last" = some (.lst (FL.map pairD)) ∧ ρ' "turned" = some kd ∧ ρ' "cells" = some (.lst (cs.map .int)) ∧ ρ' "pairs" = some (.lst (((cs.take 7).zipIdx.map prI).map pairD))) ?_ ?_
  · walk_at "comp1"
    refine EvI.enum ?_
    repeat' walk_at "st"
    refine ⟨rfl, rfl, ?_⟩
    repeat' walk_at "st"
    refine ⟨_, rfl, ?_⟩
    refine Act2.slice .lst (by decide) (by simp; omega) ?_ ops_plain
    rw [e7]
    refine ⟨_, rfl, ?_⟩
    intro cenv C hce
    rw [enumD_ints]
    refine CompL.mapA2 (fun p : Int × Nat => D.int p.2) (fun p => D.int p.1) (fun p => pairD (prI p)) (by walk_at "bind") (by walk_at "bind") _ _ (by simp; omega) (fun p hp Q hQ => ?_) (fun r => ?_)
    · repeat' walk_at "st"
      exact hQ
    · rw [List.nil_append, show (List.map (fun p => pairD (prI p)) (cs.take 7).zipIdx) = ((cs.take 7).zipIdx.map prI).map pairD by rw [List.map_map]; rfl]
      exact ⟨rfl, rfl, by walk_at "rho", by walk_at "rho", by walk_at "rho", by walk_at "rho", by walk_at "rho"⟩
  rintro ρ M ⟨rfl, h2, h3, h4, h1, h5⟩
  have hprs : ((cs.take 7).zipIdx.map prI).Pairwise (fun a b => a.2 < b.2) := by
    rw [List.pairwise_map, List.pairwise_iff_getElem]
    intro i j hi hj hij
    simp [prI]; omega
  have hpl : ((cs.take 7).zipIdx.map prI).length = 7 := by simp [hcs]
  generalize hps : (cs.take 7).zipIdx.map prI = ps at *
  obtain ⟨sR, pR⟩ := fold_sorted (f := stepR) (fun F p => insP_perm) (fun F p h hn => stepR_sorted h hn) ps [] hprs (fun q hq => nomatch hq) .nil
  obtain ⟨sL, pL⟩ := fold_sorted (f := stepL) (fun F p => insP_perm) (fun F p h hn => stepL_sorted h hn) ps [] hprs (fun q hq => nomatch hq) .nil
  rw [List.append_nil, hFR] at pR
  rw [List.append_nil, hFL] at pL
  rw [hFR] at sR
  rw [hFL] at sL
  have hnd : ps.Nodup := hprs.imp fun h e => by rw [e] at h; exact absurd h (Int.lt_irrefl _)
  refine Ex.skipIf (Et.or ?_) ?_
  · unfold EtAll
    repeat' walk_at "st"
    refine Calls.sortedPairs (by simp) .lst hnd (by omega) (by omega) fun ps' hp' hs' => ?_
    have e1 : ps' = FR := lex_unique (f := id) (fun _ _ h => h) (hp'.trans pR.symm) hs' sR
    subst e1
    refine Act2.neSame rfl (PyOk.pairs.le (by decide)) ?_
    repeat' walk_at "st"
    unfold EtAll
    repeat' walk_at "st"
    refine Ev.lambda hcode htab hq (caps := []) (by rfl) (by decide) .nil (fun cdv => ?_)
    repeat' walk_at "st"
    refine Calls.sortedPairsK (kf := kneg) (n := n + 57) (by simp) .lst ⟨_, _, _, _, _, _, rfl⟩ (fun p => keyPair (by rintro _ _ _ _ (_ | ⟨v, _ | _⟩) hv <;> first | rfl | cases hv) rfl _ _ _ _ _ _ _ _ rfl (n + 56)) ?_ (by omega) (by omega) fun ps2 hp2 hs2 => ?_
    · exact List.Pairwise.map _ (fun a b h e => by simp only [kneg, Prod.mk.injEq] at e; omega) hprs
    rw [List.pairwise_map] at hs2
    have e2 : ps2 = FL := lex_unique (f := kneg) (fun x y h => by simp only [kneg, Prod.mk.injEq] at h; exact Prod.ext h.1 (by omega)) (hp2.trans pL.symm) hs2 sL
    subst e2
    refine Act2.neSame rfl (PyOk.pairs.le (by decide)) ?_
    refine TBool.of (ff_of ?_)
    unfold EtAll
    exact ⟨rfl, rfl⟩
  refine next ρ cs FR kd hcs (by rw [pR.length_eq]; exact hpl) sR (fun p hp => ?_) hkd h2 h4 h1
  have hp := pR.mem_iff.mp hp
  rw [← hps] at hp
  obtain ⟨q, _, rfl⟩ := List.mem_map.mp hp
  have h0 := Int.fmod_nonneg_of_pos q.1 (show (0 : Int) < 13 by decide)
  have h12 := Int.fmod_lt_of_pos q.1 (show (0 : Int) < 13 by decide)
  exact ⟨h0, by show q.1.fmod 13 ≤ 12; omega⟩
end

/-! places in a rising row -/
def Rising (l : List Int) : Prop := ∀ i j, i ≤ j → j < l.length → l.getD i 0 ≤ l.getD j 0
def cL (l : List Int) (x : Int) : Nat := bis (geAt l x) 0 l.length
def cR (l : List Int) (x : Int) : Nat := bis (gtAt l x) 0 l.length
theorem rising_of {l : List Int} (h : l.Pairwise (· ≤ ·)) : Rising l := fun i j hij hj => by
  rcases Nat.lt_or_ge i j with q | q
  · have := List.pairwise_iff_getElem.mp h i j (by lia) hj q
    have hi : i < l.length := by lia
    simpa [hi, hj] using this
  · obtain rfl : i = j := by lia
    exact Int.le_refl _
theorem geAt_mono {l : List Int} (h : Rising l) {x : Int} (i j : Nat) (h2 : i ≤ j) (h3 : j < l.length) (hp : geAt l x i = true) : geAt l x j = true := by
  have := h i j h2 h3
  simp only [geAt, Bool.not_eq_true', decide_eq_false_iff_not] at *; lia
theorem gtAt_mono {l : List Int} (h : Rising l) {x : Int} (i j : Nat) (h2 : i ≤ j) (h3 : j < l.length) (hp : gtAt l x i = true) : gtAt l x j = true := by
  have := h i j h2 h3
  simp only [gtAt, decide_eq_true_eq] at *; lia
theorem cL_iff {l : List Int} (h : Rising l) (x : Int) : cL l x ≤ l.length ∧ ∀ k, k < l.length → (cL l x ≤ k ↔ x ≤ l.getD k 0) := by
  obtain ⟨_, b, c, d⟩ := bis_spec (p := geAt l x) (lo := 0) (hi := l.length) (Nat.zero_le _) fun i j _ h2 h3 => geAt_mono h i j h2 h3
  refine ⟨b, fun k hk => ⟨fun q => ?_, fun q => ?_⟩⟩
  · have := d k q hk
    simp only [geAt, Bool.not_eq_true', decide_eq_false_iff_not] at this; lia
  · rcases Nat.lt_or_ge k (cL l x) with z | z
    · have := c k (Nat.zero_le _) z
      simp only [geAt, Bool.not_eq_false', decide_eq_true_eq] at this; lia
    · exact z
theorem cR_iff {l : List Int} (h : Rising l) (x : Int) : cR l x ≤ l.length ∧ ∀ k, k < l.length → (cR l x ≤ k ↔ x < l.getD k 0) := by
  obtain ⟨_, b, c, d⟩ := bis_spec (p := gtAt l x) (lo := 0) (hi := l.length) (Nat.zero_le _) fun i j _ h2 h3 => gtAt_mono h i j h2 h3
  refine ⟨b, fun k hk => ⟨fun q => ?_, fun q => ?_⟩⟩
  · have := d k q hk
    simpa only [gtAt, decide_eq_true_eq] using this
  · rcases Nat.lt_or_ge k (cR l x) with z | z
    · have := c k (Nat.zero_le _) z
      simp only [gtAt, decide_eq_false_iff_not] at this; lia
    · exact z
theorem cL_eq {l : List Int} (h : Rising l) {x : Int} {m : Nat} (hm : m ≤ l.length) (k : ∀ i, i < l.length → (m ≤ i ↔ x ≤ l.getD i 0)) : cL l x = m := by
  obtain ⟨a, b⟩ := cL_iff h x
  rcases Nat.lt_trichotomy (cL l x) m with q | q | q
  · have := b (cL l x) (by lia); have := k (cL l x) (by lia); lia
  · exact q
  · have := b m (by lia); have := k m (by lia); lia
theorem cR_eq {l : List Int} (h : Rising l) {x : Int} {m : Nat} (hm : m ≤ l.length) (k : ∀ i, i < l.length → (m ≤ i ↔ x < l.getD i 0)) : cR l x = m := by
  obtain ⟨a, b⟩ := cR_iff h x
  rcases Nat.lt_trichotomy (cR l x) m with q | q | q
  · have := b (cR l x) (by lia); have := k (cR l x) (by lia); lia
  · exact q
  · have := b m (by lia); have := k m (by lia); lia
theorem cR_mono {l : List Int} (h : Rising l) {a b : Int} (hab : a ≤ b) : cR l a ≤ cR l b := by
  obtain ⟨a1, a2⟩ := cR_iff h a
  obtain ⟨b1, b2⟩ := cR_iff h b
  rcases Nat.lt_or_ge (cR l b) (cR l a) with q | q
  · have := b2 (cR l b) (by lia); have := a2 (cR l b) (by lia); lia
  · exact q
theorem stays_iter {l : List Int} {t : Int} : ∀ k y, stays l t k y = iter (fun y => t + (cR l y : Nat)) k y
  | 0, y => rfl
  | k + 1, y => by
    rw [stays_succ, stays_iter k]
    rfl

/-! the row and what is counted off it -/
structure RowOk (row : List Int) : Prop where
  len : row.length = 7
  up : Rising row
  lo : ∀ k, k < 7 → 0 ≤ row.getD k 0
  hi : ∀ k, k < 7 → row.getD k 0 ≤ 12
def top (row : List Int) : Nat := (row.getD 6 0 + 3).toNat
def numbersI (row : List Int) : List Int := (List.range (top row)).map fun (i : Nat) => (i : Int) + 1
def countsI (row : List Int) : List Int := (numbersI row).map fun x => (cL row x : Int)
def risesI (row : List Int) : List Int := row.zipIdx.map fun p => p.1 + p.2 + 1
def othersI (row : List Int) : List Int := (numbersI row).map fun x => x + (cL row x : Int)
section
variable {row : List Int} (R : RowOk row)
include R
theorem top_eq : (top row : Int) = row.getD 6 0 + 3 := by have := R.lo 6 (by decide); unfold top; lia
omit R in
theorem numbers_len : (numbersI row).length = top row := by simp [numbersI]
omit R in
theorem counts_len : (countsI row).length = top row := by simp [countsI, numbersI]
omit R in
theorem others_len : (othersI row).length = top row := by simp [othersI, numbersI]
theorem rises_len : (risesI row).length = 7 := by simp [risesI, R.len]
omit R in
theorem counts_at {k : Nat} (hk : k < top row) : (countsI row).getD k 0 = cL row (k + 1) := by simp [countsI, numbersI, hk]
omit R in
theorem others_at {k : Nat} (hk : k < top row) : (othersI row).getD k 0 = (k + 1) + (cL row (k + 1) : Int) := by simp [othersI, numbersI, hk]
theorem rises_at {k : Nat} (hk : k < 7) : (risesI row).getD k 0 = row.getD k 0 + k + 1 := by
  have : k < row.length := by rw [R.len]; exact hk
  simp [risesI, this]
/-- how many are less: as a place -/
theorem cK {k : Nat} (hk : k < 7) (x : Int) : cL row x ≤ k ↔ x ≤ row.getD k 0 := (cL_iff R.up x).2 k (by rw [R.len]; exact hk)
theorem cle (x : Int) : cL row x ≤ 7 := by have := (cL_iff R.up x).1; rwa [R.len] at this
theorem cmono {x y : Int} (h : x ≤ y) : cL row x ≤ cL row y := by
  rcases Nat.lt_or_ge (cL row y) (cL row x) with q | q
  · have h7 := cle R x
    have := cK R (k := cL row y) (by lia) y
    have := cK R (k := cL row y) (by lia) x
    lia
  · exact q
theorem rises_up : Rising (risesI row) := fun i j hij hj => by
  rw [rises_len R] at hj
  rw [rises_at R (by lia), rises_at R hj]
  have := R.up i j hij (by rw [R.len]; exact hj)
  lia
theorem others_up : Rising (othersI row) := fun i j hij hj => by
  rw [others_len] at hj
  rw [others_at (by lia), others_at hj]
  have := cmono R (x := i + 1) (y := j + 1) (by lia)
  lia
theorem counts_up : Rising (countsI row) := fun i j hij hj => by
  rw [counts_len] at hj
  rw [counts_at (by lia), counts_at hj]
  have := cmono R (x := i + 1) (y := j + 1) (by lia)
  lia
/-- the row itself, told off the counts -/
theorem counts_tell {t : Nat} (h1 : t < 7) : (cL (countsI row) ((t : Int) + 1) : Int) = row.getD t 0 := by
  have hlo := R.lo t h1
  have ht := top_eq R
  have h6 := R.up t 6 (by lia) (by rw [R.len]; decide)
  have e : cL (countsI row) ((t : Int) + 1) = (row.getD t 0).toNat := by
    refine cL_eq (counts_up R) (by rw [counts_len]; lia) fun i hi => ?_
    rw [counts_len] at hi
    rw [counts_at hi]
    have := cK R h1 ((i : Int) + 1)
    lia
  rw [e]; lia
theorem stays_others {t : Nat} (h1 : t < 7) : stays (othersI row) ((t : Int) + 1) 20 ((t : Int) + 1) = (risesI row).getD t 0 := by
  rw [stays_iter, rises_at R h1]
  have hlo := R.lo t h1
  have hhi := R.hi t h1
  have ht := top_eq R
  have h6 := R.up t 6 (by lia) (by rw [R.len]; decide)
  have e : cR (othersI row) (row.getD t 0 + t + 1) = (row.getD t 0).toNat := by
    refine cR_eq (others_up R) (by rw [others_len]; lia) fun i hi => ?_
    rw [others_len] at hi
    rw [others_at hi]
    have := cK R h1 ((i : Int) + 1)
    lia
  refine iter_up (fun a b h => by have := cR_mono (others_up R) h; lia) (by rw [e]; lia) 20 _ (by lia) (by lia) (fun y hy1 hy2 hf => ?_) (by lia)
  have hk := (cR_iff (others_up R) y).2 (cR (othersI row) y) (by rw [others_len]; lia)
  rw [others_at (by lia)] at hk
  have := cK R h1 ((cR (othersI row) y : Int) + 1)
  lia
theorem stays_rises1 {x : Int} (hx : 1 ≤ x) : stays (risesI row) x 20 x = x + cL row x := by
  rw [stays_iter]
  have h7 := cle R x
  have e : cR (risesI row) (x + cL row x) = cL row x := by
    refine cR_eq (rises_up R) (by rw [rises_len R]; exact h7) fun i hi => ?_
    rw [rises_len R] at hi
    rw [rises_at R hi]
    have := cK R hi x
    lia
  refine iter_up (fun a b h => by have := cR_mono (rises_up R) h; lia) (by rw [e]) 20 _ (by lia) (by lia) (fun y hy1 hy2 hf => ?_) (by lia)
  have hk := (cR_iff (rises_up R) y).2 (cR (risesI row) y) (by rw [rises_len R]; lia)
  rw [rises_at R (by lia)] at hk
  have := cK R (k := cR (risesI row) y) (by lia) x
  lia
theorem stays_rises2 {x : Int} (hx : 1 ≤ x) : stays (risesI row) x 20 (x + 7) = x + cL row (x + 1) := by
  rw [stays_iter]
  have h7 := cle R (x + 1)
  have e : cR (risesI row) (x + cL row (x + 1)) = cL row (x + 1) := by
    refine cR_eq (rises_up R) (by rw [rises_len R]; exact h7) fun i hi => ?_
    rw [rises_len R] at hi
    rw [rises_at R hi]
    have := cK R hi (x + 1)
    lia
  have hr := (cR_iff (rises_up R) (x + 7)).1
  rw [rises_len R] at hr
  refine iter_down (fun a b h => by have := cR_mono (rises_up R) h; lia) (by rw [e]) 20 _ (by lia) (by lia) (fun y hy1 hy2 hf => ?_) (by lia)
  have hry := (cR_iff (rises_up R) y).1
  rw [rises_len R] at hry
  have hk := (cR_iff (rises_up R) y).2 (cR (risesI row) y - 1) (by rw [rises_len R]; lia)
  rw [rises_at R (by lia)] at hk
  have := cK R (k := cR (risesI row) y - 1) (by lia) (x + 1)
  lia
/-- together they are all numbers, each once -/
theorem together {s : List Int} (hp : s.Perm (risesI row ++ othersI row)) (hs : s.Pairwise (· ≤ ·)) : s = (List.range (top row + 7)).map fun (i : Nat) => (i : Int) + 1 := by
  have ht := top_eq R
  have hl : s.length = top row + 7 := by rw [hp.length_eq, List.length_append, rises_len R, others_len]; lia
  have hnd : (risesI row ++ othersI row).Nodup := by
    refine List.nodup_append.mpr ⟨?_, ?_, fun a ha b hb => ?_⟩
    · refine List.pairwise_iff_getElem.mpr fun i j hi hj hij => ?_
      have h1 := rises_at R (k := i) (by rw [rises_len R] at hi; exact hi)
      have h2 := rises_at R (k := j) (by rw [rises_len R] at hj; exact hj)
      have := R.up i j (by lia) (by rw [R.len]; rw [rises_len R] at hj; exact hj)
      simp only [List.getD_eq_getElem?_getD, List.getElem?_eq_getElem hi, List.getElem?_eq_getElem hj, Option.getD_some] at h1 h2
      rw [h1, h2]
      simp only [List.getD_eq_getElem?_getD] at this
      lia
    · refine List.pairwise_iff_getElem.mpr fun i j hi hj hij => ?_
      have h1 := others_at (row := row) (k := i) (by rw [others_len] at hi; exact hi)
      have h2 := others_at (row := row) (k := j) (by rw [others_len] at hj; exact hj)
      have := cmono R (x := i + 1) (y := j + 1) (by lia)
      simp only [List.getD_eq_getElem?_getD, List.getElem?_eq_getElem hi, List.getElem?_eq_getElem hj, Option.getD_some] at h1 h2
      rw [h1, h2]
      lia
    · obtain ⟨i, hi, rfl⟩ := List.getElem_of_mem ha
      obtain ⟨j, hj, rfl⟩ := List.getElem_of_mem hb
      have hi' : i < 7 := by rw [rises_len R] at hi; exact hi
      have h1 := rises_at R hi'
      have h2 := others_at (row := row) (k := j) (by rw [others_len] at hj; exact hj)
      have := cK R hi' ((j : Int) + 1)
      simp only [List.getD_eq_getElem?_getD, List.getElem?_eq_getElem hi, List.getElem?_eq_getElem hj, Option.getD_some] at h1 h2
      rw [h1, h2]
      simp only [List.getD_eq_getElem?_getD] at this
      lia
  have hbd : ∀ a ∈ risesI row ++ othersI row, 1 ≤ a ∧ a ≤ (top row : Int) + 7 := fun a ha => by
    rcases List.mem_append.mp ha with ha | ha
    · obtain ⟨i, hi, rfl⟩ := List.getElem_of_mem ha
      have hi' : i < 7 := by rw [rises_len R] at hi; exact hi
      have h1 := rises_at R hi'
      have h2 := R.lo i hi'
      have h3 := R.up i 6 (by lia) (by rw [R.len]; decide)
      simp only [List.getD_eq_getElem?_getD, List.getElem?_eq_getElem hi, Option.getD_some] at h1 h2 h3 ht
      rw [h1]; lia
    · obtain ⟨j, hj, rfl⟩ := List.getElem_of_mem ha
      have hj' : j < top row := by rw [others_len] at hj; exact hj
      have h2 := others_at (row := row) (k := j) hj'
      have := cle R ((j : Int) + 1)
      simp only [List.getD_eq_getElem?_getD, List.getElem?_eq_getElem hj, Option.getD_some] at h2
      rw [h2]; lia
  have hsl : s.Pairwise (· < ·) := by
    have h2 : s.Pairwise (· ≠ ·) := hp.nodup_iff.mpr hnd
    exact (hs.and h2).imp fun ⟨a, b⟩ => by lia
  have hup : ∀ i j (hi : i < s.length) (hj : j < s.length), i ≤ j → s[i] + ((j : Int) - i) ≤ s[j] := by
    intro i j hi hj hij
    obtain ⟨d, rfl⟩ : ∃ d, j = i + d := ⟨j - i, by lia⟩
    induction d with
    | zero => simp
    | succ d ih =>
      have h1 := ih (by lia) (by lia)
      have h2 := List.pairwise_iff_getElem.mp hsl (i + d) (i + (d + 1)) (by lia) hj (by lia)
      push_cast at *; lia
  refine List.ext_getElem (by simp [hl]) fun i h1 h2 => ?_
  have b1 := (hbd _ (hp.mem_iff.mp (List.getElem_mem (show 0 < s.length by lia)))).1
  have b2 := (hbd _ (hp.mem_iff.mp (List.getElem_mem (show s.length - 1 < s.length by lia)))).2
  have g1 := hup 0 i (by lia) h1 (by lia)
  have g2 := hup i (s.length - 1) h1 (by lia) (by lia)
  simp only [List.getElem_map, List.getElem_range]
  lia
end

open PySem PySem.W PySem.Calls PyProof.Rows
set_option maxRecDepth 20000
theorem rangeD_ints : ∀ (m : Nat) (a : Int), rangeD a 1 m = (List.range m).map fun (i : Nat) => D.int (a + i)
  | m, a => by
    refine List.ext_getElem? fun j => ?_
    rcases Nat.lt_or_ge j m with q | q
    · rw [rangeD_get m a 1 j q]; simp [q]
    · rw [List.getElem?_eq_none_iff.mpr (by rw [rangeD_len]; exact q)]; simp [q]
theorem idx_last {row : List Int} (hl : row.length = 7) : idx? (row.map D.int) (-1) = some (.int (row.getD 6 0)) := by
  have h6 : 6 < row.length := by lia
  unfold idx?
  rw [if_neg (by decide), if_pos (by simp [hl])]
  simp [hl, h6]
theorem range_small {a b : Int} (ha : -1000 ≤ a) (ha2 : a ≤ 1000) (hb : -1000 ≤ b) (hb2 : b ≤ 1000) : Builtin.Range.small a b 1 = true := by
  unfold Builtin.Range.small Builtin.Range.rangeSize Builtin.Range.rangeFitsLong
  by_cases h : a < b
  · simp [h]; lia
  · simp [h]; lia
theorem getD_map_range {l : List Int} {m : Nat} (h : l.length = m) : (List.range m).map (fun i => D.int (l.getD i 0)) = l.map .int := by
  refine List.ext_getElem (by simp [h]) fun i h1 h2 => ?_
  have h3 : i < l.length := by simpa using h2
  simp [h3]
theorem range_size {a b : Int} {m : Nat} (h : b = a + m) : Builtin.Range.rangeSize a b 1 = (m : Nat) := by
  unfold Builtin.Range.rangeSize
  subst h
  simp; lia
section
variable {g : G} (hK : g.K = hd.heap_39 g.w.params)
include hK
theorem bisL_call2 {a : D} {row : List Int} {x : Int} {n : Nat} {μ : Mu} {Q : D → Mu → Prop} (hr : Rd μ a (row.map .int)) (hl : row.length ≤ 10000) (h : Q (.int (cL row x : Nat)) μ) :
    Calls g (n + 1) (.val (.ref 50)) [a, .int x] [] μ Q := by
  refine bisL_body hK (p := geAt row x) (lo := 0) (hi := row.length) (hiD := .none) (BB.ok hK (by constructor)) hr (by simp; lia) (by simp) (.inr ⟨rfl, by simp⟩) geAt_ok h
end
section
variable {g : G} (hK : g.K = hd.heap_39 g.w.params) (hT : g.tabs = tabs1)
include hK hT
set_option maxHeartbeats 4000000 in
theorem law_p2 {n : Nat} {μ : Mu} {env : Env} {own : List Addr} {L : Addr} {ρ : Str → Option D} {FR : List (Int × Int)} {cs : List Int} {kd : D} (he : env = callEnvC (lawFd g.w.params) L 76) (ho : own = ownOf (lawFd g.w.params) L)
    (hFl : FR.length = 7) (hFs : FR.Pairwise (fun a b => plt a b = true)) (hFb : ∀ p ∈ FR, 0 ≤ p.1 ∧ p.1 ≤ 12) (h2 : ρ "first" = some (.lst (FR.map pairD))) (h4 : ρ "turned" = some kd) (h1 : ρ "cells" = some (.lst (cs.map .int)))
    (next : ∀ ρ (row : List Int), RowOk row → ρ "turned" = some kd → ρ "cells" = some (.lst (cs.map .int)) → ρ "row" = some (.lst (row.map .int)) → ρ "numbers" = some (.lst ((numbersI row).map .int)) → ρ "backward" = some (.lst (row.reverse.map .int)) →
      ρ "counts" = some (.lst ((countsI row).map .int)) → ρ "rises" = some (.lst ((risesI row).map .int)) → ρ "others" = some (.lst ((othersI row).map .int)) → Ex (g.push env) env own (n + 59) ρ μ ((lawStmts g.w.params).drop 11) QT) :
    Ex (g.push env) env own (n + 59) ρ μ ((lawStmts g.w.params).drop 5) QT := by
  have R : RowOk (FR.map (·.1)) := by
    have hg : ∀ k, k < 7 → (FR.map (·.1)).getD k 0 = (FR.getD k (0, 0)).1 := fun k hk => by
      have : k < FR.length := by lia
      simp [this]
    have hm : ∀ k, k < 7 → FR.getD k (0, 0) ∈ FR := fun k hk => by
      have : k < FR.length := by lia
      simp [this]
    refine ⟨by simp [hFl], fun i j hij hj => ?_, fun k hk => ?_, fun k hk => ?_⟩
    · have hj : j < 7 := by simpa [hFl] using hj
      rw [hg i (by lia), hg j hj]
      exact fst_le (f := id) (fun _ => rfl) hFs hij (by lia)
    · rw [hg k hk]; exact (hFb _ (hm k hk)).1
    · rw [hg k hk]; exact (hFb _ (hm k hk)).2
  refine Ex.seq (fun ρ' M => M = μ ∧ ρ' "row" = some (.lst ((FR.map (·.1)).map .int)) ∧ ρ' "turned" = some kd ∧ ρ' "cells" = some (.lst (cs.map .int))) ?_ ?_
  · walk_at "compS"
    refine EvI.list ?_
    repeat' walk_at "st"
    refine ⟨_, rfl, ?_⟩
    intro cenv C hce
    refine CompL.mapA2 (fun p : Int × Int => D.int p.1) (fun p => D.int p.2) (fun p => D.int p.1) (by walk_at "bind") (by walk_at "bind") _ _ (by simp; lia) (fun p hp Q hQ => ?_) (fun r => ?_)
    · repeat' walk_at "st"
      exact hQ
    · rw [List.nil_append, List.map_map]
      exact ⟨rfl, rfl, upd_same, by walk_at "rho", by walk_at "rho"⟩
  rintro ρ M ⟨rfl, h5, h4, h1⟩
  generalize FR.map (·.1) = row at R h5
  have hR6 := top_eq R
  have hlen := R.len
  refine Ex.seq (fun ρ' M' => M' = M ∧ ρ' "row" = some (.lst (row.map .int)) ∧ ρ' "turned" = some kd ∧ ρ' "cells" = some (.lst (cs.map .int)) ∧ ρ' "numbers" = some (.lst ((numbersI row).map .int)) ∧ ρ' "backward" = some (.lst (row.reverse.map .int))) ?_ ?_
  · refine Ex1.assignS (names := ["numbers", "backward"]) ?_ ?hb ?hw
    case hw => subst he; exact rfl
    case hb => intro x hx; simp only [List.mem_cons, List.not_mem_nil, or_false] at hx; rcases hx with rfl | rfl <;> walk_at "bind"
    repeat' walk_at "st"
    refine Act2.item .lst (idx_last hlen) (by simp; lia) ?_ (fun _ _ => rfl)
    repeat' walk_at "st"
    refine Calls.range2 ?_
    repeat' walk_at "st"
    have h60 := R.lo 6 (by decide)
    have h61 := R.hi 6 (by decide)
    refine Calls.listRange (m := top row) (range_small (by decide) (by decide) (by lia) (by lia)) (range_size (by lia)) (by lia) ?_
    repeat' walk_at "st"
    refine ⟨_, rfl, ?_⟩
    refine Act2.slice .lst (by decide) (by simp; lia) ?_ ops_step
    rw [dpick_rev, ← List.map_reverse]
    repeat' walk_at "st"
    refine ⟨_, rfl, rfl, ?_⟩
    rw [updL2, rangeD_ints, show (List.range (top row)).map (fun (i : Nat) => D.int (1 + (i : Int))) = (numbersI row).map .int by unfold numbersI; rw [List.map_map]; exact List.map_congr_left fun i _ => by simp [Int.add_comm]]
    exact ⟨rfl, rfl, by walk_at "rho", by walk_at "rho", by walk_at "rho", upd_same, by walk_at "rho"⟩
  rintro ρ M' ⟨rfl, h5, h4, h1, h6, h7⟩
  have h60 := R.lo 6 (by decide)
  have h61 := R.hi 6 (by decide)
  have hnl := numbers_len (row := row)
  refine Ex.seq (fun ρ' M => M = M' ∧ ρ' "row" = some (.lst (row.map .int)) ∧ ρ' "turned" = some kd ∧ ρ' "cells" = some (.lst (cs.map .int)) ∧ ρ' "numbers" = some (.lst ((numbersI row).map .int)) ∧ ρ' "backward" = some (.lst (row.reverse.map .int)) ∧ ρ' "counts" = some (.lst ((countsI row).map .int))) ?_ ?_
  · walk_at "compS"
    refine EvI.list ?_
    repeat' walk_at "st"
    refine ⟨_, rfl, ?_⟩
    intro cenv C hce
    refine CompL.mapA D.int (fun x => D.int (cL row x : Nat)) (by walk_at "bind") _ _ (by simp; lia) (fun x hx Q hQ => ?_) (fun r => ?_)
    · repeat' walk_at "st"
      refine bisL_call2 (g := g.push env) hK .lst (by lia) ?_
      repeat' walk_at "st"
      exact hQ
    · rw [List.nil_append, show (List.map (fun x => D.int (cL row x : Nat)) (numbersI row)) = (countsI row).map .int by unfold countsI; rw [List.map_map]; rfl]
      exact ⟨rfl, rfl, by walk_at "rho", by walk_at "rho", by walk_at "rho", by walk_at "rho", by walk_at "rho", upd_same⟩
  rintro ρ M ⟨rfl, h5, h4, h1, h6, h7, h8⟩
  refine Ex.seq (fun ρ' M' => M' = M ∧ ρ' "row" = some (.lst (row.map .int)) ∧ ρ' "turned" = some kd ∧ ρ' "cells" = some (.lst (cs.map .int)) ∧ ρ' "numbers" = some (.lst ((numbersI row).map .int)) ∧ ρ' "backward" = some (.lst (row.reverse.map .int)) ∧ ρ' "counts" = some (.lst ((countsI row).map .int)) ∧
    ρ' "rises" = some (.lst ((risesI row).map .int)) ∧ ρ' "others" = some (.lst ((othersI row).map .int))) ?_ ?_
  · refine Ex1.assignT ?_ rfl (by subst he; exact rfl)
    repeat' walk_at "st"
    walk_at "comp"
    refine EvI.enum ?_
    repeat' walk_at "st"
    refine ⟨rfl, rfl, ?_⟩
    repeat' walk_at "st"
    refine ⟨_, rfl, ?_⟩
    intro cenv C hce
    rw [enumD_ints]
    refine CompL.mapA2 (fun p : Int × Nat => D.int p.2) (fun p => D.int p.1) (fun p => D.int (p.1 + p.2 + 1)) (by walk_at "bind") (by walk_at "bind") _ _ (by simp; lia) (fun p hp Q hQ => ?_) (fun r => ?_)
    · repeat' walk_at "st"
      exact hQ
    rw [List.nil_append, show (List.map (fun p : Int × Nat => D.int (p.1 + p.2 + 1)) row.zipIdx) = (risesI row).map .int by unfold risesI; rw [List.map_map]; rfl]
    repeat' walk_at "st"
    walk_at "comp"
    refine EvI.zip ?_
    repeat' walk_at "st"
    refine ⟨rfl, rfl, rfl, ?_⟩
    repeat' walk_at "st"
    refine ⟨_, _, rfl, rfl, ?_⟩
    intro cenv C hce
    have ez : zipD ((numbersI row).map D.int) ((countsI row).map D.int) = (numbersI row).map fun x => D.tup [D.int x, D.int (cL row x : Nat)] := by
      rw [zipD_map]; unfold countsI
      rw [List.map_map, List.zip_map', List.map_map]; rfl
    rw [ez]
    refine CompL.mapA2 D.int (fun x => D.int (cL row x : Nat)) (fun x => D.int (x + (cL row x : Nat))) (by walk_at "bind") (by walk_at "bind") _ _ (by simp; lia) (fun p hp Q hQ => ?_) (fun r => ?_)
    · repeat' walk_at "st"
      exact hQ
    rw [List.nil_append, show (List.map (fun x => D.int (x + (cL row x : Nat))) (numbersI row)) = (othersI row).map .int by unfold othersI; rw [List.map_map]; rfl]
    repeat' walk_at "st"
    refine .tup (.cons (by walk_at "bind") (.cons (by walk_at "bind") (.nil ?_)))
    exact ⟨rfl, rfl, by walk_at "rho", by walk_at "rho", by walk_at "rho", by walk_at "rho", by walk_at "rho", by walk_at "rho", by walk_at "rho", by walk_at "rho"⟩
  rintro ρ M' ⟨rfl, h5, h4, h1, h6, h7, h8, h9, h10⟩
  have hol := others_len (row := row)
  have hcl := counts_len (row := row)
  have hrl := rises_len R
  refine Ex.skipIf (Et.or ?_) ?_
  · unfold EtAll
    repeat' walk_at "st"
    refine Act2.cat .lst .lst (by simp; lia) ?_
    rw [← List.map_append]
    repeat' walk_at "st"
    refine Calls.sortedInts .lst (by simp; lia) fun s hp hs => ?_
    have es := together R hp hs
    repeat' walk_at "st"
    refine Act2.item .lst (idx_last hlen) (by simp; lia) ?_ (fun _ _ => rfl)
    repeat' walk_at "st"
    refine Calls.range2 ?_
    repeat' walk_at "st"
    refine Calls.listRange (m := top row + 7) (range_small (by decide) (by decide) (by lia) (by lia)) (range_size (by lia)) (by lia) ?_
    refine Act2.neSame ?_ (PyOk.ints.le (by decide)) ?_
    · rw [es, rangeD_ints, List.map_map]
      exact congrArg D.lst (List.map_congr_left fun i _ => by simp [Int.add_comm])
    refine TBool.of (ff_of ?_)
    unfold EtAll
    repeat' walk_at "st"
    walk_at "comp"
    refine EvI.range ?_
    repeat' walk_at "st"
    refine Calls.range2 ?_
    refine ⟨1, 8, 1, 7, rfl, by decide, by decide, ?_⟩
    intro cenv C hce
    rw [rangeD_ints]
    refine CompL.mapA (fun (i : Nat) => D.int (1 + (i : Int))) (fun i => D.int (row.getD i 0)) (by walk_at "bind") _ _ (by decide) (fun i hi Q hQ => ?_) (fun r => ?_)
    · have hi : i < 7 := by simpa using hi
      repeat' walk_at "st"
      refine bisL_call2 (g := g.push env) hK .lst (by lia) ?_
      have e := counts_tell R hi
      rw [Int.add_comm] at e
      rw [e]
      repeat' walk_at "st"
      exact hQ
    rw [List.nil_append, getD_map_range hlen]
    repeat' walk_at "st"
    refine Act2.neSame rfl (PyOk.ints.le (by decide)) ?_
    refine TBool.of (ff_of ?_)
    unfold EtAll
    exact ⟨rfl, rfl⟩
  refine Ex.skipIf (Et.cmp ?_ ?h) ?_
  case h => with_unfolding_all rfl
  · walk_at "comp"
    refine EvI.range ?_
    repeat' walk_at "st"
    refine Calls.range2 ?_
    refine ⟨1, 8, 1, 7, rfl, by decide, by decide, ?_⟩
    intro cenv C hce
    rw [rangeD_ints]
    refine CompL.mapA (fun (i : Nat) => D.int (1 + (i : Int))) (fun i => D.int ((risesI row).getD i 0)) (by walk_at "bind") _ _ (by decide) (fun i hi Q hQ => ?_) (fun r => ?_)
    · have hi : i < 7 := by simpa using hi
      repeat' walk_at "st"
      refine stays_body (g := g.push env) hK .lst (by lia) ?_
      have e := stays_others R hi
      rw [Int.add_comm] at e
      rw [e]
      exact hQ
    rw [List.nil_append, getD_map_range hrl]
    repeat' walk_at "st"
    refine Act2.neSame rfl (PyOk.ints.le (by decide)) ?_
    exact TBool.of ⟨rfl, rfl⟩
  exact next ρ row R h4 h1 h5 h6 h7 h8 h9 h10
end

section
variable {row : List Int} (R : RowOk row)
include R
theorem cR_pred (x : Int) : cR row (x - 1) = cL row x := by
  refine cR_eq R.up (by rw [R.len]; exact cle R x) fun i hi => ?_
  rw [R.len] at hi
  have := cK R hi x
  lia
theorem negs_len : (negs row).length = 7 := by simp [negs, R.len]
theorem negs_at {i : Nat} (hi : i < 7) : (negs row).getD i 0 = -(row.getD (6 - i) 0) := by
  have hl := R.len
  have h1 : i < row.reverse.length := by simp [hl]; exact hi
  have h2 : 6 - i < row.length := by lia
  unfold negs
  have e : row.reverse[i] = row[6 - i] := by rw [List.getElem_reverse]; congr 1; lia
  simp [List.getD_eq_getElem?_getD, hl, hi, e]
  rw [List.getElem?_eq_getElem h2]; rfl
theorem negs_up : Rising (negs row) := fun i j hij hj => by
  rw [negs_len R] at hj
  rw [negs_at R (by lia), negs_at R hj]
  have := R.up (6 - j) (6 - i) (by lia) (by rw [R.len]; lia)
  lia
theorem cR_neg (x : Int) : cR (negs row) (-x) = 7 - cL row x := by
  have h7 := cle R x
  refine cR_eq (negs_up R) (by rw [negs_len R]; lia) fun i hi => ?_
  rw [negs_len R] at hi
  rw [negs_at R hi]
  have := cK R (k := 6 - i) (by lia) x
  lia
theorem cL_neg (x : Int) : cL (negs row) (1 - x) = 7 - cL row x := by
  have h7 := cle R x
  refine cL_eq (negs_up R) (by rw [negs_len R]; lia) fun i hi => ?_
  rw [negs_len R] at hi
  rw [negs_at R hi]
  have := cK R (k := 6 - i) (by lia) x
  lia
omit R in
theorem clampL {l : List Int} (h : Rising l) {x : Int} {lo hi : Nat} (h1 : lo ≤ hi) (h2 : hi ≤ l.length) : bis (geAt l x) lo hi = min (max (cL l x) lo) hi := bis_clamp h1 h2 fun i j a b => geAt_mono h i j a b
omit R in
theorem clampR {l : List Int} (h : Rising l) {x : Int} {lo hi : Nat} (h1 : lo ≤ hi) (h2 : hi ≤ l.length) : bis (gtAt l x) lo hi = min (max (cR l x) lo) hi := bis_clamp h1 h2 fun i j a b => gtAt_mono h i j a b
variable {x : Int} {lo hi : Nat} (h1 : lo ≤ hi) (h2 : hi ≤ 7)
include h1 h2
theorem pl1 : bis (geAt row x) lo hi = min (max (cL row x) lo) hi := clampL R.up h1 (by rw [R.len]; exact h2)
theorem pl2 : bis (gtAt row (x - 1)) lo hi = min (max (cL row x) lo) hi := by rw [clampR R.up h1 (by rw [R.len]; exact h2), cR_pred R]
theorem pl3 : bis (geAt (negs row) (1 - x)) (7 - hi) (7 - lo) = 7 - min (max (cL row x) lo) hi := by
  rw [clampL (negs_up R) (by lia) (by rw [negs_len R]; lia), cL_neg R]
  have := cle R x
  lia
theorem pl4 : bis (gtAt (negs row) (-x)) (7 - hi) (7 - lo) = 7 - min (max (cL row x) lo) hi := by
  rw [clampR (negs_up R) (by lia) (by rw [negs_len R]; lia), cR_neg R]
  have := cle R x
  lia
omit R h1 h2 in
/-- a number laid, as data -/
theorem laidAt {p : Nat} {y : Int} : insAt p (.int y) (row.map .int) = ((row.take p ++ [y]) ++ row.drop p).map D.int := by
  unfold insAt; simp [List.map_take, List.map_drop]
omit h1 h2 in
theorem laidRev {p : Nat} (hp : p ≤ 7) {y : Int} : insAt (7 - p) (.int y) (row.reverse.map .int) = (((row.take p ++ [y]) ++ row.drop p).reverse).map D.int := by
  have hl := R.len
  unfold insAt
  rw [List.reverse_append, List.reverse_append]
  have e1 : (row.drop p).reverse = row.reverse.take (7 - p) := by rw [List.reverse_drop, hl]
  have e2 : (row.take p).reverse = row.reverse.drop (7 - p) := by rw [List.reverse_take, hl]
  rw [e1, e2]
  simp [List.map_take, List.map_drop]
end

open PySem PySem.W PySem.Calls PyProof.Rows
set_option maxRecDepth 20000
section
variable {g : G} (hK : g.K = hd.heap_39 g.w.params) (hT : g.tabs = tabs1)
include hK hT
set_option maxHeartbeats 4000000 in
theorem law_p3 {n : Nat} {μ : Mu} {env : Env} {own : List Addr} {L : Addr} {ρ : Str → Option D} {row cs : List Int} {kd : D} (he : env = callEnvC (lawFd g.w.params) L 76) (ho : own = ownOf (lawFd g.w.params) L)
    (hcs : cs.length = 8) (h1 : ρ "cells" = some (.lst (cs.map .int))) (h2 : ρ "row" = some (.lst (row.map .int))) (h3 : ρ "turned" = some kd) (h4 : ρ "numbers" = some (.lst ((numbersI row).map .int))) (h5 : ρ "backward" = some (.lst (row.reverse.map .int)))
    (h6 : ρ "counts" = some (.lst ((countsI row).map .int))) (h7 : ρ "rises" = some (.lst ((risesI row).map .int))) (h8 : ρ "others" = some (.lst ((othersI row).map .int)))
    (next : ∀ ρ (lo hi : Nat), lo ≤ hi → hi ≤ 7 → ρ "row" = some (.lst (row.map .int)) → ρ "turned" = some kd → ρ "numbers" = some (.lst ((numbersI row).map .int)) → ρ "backward" = some (.lst (row.reverse.map .int)) → ρ "counts" = some (.lst ((countsI row).map .int)) →
      ρ "rises" = some (.lst ((risesI row).map .int)) → ρ "others" = some (.lst ((othersI row).map .int)) → ρ "low" = some (.int lo) → ρ "high" = some (.int hi) → Ex (g.push env) env own (n + 59) ρ μ ((lawStmts g.w.params).drop 12) QT) :
    Ex (g.push env) env own (n + 59) ρ μ ((lawStmts g.w.params).drop 11) QT := by
  have l0 := Int.fmod_nonneg_of_pos (cs.getD 7 0) (show (0 : Int) < 8 by decide)
  have l1 := Int.fmod_lt_of_pos (cs.getD 7 0) (show (0 : Int) < 8 by decide)
  generalize hlo : (cs.getD 7 0).fmod 8 = lo at l0 l1
  have l2 := Int.fmod_nonneg_of_pos ((cs.getD 7 0).fdiv 8) (show (0 : Int) < 8 - lo by omega)
  have l3 := Int.fmod_lt_of_pos ((cs.getD 7 0).fdiv 8) (show (0 : Int) < 8 - lo by omega)
  generalize hhi : ((cs.getD 7 0).fdiv 8).fmod (8 - lo) = hi at l2 l3
  have i7 : idx? (cs.map D.int) 7 = some (.int (cs.getD 7 0)) := by
    have h7 : 7 < cs.length := by omega
    rw [show (7 : Int) = ((7 : Nat) : Int) from rfl, idx?_nat]; simp [h7]
  refine Ex.seq (fun ρ' M => M = μ ∧ ρ' "row" = some (.lst (row.map .int)) ∧ ρ' "turned" = some kd ∧ ρ' "numbers" = some (.lst ((numbersI row).map .int)) ∧ ρ' "backward" = some (.lst (row.reverse.map .int)) ∧ ρ' "counts" = some (.lst ((countsI row).map .int)) ∧
      ρ' "rises" = some (.lst ((risesI row).map .int)) ∧ ρ' "others" = some (.lst ((othersI row).map .int)) ∧ ρ' "low" = some (.int lo) ∧ ρ' "high" = some (.int (lo + hi))) ?_ ?_
  · first
      | refine Ex1.assignT ?_ rfl (by subst he; exact rfl)
      | refine Ex1.assignS (names := ["low", "high"]) ?_ (by intro x hx; simp only [List.mem_cons, List.not_mem_nil, or_false] at hx; rcases hx with rfl | rfl <;> walk_at "bind") (by subst he; exact rfl)
    repeat' walk_at "st"
    refine Act2.item .lst i7 (by simp; omega) ?_ (fun _ _ => rfl)
    repeat' walk_at "st"
    refine Act2.item .lst i7 (by simp; omega) ?_ (fun _ _ => rfl)
    repeat' walk_at "st"
    refine Act2.item .lst i7 (by simp; omega) ?_ (fun _ _ => rfl)
    repeat' walk_at "st"
    refine Act2.item .lst i7 (by simp; omega) ?_ (fun _ _ => rfl)
    repeat' walk_at "st"
    rw [hlo]
    refine Act2.mod (by omega) ?_
    rw [hhi]
    repeat' walk_at "st"
    first
      | (refine .tup (.cons (by walk_at "bind") (.cons (by walk_at "bind") (.nil ?_))); exact ⟨rfl, rfl, by walk_at "rho", by walk_at "rho", by walk_at "rho", by walk_at "rho", by walk_at "rho", by walk_at "rho", by walk_at "rho", by walk_at "rho", by walk_at "rho"⟩)
      | (refine ⟨_, rfl, rfl, ?_⟩; rw [updL2]; exact ⟨rfl, rfl, by walk_at "rho", by walk_at "rho", by walk_at "rho", by walk_at "rho", by walk_at "rho", by walk_at "rho", by walk_at "rho", by walk_at "rho", by walk_at "rho"⟩)
  rintro ρ M ⟨rfl, a1, a2, a3, a4, a5, a6, a7, a8, a9⟩
  obtain ⟨lN, rfl⟩ : ∃ k : Nat, lo = k := ⟨lo.toNat, by omega⟩
  obtain ⟨hN, hhN⟩ : ∃ k : Nat, (lN : Int) + hi = k := ⟨(lN + hi).toNat, by omega⟩
  rw [hhN] at a9
  exact next ρ lN hN (by omega) (by omega) a1 a2 a3 a4 a5 a6 a7 a8 a9
end

open PySem PySem.W PySem.Calls PyProof.Rows
set_option maxRecDepth 20000
theorem PyOk.ints2 {a b : Int} : PyOk 20 (.lst [.int a, .int b]) := (PyOk.ints (l := [a, b])).le (by decide)
theorem PyOk.ints3 {a b c : Int} : PyOk 20 (.lst [.int a, .int b, .int c]) := (PyOk.ints (l := [a, b, c])).le (by decide)
theorem PyOk.ints4 {a b c d : Int} : PyOk 20 (.lst [.int a, .int b, .int c, .int d]) := (PyOk.ints (l := [a, b, c, d])).le (by decide)
theorem same2 {a b a' b' : Int} (h1 : a = a') (h2 : b = b') : D.lst ([a, b].map .int) = D.lst ([a', b'].map .int) := by rw [h1, h2]
theorem same3 {a b c a' b' c' : Int} (h1 : a = a') (h2 : b = b') (h3 : c = c') : D.lst ([a, b, c].map .int) = D.lst ([a', b', c'].map .int) := by rw [h1, h2, h3]
theorem same4 {a b c d a' b' c' d' : Int} (h1 : a = a') (h2 : b = b') (h3 : c = c') (h4 : d = d') : D.lst ([a, b, c, d].map .int) = D.lst ([a', b', c', d'].map .int) := by rw [h1, h2, h3, h4]
/-- a row with a number laid in -/
def laidL (row : List Int) (pl : Nat) (y : Int) : List Int := (row.take pl ++ [y]) ++ row.drop pl
theorem laids_eq {row : List Int} (R : RowOk row) {x : Int} {lo hi pl : Nat} (hpl : pl ≤ 7) (p1 : bis (geAt row x) lo hi = pl) (p2 : bis (gtAt row (x - 1)) lo hi = pl) (p3 : bis (geAt (negs row) (1 - x)) (7 - hi) (7 - lo) = 7 - pl) (p4 : bis (gtAt (negs row) (-x)) (7 - hi) (7 - lo) = 7 - pl) :
    laids row x lo hi = .lst [.lst [.none, .none, .none, .none], .lst ([x - 1, x].map fun y => D.lst ((laidL row pl y).map D.int)), .lst ([x - 1, x].map fun y => D.lst ((laidL row pl y).reverse.map D.int))] := by
  unfold laids laidL
  rw [show -(x - 1) = 1 - x by lia, p1, p2, p3, p4, laidAt, laidAt, laidRev R hpl, laidRev R hpl]
  rfl
theorem PyOk.laids {l1 l2 l3 l4 : List Int} : PyOk 20 (.lst [.lst [.none, .none, .none, .none], .lst [.lst (l1.map .int), .lst (l2.map .int)], .lst [.lst (l3.map .int), .lst (l4.map .int)]]) := by
  refine PyOk.le (k := 3) (PyOk.lst fun d hd => ?_) (by decide)
  simp only [List.mem_cons, List.not_mem_nil, or_false] at hd
  rcases hd with rfl | rfl | rfl
  · refine PyOk.lst fun d hd => ?_
    simp only [List.mem_cons, List.not_mem_nil, or_false, or_self] at hd
    subst hd; exact .none
  all_goals
    refine PyOk.lst fun d hd => ?_
    simp only [List.mem_cons, List.not_mem_nil, or_false] at hd
    rcases hd with rfl | rfl <;> exact PyOk.ints
section
variable {g : G} (hK : g.K = hd.heap_39 g.w.params) (hT : g.tabs = tabs1)
include hK hT
set_option maxHeartbeats 8000000 in
theorem law_p4 {n : Nat} {μ : Mu} {env : Env} {own : List Addr} {L : Addr} {ρ : Str → Option D} {row : List Int} {kd : D} {lo hi : Nat} (he : env = callEnvC (lawFd g.w.params) L 76) (ho : own = ownOf (lawFd g.w.params) L)
    (R : RowOk row) (hlh : lo ≤ hi) (hh : hi ≤ 7) (hkd : NegKey (g.push env) kd) (h2 : ρ "row" = some (.lst (row.map .int))) (h3 : ρ "turned" = some kd) (h4 : ρ "numbers" = some (.lst ((numbersI row).map .int))) (h5 : ρ "backward" = some (.lst (row.reverse.map .int)))
    (h6 : ρ "counts" = some (.lst ((countsI row).map .int))) (h7 : ρ "rises" = some (.lst ((risesI row).map .int))) (h8 : ρ "others" = some (.lst ((othersI row).map .int))) (h9 : ρ "low" = some (.int lo)) (h10 : ρ "high" = some (.int hi))
    (next : ∀ ρ, ρ "row" = some (.lst (row.map .int)) → Ex (g.push env) env own (n + 59) ρ μ ((lawStmts g.w.params).drop 13) QT) :
    Ex (g.push env) env own (n + 59) ρ μ ((lawStmts g.w.params).drop 12) QT := by
  have hlen := R.len
  have htop := top_eq R
  have h60 := R.lo 6 (by decide)
  have h61 := R.hi 6 (by decide)
  have hol := others_len (row := row)
  have hrl := rises_len R
  have hnl := numbers_len (row := row)
  have ez : zipD ((numbersI row).map D.int) ((countsI row).map D.int) = (numbersI row).map fun x => D.tup [D.int x, D.int (cL row x : Nat)] := by
    rw [zipD_map]; unfold countsI
    rw [List.map_map, List.zip_map', List.map_map]; rfl
  have hnum : ∀ x ∈ numbersI row, 1 ≤ x ∧ x ≤ top row := fun x hx => by
    obtain ⟨i, hi, rfl⟩ := List.mem_map.mp hx
    have := List.mem_range.mp hi
    lia
  have hlast : ∀ x : Int, 1 ≤ x → x ≤ top row → idx? ((othersI row).map D.int ++ [D.int (row.getD 6 0 + 11)]) x = some (.int (x + cL row (x + 1) + 1)) := fun x hx1 hx2 => by
    obtain ⟨k, rfl⟩ : ∃ k : Nat, x = k := ⟨x.toNat, by lia⟩
    rw [idx?_nat]
    rcases Nat.lt_or_ge k (top row) with q | q
    · rw [List.getElem?_append_left (by simp; lia)]
      have := others_at (row := row) q
      have hk : k < (othersI row).length := by lia
      simp only [List.getD_eq_getElem?_getD, List.getElem?_eq_getElem hk, Option.getD_some] at this
      rw [List.getElem?_map, List.getElem?_eq_getElem hk, this]
      show some (D.int _) = some (D.int _)
      congr 2; lia
    · obtain rfl : k = top row := by lia
      rw [List.getElem?_append_right (by simp; lia)]
      have e7 : cL row ((top row : Int) + 1) = 7 := by
        have := cK R (k := 6) (by decide) ((top row : Int) + 1)
        have := cle R ((top row : Int) + 1)
        lia
      rw [List.length_map, hol, Nat.sub_self, e7]
      show some (D.int _) = some (D.int _)
      congr 2; lia
  refine Ex.cons (Ex1.for (by lia) (EvI.zip ?_))
  repeat' walk_at "st"
  refine ⟨rfl, rfl, rfl, ?_⟩
  repeat' walk_at "st"
  refine ⟨_, _, rfl, rfl, ?_⟩
  rw [ez]
  refine ForL.run (I := fun ds ρ M => ∃ xs : List Int, (∀ x ∈ xs, 1 ≤ x ∧ x ≤ top row) ∧ ds = (xs.map fun x => D.tup [D.int x, D.int (cL row x : Nat)]) ∧ M = μ ∧ ρ "row" = some (.lst (row.map .int)) ∧ ρ "turned" = some kd ∧ ρ "backward" = some (.lst (row.reverse.map .int)) ∧
      ρ "rises" = some (.lst ((risesI row).map .int)) ∧ ρ "others" = some (.lst ((othersI row).map .int)) ∧ ρ "low" = some (.int lo) ∧ ρ "high" = some (.int hi)) ?_ ?_ _ ⟨_, hnum, rfl, rfl, h2, h3, h5, h7, h8, h9, h10⟩
  · rintro d ds ρ M ⟨xs, hxs, hds, rfl, h2, h3, h5, h7, h8, h9, h10⟩
    cases xs with
    | nil => cases hds
    | cons x xs =>
      obtain ⟨rfl, rfl⟩ : d = D.tup [D.int x, D.int (cL row x : Nat)] ∧ ds = xs.map fun x => D.tup [D.int x, D.int (cL row x : Nat)] := by simpa using hds
      have hx := hxs x (.head _)
      have h7c := cle R x
      have e1 : bis (gtAt (negs row) (-x)) 0 7 = 7 - cL row x := by have := cR_neg R x; unfold cR at this; rwa [negs_len R] at this
      have e2 : bis (geAt (negs row) (1 - x)) 0 7 = 7 - cL row x := by have := cL_neg R x; unfold cL at this; rwa [negs_len R] at this
      have q1 := pl1 R (x := x) (lo := lo) (hi := 7) (by lia) (by lia)
      have q2 := pl2 R (x := x) (lo := lo) (hi := 7) (by lia) (by lia)
      have q3 := pl1 R (x := x) (lo := 0) (hi := hi) (by lia) (by lia)
      have q4 := pl2 R (x := x) (lo := 0) (hi := hi) (by lia) (by lia)
      have p1 := pl1 R (x := x) hlh hh
      have p2 := pl2 R (x := x) hlh hh
      have p3 := pl3 R (x := x) hlh hh
      have p4 := pl4 R (x := x) hlh hh
      have i1 : (7 : Int) - (hi : Int) = ((7 - hi : Nat) : Int) := by lia
      have i2 : (7 : Int) - (lo : Int) = ((7 - lo : Nat) : Int) := by lia
      refine .tup (.cons (by walk_at "bind") (.cons (by walk_at "bind") (.nil ?_)))
      refine Ex.skipIf (Et.cmp ?_ ?h) ?_
      case h => with_unfolding_all rfl
      · refine Ev.list ?_
        repeat' walk_at "st"
        refine stays_body (g := g.push env) hK .lst (by lia) ?_
        rw [stays_rises1 R hx.1]
        repeat' walk_at "st"
        refine stays_body (g := g.push env) hK .lst (by lia) ?_
        rw [stays_rises2 R hx.1]
        repeat' walk_at "st"
        refine Ev.list ?_
        repeat' walk_at "st"
        refine Ev.list ?_
        repeat' walk_at "st"
        refine Act2.item .lst (idx_last hlen) (by simp; lia) ?_ (fun _ _ => rfl)
        repeat' walk_at "st"
        refine Act2.cat .lst .lst (by simp; lia) ?_
        repeat' walk_at "st"
        refine Act2.item .lst (hlast x hx.1 hx.2) (by simp; lia) ?_ (fun _ _ => rfl)
        repeat' walk_at "st"
        refine Act2.neSame (same2 rfl (by lia)) PyOk.ints2 ?_
        exact TBool.of ⟨rfl, rfl⟩
      -- without a stretch
      refine Ex.skipIf (Et.cmp ?_ ?h) ?_
      case h => with_unfolding_all rfl
      · refine Ev.list ?_
        repeat' walk_at "st"
        refine bisR_call2 (g := g.push env) hK .lst (by lia) ?_
        rw [show bis (gtAt row (x - 1)) 0 row.length = cL row x from cR_pred R x]
        repeat' walk_at "st"
        refine bisRk_body (g := g.push env) hK (p := gtAt (negs row) (-x)) (lo := 0) (hi := 7) (BB.ok hK (by constructor)) .lst (by simp; lia) (by simp [hlen]) (.inr ⟨rfl, by simp [hlen]⟩) hkd.isn hkd.keep (fun i d hd => ?_) ?_
        · obtain ⟨y, rfl, hy⟩ := neg_at hd
          exact ⟨.int (-y), hkd.key _ _, by unfold gtAt; rw [hy]; exact LtOk.int⟩
        rw [e1]
        repeat' walk_at "st"
        refine bisLk_body (g := g.push env) hK (p := geAt (negs row) (1 - x)) (lo := 0) (hi := 7) (BB.ok hK (by constructor)) .lst (by simp; lia) (by simp [hlen]) (.inr ⟨rfl, by simp [hlen]⟩) hkd.isn hkd.keep (fun i d hd => ?_) ?_
        · obtain ⟨y, rfl, hy⟩ := neg_at hd
          exact ⟨.int (-y), hkd.key _ _, by unfold geAt; rw [hy, Bool.not_not]; exact LtOk.int⟩
        rw [e2]
        repeat' walk_at "st"
        refine Ev.list ?_
        repeat' walk_at "st"
        refine Act2.rep .lst (by decide) (by simp) (by decide) ?_
        refine Act2.neSame (same3 rfl (by lia) (by lia)) PyOk.ints3 ?_
        exact TBool.of ⟨rfl, rfl⟩
      -- from the stretch's beginning on, up to its end
      refine Ex.skipIf (Et.cmp ?_ ?h) ?_
      case h => with_unfolding_all rfl
      · refine Ev.list ?_
        repeat' walk_at "st"
        refine bisL_body (g := g.push env) hK (p := geAt row x) (lo := lo) (hi := 7) (BB.ok hK (by constructor)) .lst (by simp; lia) (by simp [hlen]) (.inr ⟨rfl, by simp [hlen]⟩) geAt_ok ?_
        rw [q1]
        repeat' walk_at "st"
        refine bisR_body (g := g.push env) hK (p := gtAt row (x - 1)) (lo := lo) (hi := 7) (BB.ok hK (by constructor)) .lst (by simp; lia) (by simp [hlen]) (.inr ⟨rfl, by simp [hlen]⟩) gtAt_ok ?_
        rw [q2]
        repeat' walk_at "st"
        refine bisL_body (g := g.push env) hK (p := geAt row x) (lo := 0) (hi := hi) (BB.ok hK (by constructor)) .lst (by simp; lia) (by simp [hlen]; lia) (.inl rfl) geAt_ok ?_
        rw [q3]
        repeat' walk_at "st"
        refine bisR_body (g := g.push env) hK (p := gtAt row (x - 1)) (lo := 0) (hi := hi) (BB.ok hK (by constructor)) .lst (by simp; lia) (by simp [hlen]; lia) (.inl rfl) gtAt_ok ?_
        rw [q4]
        repeat' walk_at "st"
        refine Ev.list ?_
        repeat' walk_at "st"
        refine Calls.max2 ?_
        repeat' walk_at "st"
        refine Act2.rep .lst (by decide) (by simp) (by decide) ?_
        repeat' walk_at "st"
        refine Ev.list ?_
        repeat' walk_at "st"
        refine Calls.min2 ?_
        repeat' walk_at "st"
        refine Act2.rep .lst (by decide) (by simp) (by decide) ?_
        refine Act2.cat .lst .lst (by simp) ?_
        refine Act2.neSame (same4 (by lia) (by lia) (by lia) (by lia)) PyOk.ints4 ?_
        exact TBool.of ⟨rfl, rfl⟩
      -- the place within the stretch
      refine Ex.seq (fun ρ' M' => M' = M ∧ ρ' = upd (upd (upd ρ "number" (.int x)) "count" (.int (cL row x : Nat))) "place" (.int (min (max (cL row x) lo) hi : Nat))) ?_ ?_
      · repeat' walk_at "st"
        refine Calls.max2 ?_
        repeat' walk_at "st"
        refine Calls.min2 ?_
        refine ⟨rfl, rfl, ?_⟩
        congr 2
        lia
      rintro ρ' M' ⟨rfl, rfl⟩
      obtain ⟨pl, hpl⟩ : ∃ pl, pl = min (max (cL row x) lo) hi := ⟨_, rfl⟩
      have hpl7 : pl ≤ 7 := by lia
      rw [← hpl] at p1 p2 p3 p4 ⊢
      refine Ex.skipIf (Et.cmp ?_ ?h) ?_
      case h => with_unfolding_all rfl
      · refine Ev.list ?_
        repeat' walk_at "st"
        refine bisL_body (g := g.push env) hK (p := geAt row x) (lo := lo) (hi := hi) (BB.ok hK (by constructor)) .lst (by simp; lia) (by simp [hlen]; lia) (.inl rfl) geAt_ok ?_
        rw [p1]
        repeat' walk_at "st"
        refine bisR_body (g := g.push env) hK (p := gtAt row (x - 1)) (lo := lo) (hi := hi) (BB.ok hK (by constructor)) .lst (by simp; lia) (by simp [hlen]; lia) (.inl rfl) gtAt_ok ?_
        rw [p2]
        repeat' walk_at "st"
        refine Ev.list ?_
        repeat' walk_at "st"
        refine Act2.rep .lst (by decide) (by simp) (by decide) ?_
        refine Act2.neSame (same2 rfl rfl) PyOk.ints2 ?_
        exact TBool.of ⟨rfl, rfl⟩
      -- the same of the row turned round
      refine Ex.skipIf (Et.cmp ?_ ?h) ?_
      case h => with_unfolding_all rfl
      · refine Ev.list ?_
        repeat' walk_at "st"
        rw [i1, i2]
        refine bisLk_body (g := g.push env) hK (p := geAt (negs row) (1 - x)) (lo := 7 - hi) (hi := 7 - lo) (BB.ok hK (by constructor)) .lst (by simp; lia) (by simp [hlen]) (.inl rfl) hkd.isn hkd.keep (fun i d hd => ?_) ?_
        · obtain ⟨y, rfl, hy⟩ := neg_at hd
          exact ⟨.int (-y), hkd.key _ _, by unfold geAt; rw [hy, Bool.not_not]; exact LtOk.int⟩
        rw [p3]
        repeat' walk_at "st"
        rw [i1, i2]
        refine bisRk_body (g := g.push env) hK (p := gtAt (negs row) (-x)) (lo := 7 - hi) (hi := 7 - lo) (BB.ok hK (by constructor)) .lst (by simp; lia) (by simp [hlen]) (.inl rfl) hkd.isn hkd.keep (fun i d hd => ?_) ?_
        · obtain ⟨y, rfl, hy⟩ := neg_at hd
          exact ⟨.int (-y), hkd.key _ _, by unfold gtAt; rw [hy]; exact LtOk.int⟩
        rw [p4]
        repeat' walk_at "st"
        refine Ev.list ?_
        repeat' walk_at "st"
        refine Act2.rep .lst (by decide) (by simp) (by decide) ?_
        refine Act2.neSame (same2 (by lia) (by lia)) PyOk.ints2 ?_
        exact TBool.of ⟨rfl, rfl⟩
      -- laid
      refine Ex.seq (fun ρ' M => M = M' ∧ ρ' = upd (upd (upd (upd ρ "number" (.int x)) "count" (.int (cL row x : Nat))) "place" (.int (pl : Nat))) "laid" (.lst ([x - 1, x].map fun y => D.lst ((laidL row pl y).map D.int)))) ?_ ?_
      · walk_at "compS"
        refine EvI.list (Ev.list ?_)
        repeat' walk_at "st"
        refine ⟨_, rfl, ?_⟩
        intro cenv C hce
        refine CompL.mapA (xs := [x - 1, x]) D.int (fun y => D.lst ((laidL row pl y).map D.int)) (by walk_at "bind") _ (by show 0 + 2 ≤ 100000; decide) (fun y _ Q hQ => ?_) (fun r => ?_)
        · repeat' walk_at "st"
          refine ⟨_, rfl, ?_⟩
          refine Act2.slice .lst (by decide) (by simp; lia) ?_ ops_plain
          rw [dpick_upto, ← List.map_take]
          repeat' walk_at "st"
          refine Ev.list ?_
          repeat' walk_at "st"
          refine Act2.cat .lst .lst (by simp; lia) ?_
          repeat' walk_at "st"
          refine ⟨_, rfl, ?_⟩
          repeat' walk_at "st"
          refine Act2.slice .lst (by decide) (by simp; lia) ?_ ops_plain
          rw [dpick_from, ← List.map_drop]
          refine Act2.cat .lst .lst (by simp; lia) ?_
          rw [show (List.map D.int (row.take pl) ++ [D.int y]) ++ List.map D.int (row.drop pl) = (laidL row pl y).map D.int by unfold laidL; simp]
          exact hQ
        · exact ⟨rfl, rfl, rfl⟩
      rintro ρ' M ⟨rfl, rfl⟩
      refine Ex.skipIf (Et.cmp ?_ ?h) ?_
      case h => with_unfolding_all rfl
      · repeat' walk_at "st"
        refine laid_body (g := g.push env) hK hT .lst hlen hlh hh ?_
        rw [laids_eq R hpl7 p1 p2 p3 p4]
        refine Ev.list ?_
        repeat' walk_at "st"
        refine Ev.list ?_
        repeat' walk_at "st"
        refine Act2.rep .lst (by decide) (by simp) (by decide) ?_
        repeat' walk_at "st"
        walk_at "comp"
        refine EvI.list ?_
        repeat' walk_at "st"
        refine ⟨_, rfl, ?_⟩
        intro cenv C hce
        refine CompL.mapA (xs := [x - 1, x]) (fun y => D.lst ((laidL row pl y).map D.int)) (fun y => D.lst ((laidL row pl y).reverse.map D.int)) (by walk_at "bind") _ (by show 0 + 2 ≤ 100000; decide) (fun y _ Q hQ => ?_) (fun r => ?_)
        · repeat' walk_at "st"
          refine ⟨_, rfl, ?_⟩
          refine Act2.slice .lst (by decide) (by unfold laidL; simp; lia) ?_ ops_step
          rw [dpick_rev, ← List.map_reverse]
          exact hQ
        repeat' walk_at "st"
        refine Act2.neSame rfl PyOk.laids ?_
        exact TBool.of ⟨rfl, rfl⟩
      refine Ex.nil ?_
      exact ⟨xs, fun y hy => hxs y (.tail _ hy), rfl, rfl, by walk_at "rho", by walk_at "rho", by walk_at "rho", by walk_at "rho", by walk_at "rho", by walk_at "rho", by walk_at "rho"⟩
  · rintro ρ M ⟨xs, hxs, hds, rfl, h2, h3, h5, h7, h8, h9, h10⟩
    exact next_of (next ρ h2)
end

def insI (k : Nat) (x : Int) (l : List Int) : List Int := l.take k ++ x :: l.drop k
theorem insI_perm {k x l} : (insI k x l).Perm (x :: l) := by
  unfold insI
  have h := List.perm_middle (a := x) (l₁ := l.take k) (l₂ := l.drop k)
  rwa [List.take_append_drop] at h
theorem insI_sorted {k : Nat} {x : Int} {l : List Int} (hl : l.Pairwise (· ≤ ·)) (h1 : ∀ i, i < k → i < l.length → l.getD i 0 ≤ x) (h2 : ∀ i, k ≤ i → i < l.length → x ≤ l.getD i 0) : (insI k x l).Pairwise (· ≤ ·) := by
  unfold insI
  have ht : ∀ a ∈ l.take k, a ≤ x := fun a ha => by
    obtain ⟨i, hi, rfl⟩ := List.getElem_of_mem ha
    rw [List.getElem_take]
    simp only [List.length_take] at hi
    have := h1 i (by lia) (by lia)
    have hi' : i < l.length := by lia
    simpa [hi'] using this
  have hd : ∀ a ∈ l.drop k, x ≤ a := fun a ha => by
    obtain ⟨i, hi, rfl⟩ := List.getElem_of_mem ha
    rw [List.getElem_drop]
    simp only [List.length_drop] at hi
    have := h2 (k + i) (by lia) (by lia)
    have hi' : k + i < l.length := by lia
    simpa [hi'] using this
  refine List.pairwise_append.mpr ⟨hl.sublist (List.take_sublist _ _), List.pairwise_cons.mpr ⟨hd, hl.sublist (List.drop_sublist _ _)⟩, fun a ha b hb => ?_⟩
  rcases List.mem_cons.mp hb with rfl | hb
  · exact ht a ha
  · exact Int.le_trans (ht a ha) (hd b hb)
theorem pairwise_of {l : List Int} (h : Rising l) : l.Pairwise (· ≤ ·) := List.pairwise_iff_getElem.mpr fun i j hi hj hij => by
  have := h i j (by lia) hj
  simpa [hi, hj] using this
theorem cR_count {l : List Int} (h : l.Pairwise (· ≤ ·)) (x : Int) : cR l x = l.countP (fun a => decide (a ≤ x)) := by
  have := bis_count h (fun a => decide (x < a)) (fun a b hab ha => by simp only [decide_eq_true_eq] at *; lia)
  refine Eq.trans this (List.countP_congr fun a _ => ?_)
  simp
theorem cL_count {l : List Int} (h : l.Pairwise (· ≤ ·)) (x : Int) : cL l x = l.countP (fun a => decide (a < x)) := by
  have := bis_count h (fun a => !decide (a < x)) (fun a b hab ha => by simp only [Bool.not_eq_true', decide_eq_false_iff_not] at *; lia)
  refine Eq.trans this (List.countP_congr fun a _ => ?_)
  simp
theorem cnt0 : ∀ {l : List Int}, (∀ a ∈ l, 0 ≤ a) → l.countP (fun a => decide (a ≤ 0)) = l.count 0
  | [], _ => rfl
  | a :: l, h => by
    have ih := cnt0 fun b hb => h b (.tail _ hb)
    have ha := h a (.head _)
    rw [List.countP_cons, List.count_cons, ih]
    congr 1
    by_cases e : a = 0
    · subst e; rfl
    · have : ¬ a ≤ 0 := by lia
      simp [e, this]
theorem cnt1 : ∀ {l : List Int}, (∀ a ∈ l, 0 ≤ a) → l.countP (fun a => decide (a ≤ 1)) = l.count 0 + l.count 1
  | [], _ => rfl
  | a :: l, h => by
    have ih := cnt1 fun b hb => h b (.tail _ hb)
    have ha := h a (.head _)
    rw [List.countP_cons, List.count_cons, List.count_cons, ih]
    by_cases e : a = 0
    · subst e; simp; lia
    · by_cases e1 : a = 1
      · subst e1; simp; lia
      · have : ¬ a ≤ 1 := by lia
        simp [e, e1, this]
theorem cntL0 : ∀ {l : List Int}, (∀ a ∈ l, 0 ≤ a) → l.countP (fun a => decide (a < 0)) = 0 := fun h => List.countP_eq_zero.mpr fun a ha => by have := h a ha; simp; lia
theorem cntL1 {l : List Int} : l.countP (fun a => decide (a < 1)) = l.countP (fun a => decide (a ≤ 0)) := List.countP_congr fun a _ => by simp; lia

/-! numbers and flags side by side -/
def numD : D → Int
  | .bool b => numB b
  | .int i => i
  | _ => 0
def isNum : D → Bool
  | .bool _ => true
  | .int _ => true
  | _ => false
def isFlag : D → Bool
  | .bool _ => true
  | _ => false
theorem insAt_num {k d ds} : (insAt k d ds).map numD = insI k (numD d) (ds.map numD) := by unfold insAt insI; simp [List.map_take, List.map_drop]
theorem insAt_mem {k d ds x} (h : x ∈ insAt k d ds) : x = d ∨ x ∈ ds := by
  unfold insAt at h
  rcases List.mem_append.mp h with h | h
  · exact .inr (List.mem_of_mem_take h)
  · rcases List.mem_cons.mp h with h | h
    · exact .inl h
    · exact .inr (List.mem_of_mem_drop h)
/-- where the flags stand -/
theorem zipIdx_flags : ∀ (l : List Int) (k : Nat) , ((l.map D.int).zipIdx k).filter (fun p => isFlag p.1) = []
  | [], k => rfl
  | a :: l, k => by
    rw [List.map_cons, List.zipIdx_cons, List.filter_cons]
    simp only [isFlag, Bool.false_eq_true, if_false]
    exact zipIdx_flags l (k + 1)
theorem flags_at (A B C : List Int) (a b : Bool) : (((A.map D.int ++ .bool a :: (B.map D.int ++ .bool b :: C.map D.int)).zipIdx).filter (fun p => isFlag p.1)).map (fun p => D.int (p.2 : Nat)) = [D.int (A.length : Nat), D.int ((A.length + 1 + B.length : Nat))] := by
  rw [List.zipIdx_append, List.filter_append, zipIdx_flags, List.nil_append, List.zipIdx_cons, List.filter_cons_of_pos (by rfl),
    List.zipIdx_append, List.filter_append, zipIdx_flags, List.nil_append, List.zipIdx_cons, List.filter_cons_of_pos (by rfl), zipIdx_flags]
  simp only [List.map_cons, List.map_nil, List.length_map, Nat.zero_add]
/-- both laid in: the later flag behind the sooner one -/
theorem two_in {l : List Int} {z a : Nat} (h : z ≤ a) (ha : a ≤ l.length) (p q : Bool) : insAt (a + 1) (.bool q) (insAt z (.bool p) (l.map D.int)) = (l.take z).map D.int ++ .bool p :: (((l.drop z).take (a - z)).map D.int ++ .bool q :: (l.drop a).map D.int) := by
  unfold insAt
  have hl : ((l.map D.int).take z).length = z := by simp; lia
  have e1 : (a + 1) = ((l.map D.int).take z).length + ((a - z) + 1) := by rw [hl]; lia
  rw [e1, List.take_length_add_append, List.drop_length_add_append, List.take_succ_cons, List.drop_succ_cons, List.drop_drop, show z + (a - z) = a by lia]
  simp [List.map_take, List.map_drop]
theorem numD_getD {l : List D} {i : Nat} {d : D} (h : l[i]? = some d) : (l.map numD).getD i 0 = numD d := by
  rw [List.getD_eq_getElem?_getD, List.getElem?_map, h]; rfl
theorem gtAt_okB {l : List D} (hn : ∀ d ∈ l, isNum d = true) {b : Bool} (i : Nat) (d : D) (h : l[i]? = some d) : LtOk (.bool b) d (gtAt (l.map numD) (numB b) i) := by
  have hd := hn d (List.mem_of_getElem? h)
  unfold gtAt; rw [numD_getD h]
  cases d <;> first | exact LtOk.bi | exact LtOk.bb | cases hd
theorem geAt_okB {l : List D} (hn : ∀ d ∈ l, isNum d = true) {b : Bool} (i : Nat) (d : D) (h : l[i]? = some d) : LtOk d (.bool b) (!geAt (l.map numD) (numB b) i) := by
  have hd := hn d (List.mem_of_getElem? h)
  unfold geAt; rw [numD_getD h, Bool.not_not]
  cases d <;> first | exact LtOk.ib | exact LtOk.bb | cases hd
theorem nums_int {l : List Int} : ∀ d ∈ l.map D.int, isNum d = true := fun d hd => by obtain ⟨i, _, rfl⟩ := List.mem_map.mp hd; rfl
theorem nums_ins {k b ds} (h : ∀ d ∈ ds, isNum d = true) : ∀ d ∈ insAt k (.bool b) ds, isNum d = true := fun d hd => (insAt_mem hd).elim (fun e => by rw [e]; rfl) (h d)
theorem map_num {l : List Int} : (l.map D.int).map numD = l := by rw [List.map_map]; exact List.map_id'' (fun _ => rfl) l
section
variable {row : List Int} (R : RowOk row)
include R
theorem row_ge : ∀ a ∈ row, 0 ≤ a := fun a ha => by
  obtain ⟨i, hi, rfl⟩ := List.getElem_of_mem ha
  have := R.lo i (by rw [← R.len]; exact hi)
  simpa [hi] using this
theorem z_le : cR row 0 ≤ cR row 1 ∧ cR row 1 ≤ 7 := ⟨cR_mono R.up (by decide), by have := (cR_iff R.up 1).1; rwa [R.len] at this⟩
theorem flag1 : bis (gtAt ((row.map D.int).map numD) (numB false)) 0 7 = cR row 0 := by rw [map_num]; unfold cR; rw [R.len]; rfl
theorem flag2 : bis (geAt ((row.map D.int).map numD) (numB false)) 0 7 = 0 := by
  rw [map_num]
  have h := cL_count (pairwise_of R.up) 0
  rw [cntL0 (row_ge R)] at h
  unfold cL at h; rw [R.len] at h; exact h
theorem ins_up1 : (insI (cR row 0) 0 row).Pairwise (· ≤ ·) := by
  obtain ⟨h1, h2⟩ := cR_iff R.up 0
  refine insI_sorted (pairwise_of R.up) (fun i a b => ?_) (fun i a b => ?_)
  · have := h2 i b; lia
  · have := h2 i b; lia
theorem ins_up2 : (insI 0 0 row).Pairwise (· ≤ ·) := insI_sorted (pairwise_of R.up) (fun i a b => by lia) (fun i a b => by rw [R.len] at b; exact R.lo i b)
omit R in
theorem insI_len {k x} {l : List Int} : (insI k x l).length = l.length + 1 := by rw [insI_perm.length_eq]; rfl
theorem flag3 : bis (gtAt ((insAt (cR row 0) (.bool false) (row.map D.int)).map numD) (numB true)) 0 8 = cR row 1 + 1 := by
  rw [insAt_num, map_num]
  have h : bis (gtAt (insI (cR row 0) 0 row) 1) 0 (insI (cR row 0) 0 row).length = _ := cR_count (ins_up1 R) 1
  rw [insI_len, R.len] at h
  refine Eq.trans h ?_
  rw [insI_perm.countP_eq, List.countP_cons, cR_count (pairwise_of R.up)]
  rfl
theorem flag4 : bis (geAt ((insAt 0 (.bool false) (row.map D.int)).map numD) (numB true)) 0 8 = cR row 0 + 1 := by
  rw [insAt_num, map_num]
  have h : bis (geAt (insI 0 0 row) 1) 0 (insI 0 0 row).length = _ := cL_count (ins_up2 R) 1
  rw [insI_len, R.len] at h
  refine Eq.trans h ?_
  rw [insI_perm.countP_eq, List.countP_cons, cntL1, cR_count (pairwise_of R.up)]
  rfl
theorem z_count : cR row 0 = row.count 0 := by rw [cR_count (pairwise_of R.up), cnt0 (row_ge R)]
theorem a_count : cR row 1 = row.count 0 + row.count 1 := by rw [cR_count (pairwise_of R.up), cnt1 (row_ge R)]
def laterD (row : List Int) : List D := insAt (cR row 1 + 1) (.bool true) (insAt (cR row 0) (.bool false) (row.map D.int))
def soonerD (row : List Int) : List D := insAt (cR row 0 + 1) (.bool true) (insAt 0 (.bool false) (row.map D.int))
theorem later_flags : ((laterD row).zipIdx.filter (fun p => isFlag p.1)).map (fun p => D.int (p.2 : Nat)) = [D.int (row.count 0 : Nat), D.int ((row.count 0 : Nat) + (row.count 1 : Nat) + 1)] := by
  obtain ⟨h1, h2⟩ := z_le R
  unfold laterD
  rw [two_in h1 (by rw [R.len]; exact h2), flags_at, ← z_count R]
  have ha := a_count R
  rw [← z_count R] at ha
  have e1 : (row.take (cR row 0)).length = cR row 0 := by simp [R.len]; lia
  have e2 : ((row.drop (cR row 0)).take (cR row 1 - cR row 0)).length = cR row 1 - cR row 0 := by simp [R.len]; lia
  rw [e1, e2]
  congr 3
  lia
theorem sooner_flags : ((soonerD row).zipIdx.filter (fun p => isFlag p.1)).map (fun p => D.int (p.2 : Nat)) = [D.int 0, D.int ((row.count 0 : Nat) + 1)] := by
  obtain ⟨h1, h2⟩ := z_le R
  unfold soonerD
  rw [two_in (Nat.zero_le _) (by rw [R.len]; lia), flags_at, ← z_count R]
  have e2 : ((row.drop 0).take (cR row 0 - 0)).length = cR row 0 := by simp [R.len]; lia
  rw [e2]
  congr 3
  simp; lia
theorem later_up : ((laterD row).map numD).Pairwise (· ≤ ·) := by
  obtain ⟨h1, h2⟩ := z_le R
  unfold laterD
  rw [insAt_num, insAt_num, map_num]
  show (insI (cR row 1 + 1) 1 (insI (cR row 0) 0 row)).Pairwise _
  have hu := rising_of (ins_up1 R)
  obtain ⟨c1, c2⟩ := cR_iff hu 1
  have h3 : cR (insI (cR row 0) 0 row) 1 = cR row 1 + 1 := by
    have h := flag3 R
    rw [insAt_num, map_num] at h
    show bis (gtAt (insI (cR row 0) 0 row) 1) 0 (insI (cR row 0) 0 row).length = _
    rw [insI_len, R.len]; exact h
  rw [h3] at c2
  refine insI_sorted (ins_up1 R) (fun i a b => ?_) (fun i a b => ?_)
  · have := c2 i b; show _ ≤ (1 : Int); lia
  · have := c2 i b; show (1 : Int) ≤ _; lia
theorem sooner_up : ((soonerD row).map numD).Pairwise (· ≤ ·) := by
  obtain ⟨h1, h2⟩ := z_le R
  unfold soonerD
  rw [insAt_num, insAt_num, map_num]
  show (insI (cR row 0 + 1) 1 (insI 0 0 row)).Pairwise _
  have hu := rising_of (ins_up2 R)
  obtain ⟨c1, c2⟩ := cL_iff hu 1
  have h3 : cL (insI 0 0 row) 1 = cR row 0 + 1 := by
    have h := flag4 R
    rw [insAt_num, map_num] at h
    show bis (geAt (insI 0 0 row) 1) 0 (insI 0 0 row).length = _
    rw [insI_len, R.len]; exact h
  rw [h3] at c2
  refine insI_sorted (ins_up2 R) (fun i a b => ?_) (fun i a b => ?_)
  · have := c2 i b; show _ ≤ (1 : Int); lia
  · have := c2 i b; show (1 : Int) ≤ _; lia
omit R in
theorem later_perm : ((laterD row).map numD).Perm (row ++ [0, 1]) := by
  unfold laterD
  rw [insAt_num, insAt_num, map_num]
  refine insI_perm.trans ((insI_perm.cons _).trans ?_)
  refine (List.Perm.swap _ _ _).trans ?_
  exact (List.perm_append_comm (l₁ := [0, 1]) (l₂ := row))
omit R in
theorem sooner_perm : ((soonerD row).map numD).Perm (row ++ [0, 1]) := by
  unfold soonerD
  rw [insAt_num, insAt_num, map_num]
  refine insI_perm.trans ((insI_perm.cons _).trans ?_)
  refine (List.Perm.swap _ _ _).trans ?_
  exact (List.perm_append_comm (l₁ := [0, 1]) (l₂ := row))
omit R in
theorem sorted_unique {a b : List Int} (h : a.Perm b) (ha : a.Pairwise (· ≤ ·)) (hb : b.Pairwise (· ≤ ·)) : a = b :=
  List.Perm.eq_of_pairwise (fun x y _ _ h1 h2 => by lia) ha hb h
end
set_option tactic.hygienic true in
/-- flags are as their numbers -/
theorem py_num : ∀ (l : List D), (∀ d ∈ l, isNum d = true) → ∃ ps qs, toPys l = some ps ∧ toPys ((l.map numD).map D.int) = some qs ∧ PySem.PyData.eqvAll ps qs = true ∧ PySem.PyData.depthAll ps ≤ 0
  | [], _ => ⟨[], [], rfl, rfl, rfl, Nat.le_refl _⟩
  | d :: l, h => by
    obtain ⟨ps, qs, h1, h2, h3, h4⟩ := py_num l fun x hx => h x (.tail _ hx)
    have hd := h d (.head _)
    cases d <;> first | cases hd | skip
    · rename_i b
      refine ⟨.bool b :: ps, .int (numB b) :: qs, by simp [toPys, toPy, h1], by simp only [List.map_cons, toPys, toPy, h2, numD], ?_, by simp [PySem.PyData.depthAll, PySem.PyData.depth]; lia⟩
      simp only [PySem.PyData.eqvAll, PySem.PyData.eqv, h3, Bool.and_true]
      cases b <;> rfl
    · rename_i i
      refine ⟨.int i :: ps, .int i :: qs, by simp [toPys, toPy, h1], by simp only [List.map_cons, toPys, toPy, h2, numD], ?_, by simp [PySem.PyData.depthAll, PySem.PyData.depth]; lia⟩
      simp [PySem.PyData.eqvAll, PySem.PyData.eqv, h3]

open PySem PySem.W PySem.Calls PyProof.Rows
set_option maxRecDepth 20000
theorem PyOk.two2 {a b c d : Int} : PyOk 20 (.lst [.lst ([a, b].map .int), .lst ([c, d].map .int)]) := by
  refine PyOk.le (k := 2) (PyOk.lst fun d hd => ?_) (by decide)
  simp only [List.mem_cons, List.not_mem_nil, or_false] at hd
  rcases hd with rfl | rfl <;> exact PyOk.ints
section
variable {g : G} (hK : g.K = hd.heap_39 g.w.params) (hT : g.tabs = tabs1)
include hK hT
set_option tactic.hygienic true in
set_option maxHeartbeats 8000000 in
theorem law_p5 {n : Nat} {μ : Mu} {env : Env} {own : List Addr} {L : Addr} {ρ : Str → Option D} {row : List Int} (he : env = callEnvC (lawFd g.w.params) L 76) (ho : own = ownOf (lawFd g.w.params) L)
    (R : RowOk row) (htb : (66, .tb 70 []) ∈ μ) (h2 : ρ "row" = some (.lst (row.map .int))) :
    Ex (g.push env) env own (n + 59) ρ μ ((lawStmts g.w.params).drop 13) QT := by
  have hlen := R.len
  have hpw := pairwise_of R.up
  have hge : ∀ a ∈ row, 0 ≤ a := fun a ha => by
    obtain ⟨i, hi, rfl⟩ := List.getElem_of_mem ha
    have := R.lo i (by lia)
    simpa [hi] using this
  refine Ex.seq (fun ρ' M => ∃ a1 a2, a1 ∉ μ.dom ∧ a2 ∉ μ.dom ∧ a1 ≠ a2 ∧ M = (a2, .ml (row.map .int)) :: (a1, .ml (row.map .int)) :: μ ∧ ρ' "row" = some (.lst (row.map .int)) ∧ ρ' "later" = some (.val (.ref a1)) ∧ ρ' "sooner" = some (.val (.ref a2)) ∧ ρ' "noughts" = some (.int (row.count 0 : Nat))) ?_ ?_
  · first
      | refine Ex1.assignT ?_ rfl (by subst he; exact rfl)
      | refine Ex1.assignS (names := ["later", "sooner", "noughts"]) ?_ (by intro x hx; simp only [List.mem_cons, List.not_mem_nil, or_false] at hx; rcases hx with rfl | rfl | rfl <;> walk_at "bind") (by subst he; exact rfl)
    repeat' walk_at "st"
    refine Calls.listMut .lst (by simp; lia) fun a1 ha1 => ?_
    repeat' walk_at "st"
    refine Calls.listMut .lst (by simp; lia) fun a2 ha2 => ?_
    simp only [Mu.dom, List.map_cons, List.mem_cons, not_or] at ha2
    repeat' walk_at "st"
    refine Ev.meth (id := "list.count") ?_ PySem.F.slot_list_count PySem.F.type_list_count
    repeat' walk_at "st"
    refine ⟨⟨_, .lst⟩, ?_⟩
    repeat' walk_at "st"
    refine Calls.count .lst ?_
    repeat' walk_at "st"
    refine ⟨_, rfl, rfl, ?_⟩
    rw [updL3]
    exact ⟨rfl, a1, a2, ha1, ha2.2, Ne.symm ha2.1, rfl, by walk_at "rho", upd_same, upd_ne (by decide) upd_same, by walk_at "rho"⟩
  rintro ρ M ⟨a1, a2, ha1, ha2, ha12, rfl, h2, h3, h4, h5⟩
  have g1 := flag1 R
  have g2 := flag2 R
  have g3 := flag3 R
  have g4 := flag4 R
  obtain ⟨z1, z2⟩ := z_le R
  refine Ex.seq (fun ρ' M => M = (a2, .ml (soonerD row)) :: (a1, .ml (laterD row)) :: μ ∧ ρ' "row" = some (.lst (row.map .int)) ∧ ρ' "later" = some (.val (.ref a1)) ∧ ρ' "sooner" = some (.val (.ref a2)) ∧ ρ' "noughts" = some (.int (row.count 0 : Nat))) ?_ ?_
  · refine Ex1.for (by lia) (EvI.list (Ev.list ?_))
    repeat' walk_at "st"
    refine ⟨_, rfl, ?_⟩
    have len1 : ∀ {k : Nat} {d : D} {ds : List D}, k ≤ ds.length → (insAt k d ds).length = ds.length + 1 := fun {k d ds} h => by unfold insAt; simp; lia
    have l7 : (row.map D.int).length = 7 := by simp [hlen]
    refine ForL.cons (.name (by walk_at "bind") ?_)
    refine Ex.cons (Ex1.expr (Ev.call ?_))
    repeat' walk_at "st"
    refine insR_body (g := g.push env) hK (p := gtAt ((row.map D.int).map numD) (numB false)) (lo := 0) (hi := 7) (BB.ok hK (by constructor)) (.tail _ (.head _)) (by lia) (by lia) (by lia) (.inr ⟨rfl, by lia⟩) (gtAt_okB nums_int) ?_
    rw [g1, setMu_miss (Ne.symm ha12), setMu_hit]
    refine ⟨rfl, next_of ?_⟩
    refine Ex.cons (Ex1.expr (Ev.call ?_))
    repeat' walk_at "st"
    refine insL_body (g := g.push env) hK (p := geAt ((row.map D.int).map numD) (numB false)) (lo := 0) (hi := 7) (BB.ok hK (by constructor)) (.head _) (by lia) (by lia) (by lia) (.inr ⟨rfl, by lia⟩) (geAt_okB nums_int) ?_
    rw [g2, setMu_hit]
    refine ⟨rfl, next_of (Ex.nil ?_)⟩
    have l8 : (insAt (cR row 0) (.bool false) (row.map D.int)).length = 8 := by rw [len1 (by lia), l7]
    have l8' : (insAt 0 (.bool false) (row.map D.int)).length = 8 := by rw [len1 (by lia), l7]
    refine ForL.cons (.name (by walk_at "bind") ?_)
    refine Ex.cons (Ex1.expr (Ev.call ?_))
    repeat' walk_at "st"
    refine insR_body (g := g.push env) hK (p := gtAt ((insAt (cR row 0) (.bool false) (row.map D.int)).map numD) (numB true)) (lo := 0) (hi := 8) (BB.ok hK (by constructor)) (.tail _ (.head _)) (by lia) (by lia) (by lia) (.inr ⟨rfl, by lia⟩) (gtAt_okB (nums_ins nums_int)) ?_
    rw [g3, setMu_miss (Ne.symm ha12), setMu_hit]
    refine ⟨rfl, next_of ?_⟩
    refine Ex.cons (Ex1.expr (Ev.call ?_))
    repeat' walk_at "st"
    refine insL_body (g := g.push env) hK (p := geAt ((insAt 0 (.bool false) (row.map D.int)).map numD) (numB true)) (lo := 0) (hi := 8) (BB.ok hK (by constructor)) (.head _) (by lia) (by lia) (by lia) (.inr ⟨rfl, by lia⟩) (geAt_okB (nums_ins nums_int)) ?_
    rw [g4, setMu_hit]
    refine ⟨rfl, next_of (Ex.nil ?_)⟩
    refine ForL.nil ?_
    exact ⟨rfl, rfl, by walk_at "rho", by walk_at "rho", by walk_at "rho", by walk_at "rho"⟩
  rintro ρ M ⟨rfl, h2, h3, h4, h5⟩
  have n1 : ∀ d ∈ laterD row, isNum d = true := nums_ins (nums_ins nums_int)
  have n2 : ∀ d ∈ soonerD row, isNum d = true := nums_ins (nums_ins nums_int)
  have m1 : (laterD row).length = 9 := by have := (later_perm (row := row)).length_eq; simpa [hlen] using this
  have m2 : (soonerD row).length = 9 := by have := (sooner_perm (row := row)).length_eq; simpa [hlen] using this
  refine Ex.freeze (reUpd (x := "sooner") h4 .hit) ?_
  refine Ex.freeze (reUpd (x := "later") (upd_ne (by decide) h3) .hit) ?_
  refine Ex.skipIf (Et.cmp ?_ ?h) ?_
  case h => with_unfolding_all rfl
  · walk_at "comp"
    refine EvI.list (Ev.list ?_)
    repeat' walk_at "st"
    refine ⟨_, rfl, ?_⟩
    intro cenv C hce
    refine CompL.mapA (xs := [laterD row, soonerD row]) D.lst (fun ds => D.lst ((ds.zipIdx.filter (fun p => isFlag p.1)).map (fun p => D.int (p.2 : Nat)))) (by walk_at "bind") _ (by show 0 + 2 ≤ 100000; decide) (fun ds hds Q hQ => ?_) (fun r => ?_)
    · have hz : (∀ d ∈ ds, isNum d = true) ∧ ds.length = 9 := by
        simp only [List.mem_cons, List.not_mem_nil, or_false] at hds
        rcases hds with rfl | rfl
        · exact ⟨n1, m1⟩
        · exact ⟨n2, m2⟩
      walk_at "comp"
      refine EvI.enum ?_
      repeat' walk_at "st"
      refine ⟨rfl, rfl, ?_⟩
      repeat' walk_at "st"
      refine ⟨_, rfl, ?_⟩
      intro cenv2 C2 hce2
      rw [enumD_map, List.map_map]
      refine CompL.filterA2 (fun p : D × Nat => D.int (0 + (p.2 : Nat))) (fun p => p.1) (fun p => D.int (p.2 : Nat)) (fun p => isFlag p.1) (by walk_at "bind") (by walk_at "bind") _ _ (by simp; lia) (fun p hp Q hQ => ?_) (fun p hp hc Q hQ => ?_) (fun r => ?_)
      · have hpn := hz.1 p.1 (by have := List.mem_map_of_mem (f := Prod.fst) hp; rwa [List.zipIdx_map_fst] at this)
        obtain ⟨pd, k⟩ := p
        dsimp only at hpn hQ ⊢
        refine Et.or ?_
        unfold EtAll
        cases pd <;> first | exact absurd hpn Bool.false_ne_true | skip
        · rename_i b
          repeat' walk_at "st"
          refine Act2.isBool ?_
          cases b with
          | false => exact TBool.of (tt_of hQ)
          | true =>
            refine TBool.of (ff_of ?_)
            unfold EtAll
            repeat' walk_at "st"
            refine Act2.isBool ?_
            exact TBool.of (tt_of hQ)
        · repeat' walk_at "st"
          refine Act2.isBoolInt ?_
          refine TBool.of (ff_of ?_)
          unfold EtAll
          repeat' walk_at "st"
          refine Act2.isBoolInt ?_
          refine TBool.of (ff_of ?_)
          unfold EtAll
          exact hQ
      · repeat' walk_at "st"
        rw [Int.zero_add]; exact hQ
      · exact hQ
    show Ev _ _ _ _ _ _ _ _
    have hlist : (List.map (fun ds : List D => D.lst ((ds.zipIdx.filter (fun p => isFlag p.1)).map (fun p => D.int (p.2 : Nat)))) [laterD row, soonerD row]) = [D.lst (([((row.count 0 : Nat) : Int), (row.count 0 : Nat) + (row.count 1 : Nat) + 1] : List Int).map D.int), D.lst (([0, (row.count 0 : Nat) + 1] : List Int).map D.int)] := by
      rw [List.map_cons, List.map_cons, List.map_nil, later_flags R, sooner_flags R]; rfl
    rw [List.nil_append, hlist]
    refine Ev.list ?_
    repeat' walk_at "st"
    refine Ev.list ?_
    repeat' walk_at "st"
    refine Ev.meth (id := "list.count") ?_ PySem.F.slot_list_count PySem.F.type_list_count
    repeat' walk_at "st"
    refine ⟨⟨_, .lst⟩, ?_⟩
    repeat' walk_at "st"
    refine Calls.count .lst ?_
    repeat' walk_at "st"
    refine Ev.list ?_
    repeat' walk_at "st"
    refine Act2.neSame rfl PyOk.two2 ?_
    exact TBool.of ⟨rfl, rfl⟩
  refine Ex.seq (fun ρ' M => M = μ ∧ ρ' "row" = some (.lst (row.map .int)) ∧ ρ' "later" = some (.lst (laterD row)) ∧ ρ' "sooner" = some (.lst (soonerD row)) ∧ ρ' "kept" = some (.lst (row.map .int))) ?_ ?_
  · repeat' walk_at "st"
    refine Calls.listSeq .lst (by simp; lia) ?_
    exact ⟨rfl, rfl, by walk_at "rho", by walk_at "rho", by walk_at "rho", upd_same⟩
  rintro ρ M ⟨rfl, h2, h3, h4, h5⟩
  refine Ex.cons (Ex1.ret (Ev.and ?_))
  refine Ev.cmp ?_ (by with_unfolding_all rfl)
  refine Ev.list ?_
  repeat' walk_at "st"
  refine Ev.list ?_
  repeat' walk_at "st"
  refine Ev.list ?_
  repeat' walk_at "st"
  refine Act2.cat .lst .lst (by simp; lia) ?_
  rw [show (row.map D.int ++ [D.int 0, D.int 1]) = (row ++ [0, 1]).map D.int by simp]
  repeat' walk_at "st"
  refine Calls.sortedInts .lst (by simp; lia) fun s hp hs => ?_
  have s1 : s = (laterD row).map numD := sorted_unique (hp.trans later_perm.symm) hs (later_up R)
  have s2 : s = (soonerD row).map numD := sorted_unique (hp.trans sooner_perm.symm) hs (sooner_up R)
  obtain ⟨ps1, qs1, x1, x2, x3, x4⟩ := py_num (laterD row) n1
  obtain ⟨ps2, qs2, y1, y2, y3, y4⟩ := py_num (soonerD row) n2
  rw [← s1] at x2
  rw [← s2] at y2
  obtain rfl : qs1 = qs2 := by rw [x2] at y2; exact Option.some.inj y2
  repeat' walk_at "st"
  refine Act2.rep .lst (by decide) (by simp) (by decide) ?_
  refine Act2.eqD (p := .list [.list ps1, .list ps2]) (q := .list [.list qs1, .list qs1]) (by simp [toPy, toPys, x1, y1]) (by show toPy (.lst [.lst (s.map D.int), .lst (s.map D.int)]) = _; simp [toPy, toPys, x2]) (by simp only [PySem.PyData.depth, PySem.PyData.depthAll]; lia) ?_
  rw [show PySem.PyData.eqv (.list [.list ps1, .list ps2]) (.list [.list qs1, .list qs1]) = true by simp [PySem.PyData.eqv, PySem.PyData.eqvAll, x3, y3]]
  refine ⟨true, rfl, fun _ => ?_, fun h => nomatch h⟩
  refine Ev.and ?_
  refine Ev.cmp ?_ (by with_unfolding_all rfl)
  repeat' walk_at "st"
  refine refused_body (g := g.push env) (row := row) hK .lst htb fun μ' hμ' h66 => ?_
  repeat' walk_at "st"
  refine Ev.list ?_
  repeat' walk_at "st"
  refine Act2.rep .lst (by decide) (by simp) (by decide) ?_
  refine Act2.eqSame rfl (PyOk.le (k := 1) (PyOk.lst fun d hd => ?_) (by decide)) ?_
  · simp only [List.mem_cons, List.not_mem_nil, or_false, or_self] at hd
    subst hd; exact PyOk.str (by first | rfl | decide +kernel)
  refine ⟨true, rfl, fun _ => ?_, fun h => nomatch h⟩
  refine Ev.and1 ?_
  refine Ev.cmp ?_ (by with_unfolding_all rfl)
  repeat' walk_at "st"
  refine Act2.eqSame rfl (PyOk.ints.le (by decide)) ?_
  exact ret_of ⟨rfl, h66⟩
end

open PySem PySem.W PySem.Calls PyProof.Rows
set_option maxRecDepth 20000
section
variable {g : G} (hK : g.K = hd.heap_39 g.w.params) (hT : g.tabs = tabs1)
include hK hT
theorem law_whole {script : List Int} {n : Nat} {μ : Mu} (hs : script.length ≤ 63) (htb : (66, .tb 70 []) ∈ μ) :
    Calls g (n + 60) (.val (.ref 76)) [.lst (script.map .int)] [] μ (fun d μ' => d = .bool true ∧ ∃ ps, (66, MO.tb 70 ps) ∈ μ') := by
  refine' Calls.enter (fa := 76) (hK := ?a) (hfo := ?b) (hbody := ?c) (hclo := ?d) (hglob := ?e) (hblt := ?f) (hcode := ?gg) (hco := ?h) (hgen := ?i) (hk := ?j)
    (bd := [("script", .lst (script.map .int))]) ?bb (nm := ["script"]) (hnm := rfl) (hnames := ?k) (by decide) (hcn := ?l) ?_
  case a => rw [hK]; rfl
  case b => rfl
  case c => rfl
  case d => rfl
  case e => rfl
  case f => rfl
  case gg => rw [hK]; rfl
  case h => rfl
  case i => rfl
  case j => rfl
  case k => rfl
  case l => decide
  case bb => exact (BB.ok (fa := 76) hK (by constructor)) _ _ (by rw [hK]; rfl) rfl
  intro env own L he ho
  refine Ex.mono (law_p1 hK hT he ho hs ?_) fun f r μ' h => by obtain ⟨rfl, h⟩ := h; exact ⟨rfl, h⟩
  intro ρ cs FR kd hcs hFl hFs hFb hkd h2 h4 h1
  refine law_p2 hK hT he ho hFl hFs hFb h2 h4 h1 ?_
  intro ρ row R h3 h1 h2 h4 h5 h6 h7 h8
  refine law_p3 hK hT he ho hcs h1 h2 h3 h4 h5 h6 h7 h8 ?_
  intro ρ lo hi hlh hh h2 h3 h4 h5 h6 h7 h8 h9 h10
  refine law_p4 hK hT he ho R hlh hh hkd h2 h3 h4 h5 h6 h7 h8 h9 h10 ?_
  intro ρ h2
  exact law_p5 hK hT he ho R htb h2
end

open PySem PySem.W PySem.Calls PyProof.Rows
set_option maxRecDepth 20000
theorem wellAll_ints {P : Params} {h : Heap} {F : FM} : ∀ {vs : List Value} {ns : List Int}, WellAll P h vs (ofPys (ns.map PyData.int)) → SeesAll F vs (ns.map D.int)
  | [], [], _ => .nil
  | [], _ :: _, w => by cases w
  | _ :: _, [], w => by cases w
  | v :: vs, n :: ns, w => by
    cases w with
    | cons a b => cases a; exact .cons (.int _ _) (wellAll_ints b)

/-- the heap without the code tables -/
abbrev baseOf (h : Heap) (as : List Addr) : Heap := hideAll h as
theorem baseOf_get {h : Heap} {as : List Addr} (hT : ∀ P ∈ as, h.get? P = some (tabObj #[])) {b : Addr} {o : Obj} (e : h.get? b = some o) (hn : ∀ vs, o.data ≠ .fields vs) : (baseOf h as).get? b = some o :=
  hideAll_get _ e fun q => by have := hT b q; rw [e] at this; cases this; exact hn _ rfl
theorem baseOf_ns {h : Heap} {as : List Addr} (hT : ∀ P ∈ as, h.get? P = some (tabObj #[])) {b : Addr} {m} (e : h.Ns b m) : (baseOf h as).Ns b m := by
  obtain ⟨o, es, ep, e, d, r⟩ := e
  exact ⟨o, es, ep, baseOf_get hT e (fun vs q => by rw [d] at q; cases q), d, r⟩
theorem baseOf_top {p : Program} {loose : List Str} {mean : ExcName → Option Value} {mg mb : Str → Option Value} {h : Heap} {as : List Addr} (T : Top p loose mean mg mb h) (hT : ∀ P ∈ as, h.get? P = some (tabObj #[])) : TopRead p loose mg mb (baseOf h as) := by
  refine ⟨baseOf_ns hT T.g, baseOf_ns hT T.b, ?_, T.builtins, T.free⟩
  obtain ⟨mc, h1, h2⟩ := T.nolimit
  exact ⟨mc, baseOf_ns hT h1, h2⟩

abbrev tabList : List Addr := [66, 59, 73]
noncomputable def G1 {p : Program} {loose : List Str} {mean : ExcName → Option Value} {mg mb : Str → Option Value} (prog : Program) (w : World) (h : Heap) (T : Top p loose mean mg mb h) (KX : (hd.heap_39 w.params).In h) (hT : ∀ P ∈ tabList, h.get? P = some (tabObj #[])) : G :=
  have X : (hd.heap_39 w.params).In (baseOf h tabList) := fun a o e => hideAll_get _ (KX a o e) fun q => by
    simp only [tabList, List.mem_cons, List.not_mem_nil, or_false] at q
    rcases q with rfl | rfl | rfl
    · exact nomatch (show (Option.none : Option Obj) = some o from e)
    · exact nomatch (show (Option.none : Option Obj) = some o from e)
    · exact nomatch (show (Option.none : Option Obj) = some o from e)
  { prog := prog, w := w, base := baseOf h tabList, K := hd.heap_39 w.params, p := p, loose := loose, mg := mg, mb := mb, tabs := tabs1, X := X, T := baseOf_top T hT,
    hd := fun q hq => by
      simp only [tabs1, List.mem_cons, List.not_mem_nil, or_false] at hq
      rcases hq with rfl | rfl
      · exact codeHd_of_K X (by rfl)
      · exact codeHd_of_K X (by rfl)
    bm := by
      obtain ⟨bm, ob, b1, b2, b3, b4, b5, b6⟩ := T.bmain
      exact ⟨bm, ob, b1, b2, baseOf_get hT b3 (fun vs q => by rw [b6] at q; cases q), b4, b5, b6⟩
    fcs := [], stk := [] }

theorem join1 {p : Program} {loose : List Str} {mean : ExcName → Option Value} {mg mb : Str → Option Value} {prog : Program} {w : World} {s : Shared} {fa l : Addr} {ns : List Int} (T : Top p loose mean mg mb s.heap) (KX : (hd.heap_39 w.params).In s.heap)
    (hT : ∀ P ∈ tabList, s.heap.get? P = some (tabObj #[])) (hm : mg "law" = some (.ref fa)) (w1 : Well w.params s.heap (.ref l) (ofPy (PyData.list (ns.map .int)))) (hl : ns.length ≤ 63) :
    wpAny (model prog w) callerA (call (.ref fa) [.ref l]) (fun v s' => v = .bool true ∧ OldK s.heap s'.heap ∧ s'.os = s.os ∧ s'.gens = s.gens) (fun _ _ => False) s := by
  have e76 : mg "law" = some (.ref 76) := mg_of KX T.g (by rfl)
  rw [hm] at e76
  cases e76
  let g := G1 prog w s.heap T KX hT
  let F : FM := fun a => (baseOf s.heap tabList).get? a
  have hno : ∀ P ∈ tabList, F P = none := fun P hP => hideAll_none _ hP
  have kp : ∀ b o, s.heap.get? b = some o → b ∉ tabList → F b = some o := fun b o e hb => hideAll_get _ e hb
  have gs : GSt g [(66, .tb 70 [])] F s.heap := by
    refine ⟨fun a o e => e, fun a o e => of_hideAll _ e, fun q hq => ?_, fun q hq => ?_, by simp [Mu.dom], (fun c hc => by cases hc), fun a ha => ?_, (fun e he => by cases he)⟩
    · have hq : q ∈ tabs1 := hq
      simp only [tabs1, List.mem_cons, List.not_mem_nil, or_false] at hq
      rcases hq with rfl | rfl
      · exact ⟨hno 59 (by simp), #[], hT 59 (by simp), trivial, fun pos cv z => nomatch z⟩
      · exact ⟨hno 73 (by simp), #[], hT 73 (by simp), trivial, fun pos cv z => nomatch z⟩
    · rw [List.mem_singleton.mp hq]
      obtain ⟨o, eo⟩ : ∃ o, (hd.heap_39 w.params).lookup 70 = some o := ⟨_, rfl⟩
      refine ⟨hno 66 (by simp), _, hT 66 (by simp), rfl, trivial, o, g.X _ _ eo, fun h e => ?_⟩
      have := codeHd_of_K g.X (c := 70) (P := 66) (by rfl)
      obtain ⟨o', vs, file, tf, flags, tg, inF, text, tt, q1, q2⟩ := this
      have q1' : (baseOf s.heap tabList).get? 70 = some o := g.X _ _ eo
      rw [show (baseOf s.heap tabList).get? 70 = some o' from q1] at q1'
      cases q1'
      exact ⟨_, vs, file, tf, flags, tg, inF, text, tt, e, q2⟩
    · simp only [Mu.dom, List.map_cons, List.map_nil, List.mem_singleton] at ha
      subst ha
      show 66 ∉ tabs1.map (·.2.1)
      decide
  have ok : Ok g 60 callerA := ⟨by decide, by decide, rfl, rfl⟩
  have sl : Sees F (.ref l) (.lst (ns.map D.int)) := by
    have w1 : Well w.params s.heap (.ref l) (.list (ofPys (ns.map PyData.int))) := w1
    cases w1 with
    | list e wa =>
      refine .lst (kp _ _ e fun q => ?_) (by simpa using wellAll_ints wa)
      have := hT _ q
      rw [e] at this; cases this
  refine wpAny_mono (law_whole (g := g) (n := 0) rfl rfl hl (.head _) callerA F s (.ref 76) [.ref l] [] ok gs (.val _) (.cons sl .nil) .nil rfl) (fun v s' ⟨d, μ', F', t, G', sv, hd, ps, h66⟩ => ?_) fun _ _ x => x
  subst hd
  cases sv
  refine ⟨rfl, ⟨fun b o e => ?_, fun b o e => t.live b o e⟩, t.os, t.gens⟩
  by_cases hb : b ∈ tabList
  · have e0 := hT b hb
    rw [e] at e0; cases e0
    have grown : ∀ ps : Array Value, s'.heap.get? b = some (tabObj ps) → isCodeTable s.heap b → asItWas s.heap s'.heap b (tabObj #[]) := fun ps h1 h2 =>
      .inr (.inl ⟨h2, rfl, #[], ps, rfl, by rw [h1]; simp [tabObj]⟩)
    have ct : ∀ c, CodeHd g.base c b → isCodeTable s.heap b := fun c ⟨o, vs, _, _, _, _, _, _, _, q1, q2, q3, q4, _⟩ => ⟨c, o, vs, of_hideAll _ q1, q2, q3, q4⟩
    simp only [tabList, List.mem_cons, List.not_mem_nil, or_false] at hb
    rcases hb with rfl | rfl | rfl
    · obtain ⟨_, o', e', k⟩ := G'.mu _ h66
      obtain ⟨rfl, _⟩ := k
      exact grown _ e' (ct 70 (codeHd_of_K g.X (by rfl)))
    · obtain ⟨_, qs, e', _⟩ := G'.tb (63, 59, _) (show _ ∈ tabs1 from .head _)
      exact grown _ e' (ct 63 (codeHd_of_K g.X (by rfl)))
    · obtain ⟨_, qs, e', _⟩ := G'.tb (75, 73, _) (show _ ∈ tabs1 from .tail _ (.head _))
      exact grown _ e' (ct 75 (codeHd_of_K g.X (by rfl)))
  · exact .inl (G'.fz _ _ (t.le _ _ (kp b o e hb)))

end Mine
open PySem PySem.W PyProof.Rows
set_option maxRecDepth 20000
set_option tactic.hygienic true in
set_option maxHeartbeats 4000000 in
theorem PySem.Challenge.cw_ta0001_01_holds : PySem.Challenge.rw_ta0001_01.Holds := by
  refine Mine.hd ?_
  intro w s₀ s₁ mg mb G Y fa o pm cd doc dV kV ho hd hcd hD hmg hg args vals as hpre hlay hrd hwl hlo
  have KX := km_in_of Y
  have KT := km_tabs_of Y
  have T := G.T
  clear ho hd hcd hD
  wrow_args hpre hlay hrd hwl hlo
  rename_i ns hs hlay0 hL1 hr1 hl2 as4 as3 l vs as0 hL ra w1 r0 hI hr hcond hc2
  have hl : ns.length ≤ 63 := by omega
  refine wpAny_mono (Mine.join1 (fa := fa) (l := l) (ns := ns) T KX KT hmg w1 hl) (fun v s' ⟨e, o, os, gs⟩ => ?_) fun _ _ x => x.elim
  subst e
  exact ⟨.inl ⟨.bool true, .bool true, [], rfl, fun _ => rfl, .bool _, by wrow_post, fun _ => ⟨List.nodup_nil, fun a h => nomatch h⟩⟩, o, os, .of_eq (gs.trans hg)⟩

